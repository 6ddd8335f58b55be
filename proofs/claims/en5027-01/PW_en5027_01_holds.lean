import PyProof.Rows.All
import PyProof.RulesRaise
import PyProof.RulesSmallArms
import OpenK.KMore
import KE.KxBytes
import KE.BytesMake
import KE.KDictAny
import KE.KDictList
import KE.KDictNew
import KE.KEqSeq
import KE.KEqDict
import KE.KIntText
import KE.KSetIn
import KE.KxDecode
import KE.KxPart
import Wide.All
import OpenK.AllK
import Wide.FinOn
import PySem.Challenge.RW_en5027_01
set_option Elab.async false
section
open PySem PySem.W PyProof.Rows
set_option Elab.async false
namespace Mine
-- both tables of codes into the head's hook
local macro_rules
  | `(tactic| o_head (kmHook $K $a $e $t)) => match t with
    | `($_ :: $_) => `(tactic| o_head (kmHook $K $a $e [52, 59]))
    | _ => Lean.Macro.throwUnsupported
set_option maxRecDepth 100000 in
set_option maxHeartbeats 8000000 in
open_top hd for PySem.Challenge.rw_en5027_01
end Mine
end
section
open PySem PySem.W PySem.Calls PyProof.Rows
set_option Elab.async false
set_option maxRecDepth 100000
namespace Mine

abbrev pg : Program := PySem.Challenge.pw_en5027_01

/-- what stands of the top at every heap behind it -/
structure Wd (w : World) (h : Heap) : Prop where
  K : (hd.heap_39 w.params).In h
  T : ∃ loose mean mg mb, Top topProg loose mean mg mb h
  C1 : CodeHd h 56 52
  C2 : CodeHd h 61 59

theorem Wd.keeps {w : World} {h h' : Heap} (W : Wd w h) (k : ∀ b o, h.get? b = some o → h'.get? b = some o) : Wd w h' :=
  ⟨W.K.keeps k, let ⟨a, b, c, d, T⟩ := W.T; ⟨a, b, c, d, T.keeps k⟩, W.C1.keeps k, W.C2.keeps k⟩

section
variable {w : World} {A : Around} {E : Value → Shared → Prop} {s : Shared}

theorem call_def {name qual : Str} {params : Arguments} {body : List Stmt} {scope : Scope} {dV kV doc pm cdv ct oc : Value} {an od : Option Addr} {osl : Array (Option Value)} {f : Addr} {vals : List Value} {kw : List (Str × Value)} {binds : List (Str × Value)} {Q : Value → Shared → Prop}
    (W : Wd w s.heap) (ho : (hd.heap_39 w.params).lookup f = some ⟨oc, od, .func (fnOf name qual params body scope dV kV doc pm an cdv ct), osl⟩)
    (hcd : codeIn (hd.heap_39 w.params) cdv qual = true) (hroom : A.depth < recursionLimit)
    (hbind : BindsTo s (fnOf name qual params body scope dV kV doc pm an cdv ct) ⟨vals, kw⟩ binds) (hloc : ∀ y ∈ binds, scope.names.lookup y.1 = some .local)
    (h : ∀ h₁, Fr s.heap s.heap.objs.size h₁ (fun y => binds.reverse.lookup y) →
      wpAny (model pg w) (A.deeper (envOf qual scope s.heap.objs.size f cdv)) (execs body (envOf qual scope s.heap.objs.size f cdv))
        (fun fl s' => Q (match fl with | .ret v => v | _ => .none) s') (fun _ _ => False)
        { s with heap := h₁, toks := s.toks + binds.length })
    (hcell : ∀ x ∈ scope.names, x.2 ≠ .cell := by decide) (hco : scope.isCoroutine = false := by rfl) (hgen : scope.isGenerator = false := by rfl) (hk : scope.kind = .function := by rfl) :
    wpAny (model pg w) A (call (.ref f) vals kw) Q E s := by
  obtain ⟨_, _, _, _, T⟩ := W.T
  refine wpAny_call (codeAny_call_def (fd := fnOf name qual params body scope dV kV doc pm an cdv ct) (body := body) (binds := binds) hroom (W.K _ _ ho) rfl T.nolimit (codeRec_of W.K hcd) rfl hbind hcell hloc (fun h₁ hns hk₁ => ?_) hco hgen hk)
  exact wpAny_mono (h h₁ ⟨hns, hk₁, Nat.le_refl _⟩) (fun fl s' hl => hl) fun _ _ x => x.elim
end
end Mine
end
section
open PySem PySem.W PySem.Calls PyProof.Rows
set_option Elab.async false
namespace Mine

/-- a text by its codes -/
def S (l : List Nat) : Str := ⟨l.toArray⟩
theorem S_inj {a b : List Nat} : S a = S b ↔ a = b := ⟨fun h => by have := congrArg (fun x => x.cps.toList) h; simpa [S] using this, fun h => by rw [h]⟩
theorem S_of (x : Str) : x = S x.cps.toList := by cases x; simp [S]
theorem S_cps (l : List Nat) : (S l).cps = l.toArray := rfl
theorem S_length (l : List Nat) : (S l).length = l.length := by simp [S, Str.length]
theorem S_append (a b : List Nat) : S a ++ S b = S (a ++ b) := by
  show Str.mk (a.toArray ++ b.toArray) = _
  simp [S]
theorem S_nil : Str.ofString "" = S [] := by decide +kernel
theorem S_empty : Str.empty = S [] := rfl
theorem S_beq (a b : List Nat) : (S a == S b) = decide (a = b) := by
  by_cases h : a = b
  · subst h; simp
  · simp [h, S_inj, beq_eq_false_iff_ne]
theorem S_bne (a b : List Nat) : (S a != S b) = !decide (a = b) := by
  show (!(S a == S b)) = _
  rw [S_beq]
theorem item_S {l : List Nat} {i : Nat} (h : i < l.length) : Txt.item (S l) (i : Int) = S [l.getD i 0] := by
  have h2 : (i : Int) < ((S l).length : Int) := by rw [S_length]; omega
  rw [item_meets ⟨by omega, h2⟩]
  simp [S]
theorem item_S' {l : List Nat} {i : Int} (h0 : 0 ≤ i) (h : i < l.length) : Txt.item (S l) i = S [l.getD i.toNat 0] := by
  obtain ⟨n, rfl⟩ := Int.eq_ofNat_of_zero_le h0
  rw [item_S (by omega)]; rfl
end Mine
namespace Mine
open Builtin Builtin.Str
def clipN (n : Nat) (v : Option Int) (d : Nat) : Nat := match v with
  | none => d
  | some i => (min (if i < 0 then i + n else i) n).toNat
theorem clipN_le {n : Nat} {v : Option Int} {d : Nat} (h : d ≤ n) : clipN n v d ≤ n := by
  unfold clipN; split <;> omega
theorem fm_some {α β : Type} (l : List α) (f : α → Option β) (g : α → β) (h : ∀ k ∈ l, f k = some (g k)) : l.filterMap f = l.map g := by
  induction l with
  | nil => rfl
  | cons x r ih => rw [List.filterMap_cons, h x (.head _), ih fun k hk => h k (.tail _ hk)]; rfl
theorem range_take_drop (l : List Nat) (a b : Nat) (hb : b ≤ l.length) : ((List.range (b - a)).map (fun k => a + k)).filterMap (fun i => l[i]?) = (l.take b).drop a := by
  apply List.ext_getElem?
  intro i
  by_cases h : i < b - a
  · have e : ((List.range (b - a)).map (fun k => a + k)).filterMap (fun i => l[i]?) = (List.range (b - a)).map (fun k => l.getD (a + k) 0) := by
      rw [List.filterMap_map]
      have : ∀ k ∈ List.range (b - a), ((fun i => l[i]?) ∘ fun k => a + k) k = some (l.getD (a + k) 0) := by
        intro k hk
        have := List.mem_range.mp hk
        have h2 : a + k < l.length := by omega
        simp [List.getD_eq_getElem?_getD, h2]
      exact fm_some _ _ _ this
    rw [e]
    have h2 : a + i < l.length := by omega
    have h3 : a + i < b := by omega
    simp [h, List.getElem?_drop, h3, h2, List.getD_eq_getElem?_getD]
  · have e : (((List.range (b - a)).map (fun k => a + k)).filterMap (fun i => l[i]?)).length ≤ i := by
      refine Nat.le_trans (List.length_filterMap_le _ _) ?_
      simp; omega
    rw [List.getElem?_eq_none e, List.getElem?_eq_none]
    simp; omega
theorem indices_S (a b : Option Int) (n : Nat) : strSliceIndices a b 1 n = (List.range (clipN n b n - clipN n a 0)).map (fun k => clipN n a 0 + k) := by
  unfold strSliceIndices sliceRange
  have key : ∀ (lo hi : Int) (x y : Nat), lo = x → hi = y → (List.range (if (1:Int) > 0 then (if lo < hi then (hi - lo + 1 - 1) / 1 else 0) else (if lo > hi then (lo - hi - 1 - 1) / (-1) else 0)).toNat).map (fun (k : Nat) => (lo + 1 * (k : Int)).toNat) = (List.range (y - x)).map (fun k => x + k) := by
    intro lo hi x y h1 h2
    subst h1 h2
    have e : (if (1:Int) > 0 then (if (x : Int) < y then ((y : Int) - x + 1 - 1) / 1 else 0) else (if (x : Int) > y then ((x : Int) - y - 1 - 1) / (-1) else 0)).toNat = y - x := by
      rw [if_pos (by decide)]
      split
      · rw [Int.ediv_one]; omega
      · omega
    rw [e]
    apply List.map_congr_left
    intro k _
    omega
  apply key
  · unfold clipN; cases a with
    | none => simp
    | some i => simp only [show (1:Int) > 0 by decide, if_true]; split <;> omega
  · unfold clipN; cases b with
    | none => simp
    | some i => simp only [show (1:Int) > 0 by decide, if_true]; split <;> omega
theorem slice_S (l : List Nat) (a b : Option Int) : Txt.slice (S l) a b = S ((l.take (clipN l.length b l.length)).drop (clipN l.length a 0)) := by
  have hb : clipN l.length b l.length ≤ l.length := clipN_le (Nat.le_refl _)
  have hm := range_take_drop l (clipN l.length a 0) (clipN l.length b l.length) hb
  unfold Txt.slice
  rw [S_length, indices_S]
  split
  · rename_i h
    simp at h
    have h0 : clipN l.length a 0 = 0 ∧ clipN l.length b l.length = l.length ∨ l.length = 0 := by omega
    rcases h0 with h0 | h0
    · rw [h0.1, h0.2]; simp
    · have : l = [] := List.eq_nil_of_length_eq_zero h0
      subst this; simp
  · rw [← hm]
    show Str.mk _ = Str.mk _
    congr 1
    simp [S_cps]
/-- a slice of a list -/
def cut (l : List Nat) (a b : Option Int) : List Nat := (l.take (clipN l.length b l.length)).drop (clipN l.length a 0)
theorem cut_le (l : List Nat) (a b : Option Int) : (cut l a b).length ≤ l.length := by unfold cut; simp; omega
theorem tn_sub1 (n : Nat) : ((n : Int) - 1).toNat = n - 1 := by omega
theorem tn_add1 (n : Nat) : ((n : Int) + 1).toNat = n + 1 := by omega
theorem tn_add2 (n : Nat) : ((n : Int) + 2).toNat = n + 2 := by omega
theorem tn_0 : Int.toNat 0 = 0 := rfl
theorem tn_1 : Int.toNat 1 = 1 := rfl
theorem tn_n (n : Nat) : ((n : Int)).toNat = n := rfl
theorem clipN_nat {n i d : Nat} (h : i ≤ n) : clipN n (some (i : Int)) d = i := by unfold clipN; dsimp only; split <;> omega
theorem cut_nn {x : List Nat} {b i : Nat} (hb : b ≤ x.length) (hi : i ≤ x.length) : cut x (some (b : Int)) (some (i : Int)) = (x.take i).drop b := by
  unfold cut; rw [clipN_nat hb, clipN_nat hi]
theorem cut_n {x : List Nat} {b : Nat} (hb : b ≤ x.length) : cut x (some (b : Int)) none = x.drop b := by
  unfold cut; rw [clipN_nat hb]; simp [clipN]
theorem seg_succ {x : List Nat} {b i : Nat} (h : i < x.length) (hb : b ≤ i) : (x.take (i + 1)).drop b = (x.take i).drop b ++ [x.getD i 0] := by
  rw [List.take_add_one, List.drop_append_of_le_length (by simp; omega)]
  simp [h]
theorem seg_self (x : List Nat) (b : Nat) : (x.take b).drop b = [] := by
  apply List.drop_eq_nil_of_le; simp; omega
theorem drop_cons {l : List Nat} {i : Nat} (h : i < l.length) : l.drop i = l.getD i 0 :: l.drop (i + 1) := by
  rw [List.drop_eq_getElem_cons h]; simp [h]
end Mine
end
section
open PySem PySem.W PySem.Calls PyProof.Rows
set_option Elab.async false
set_option maxRecDepth 100000
namespace Mine

/-- the state with another heap and count -/
def st (s : Shared) (h : Heap) (tk : Nat) : Shared := { s with heap := h, toks := tk }
theorem st_self (s : Shared) : s = st s s.heap s.toks := rfl

/-- a frame at hand: the ground, the frame's map, the ledger -/
structure Cx (w : World) (g : Heap) (L : Addr) (m : Str → Option Value) (nw : List (Addr × Obj)) (h : Heap) : Prop where
  W : Wd w g
  F : Fr g L h m
  N : News g L h nw

/-- behind a statement: on, or out -/
def Seq (Q : Flow → Shared → Prop) (K : Shared → Prop) (f : Flow) (s : Shared) : Prop := match f with
  | .next => K s
  | f => Q f s

/-- behind a def's body -/
def RetP (Q : Value → Shared → Prop) (f : Flow) (s : Shared) : Prop := Q (match f with | .ret v => v | _ => .none) s
def lit (x : String) : List Nat := (Str.ofString x).cps.toList
theorem S_lit (x : String) : Str.ofString x = S (lit x) := S_of _

def upd0 : Str → Option Value := fun _ => none
def upd (m : Str → Option Value) (x : Str) (v : Value) : Str → Option Value := fun y => if y = x then some v else m y

section
variable {w : World} {A : Around} {E : Value → Shared → Prop} {s : Shared} {h g : Heap} {tk : Nat} {L : Addr} {m : Str → Option Value} {nw : List (Addr × Obj)} {n : Str} {sc : Scope} {f : Addr} {cd : Value} {env : Env}

theorem r_cons {x : Stmt} {rest : List Stmt} {Q : Flow → Shared → Prop} (H : wpAny (model pg w) A (exec x env) (Seq Q fun s' => wpAny (model pg w) A (execs rest env) Q E s') E s) : wpAny (model pg w) A (execs (x :: rest) env) Q E s :=
  wpAny_execs_cons (wpAny_mono H (fun f s' q => by cases f <;> exact q) fun _ _ e => e)
theorem r_nil {Q : Flow → Shared → Prop} (H : Q .next s) : wpAny (model pg w) A (execs [] env) Q E s := wpAny_execs_nil H
theorem r_assign {x pos' value pos} {Q : Flow → Shared → Prop} {K : Shared → Prop}
    (H : wpAny (model pg w) A (eval value env) (fun v s₁ => wpAny (model pg w) A (storeName env x v) (fun _ => K) E s₁) E s)
    (hs : swapsWith value (some (.Name x pos')) pos.line env = pure false := by k_dflt rfl) :
    wpAny (model pg w) A (exec (.Assign [.Name x pos'] value pos) env) (Seq Q K) E s := wpAny_Assign_Name H hs
theorem r_aug {x pos' op value pos} {Q : Flow → Shared → Prop} {K : Shared → Prop}
    (H : wpAny (model pg w) A (loadName env x) (fun old s₁ => wpAny (model pg w) A (eval value env) (fun v s₂ => wpAny (model pg w) A (inplaceOp op old v)
      (fun r s₃ => wpAny (model pg w) A (storeName env x r) (fun _ => K) E s₃) E s₂) E s₁) E s) :
    wpAny (model pg w) A (exec (.AugAssign (.Name x pos') op value pos) env) (Seq Q K) E s := wpAny_AugAssign_Name H
theorem r_ret {e pos} {Q : Flow → Shared → Prop} {K : Shared → Prop} (H : wpAny (model pg w) A (eval e env) (fun v => Q (.ret v)) E s) :
    wpAny (model pg w) A (exec (.Return (some e) pos) env) (Seq Q K) E s := wpAny_Return_some H
theorem r_continue {pos} {Q : Flow → Shared → Prop} {K : Shared → Prop} (H : Q .cont s) : wpAny (model pg w) A (exec (.Continue pos) env) (Seq Q K) E s := wpAny_Continue H
theorem r_if {test body orelse pos} {Q : Flow → Shared → Prop}
    (H : wpAny (model pg w) A (isTrue test env (eval test env))
      (fun b s₂ => (b = true → wpAny (model pg w) A (execs body env) Q E s₂) ∧ (b = false → wpAny (model pg w) A (execs orelse env) Q E s₂)) E s) :
    wpAny (model pg w) A (exec (.If test body orelse pos) env) Q E s :=
  wpAny_If (wpAny_mono H (fun b s' q => by cases b; · exact q.2 rfl
                                           · exact q.1 rfl) fun _ _ e => e)
theorem r_and0 {Q : Flow → Shared → Prop} {K : Shared → Prop} (H : K s) : Seq Q K .next s := H

theorem r_out {Q : Flow → Shared → Prop} {K : Shared → Prop} {v : Value} (H : Q (.ret v) s) : Seq Q K (.ret v) s := H
theorem r_outc {Q : Flow → Shared → Prop} {K : Shared → Prop} (H : Q .cont s) : Seq Q K .cont s := H
theorem r_back {Q : Value → Shared → Prop} {v : Value} (H : Q v s) : RetP Q (.ret v) s := H
theorem r_store {x : Str} {v : Value} {Q : Unit → Shared → Prop} (X : Cx w g L m nw h)
    (H : ∀ h' tk', Cx w g L (upd m x v) nw h' → Q () (st s h' tk'))
    (hk : sc.kind = .function := by k_dflt rfl) (hl : (envOf n sc L f cd).kindOf x = some .local := by k_dflt rfl) :
    wpAny (model pg w) A (storeName (envOf n sc L f cd) x v) Q E (st s h tk) :=
  stN X.F X.N (fun h' F' N' => H h' _ ⟨X.W, F', N'⟩) hk hl
theorem r_name {x : Str} {pos : Pos} {v : Value} {Q : Value → Shared → Prop} (hl : env.kindOf x = some .local) (hk : env.scope.kind = .function) (hn : h.Ns env.locals m) (hv : m x = some v) (H : Q v (st s h tk))
    (hd : (x == ("__debug__" : Str)) = false) :
    wpAny (model pg w) A (eval (.Name x pos) env) Q E (st s h tk) := wpAny_Name (wpAny_loadName_local (s := st s h tk) hk hl hn hv H) hd
theorem r_load {x : Str} {v : Value} {Q : Value → Shared → Prop} (hl : env.kindOf x = some .local) (hk : env.scope.kind = .function) (hn : h.Ns env.locals m) (hv : m x = some v) (H : Q v (st s h tk)) :
    wpAny (model pg w) A (loadName env x) Q E (st s h tk) := wpAny_loadName_local (s := st s h tk) hk hl hn hv H
theorem r_glob {x : Str} {pos : Pos} {v : Value} {Q : Value → Shared → Prop} (hx : env.kindOf x = some .globalImplicit) (hk : env.scope.kind = .function) (hg : env.globals = mainGlobals) (e : nsIn (hd.heap_39 w.params) mainGlobals x = some (some v)) (W : Wd w h) (H : Q v (st s h tk))
    (hd : (x == ("__debug__" : Str)) = false) :
    wpAny (model pg w) A (eval (.Name x pos) env) Q E (st s h tk) := by
  obtain ⟨_, _, _, _, T⟩ := W.T
  refine Calls.Name_function_global (s := st s h tk) hk hx (Calls.loadGlobal_global (s := st s h tk) ?_ (mg_of W.K T.g e) H) hd
  rw [hg]; exact T.g
theorem r_bi {x : Str} {pos : Pos} {v : Value} {Q : Value → Shared → Prop} (hx : env.kindOf x = some .globalImplicit) (hk : env.scope.kind = .function) (hg : env.globals = mainGlobals) (hb : env.builtins = builtinsNs) (e : nsIn (hd.heap_39 w.params) mainGlobals x = some none) (hv : bootBuiltins x = some v) (hn : x ≠ "__name__") (W : Wd w h) (H : Q v (st s h tk))
    (hd : (x == ("__debug__" : Str)) = false) :
    wpAny (model pg w) A (eval (.Name x pos) env) Q E (st s h tk) := by
  obtain ⟨_, _, _, _, T⟩ := W.T
  refine Calls.Name_function_global (s := st s h tk) hk hx (Calls.loadGlobal_builtin (s := st s h tk) ?_ (mg_none_of W.K T.g e) ?_ ((T.builtins x hn).trans hv) H) hd
  · rw [hg]; exact T.g
  · rw [hb]; exact T.b
theorem Cx.ns (X : Cx w g L m nw h) : h.Ns L m := X.F.ns
theorem Cx.wd (X : Cx w g L m nw h) : Wd w h := X.W.keeps X.F.keep
/-- a block's heap: all that stood at its turn's start is kept -/
structure Ck (w : World) (g : Heap) (L : Addr) (m : Str → Option Value) (h : Heap) : Prop where
  W : Wd w g
  N : g.Ns L m
  keep : ∀ b o, g.get? b = some o → h.get? b = some o
theorem Ck.ns (X : Ck w g L m h) : h.Ns L m := X.N.keeps X.keep
theorem Ck.wd (X : Ck w g L m h) : Wd w h := X.W.keeps X.keep
theorem Ck.more {h' : Heap} (X : Ck w g L m h) (k : ∀ b o, h.get? b = some o → h'.get? b = some o) : Ck w g L m h' := ⟨X.W, X.N, fun b o e => k b o (X.keep b o e)⟩
theorem Cx.more {h' : Heap} (X : Cx w g L m nw h) (k : ∀ b o, h.get? b = some o → h'.get? b = some o) : Cx w g L m nw h' :=
  ⟨X.W, ⟨X.F.ns.keeps k, fun b o e => k b o (X.F.keep b o e), X.F.above⟩, fun p hp => ⟨k _ _ (X.N p hp).1, (X.N p hp).2⟩⟩

theorem r_int {i k pos} {Q : Value → Shared → Prop} (H : ∀ t tk', Q (.int i t) (st s h tk')) : wpAny (model pg w) A (eval (.Constant (.int i) k pos) env) Q E (st s h tk) := wpAny_Constant_int (H _ _)
theorem r_str {x : String} {k pos} {Q : Value → Shared → Prop} (H : ∀ t tk', Q (.str (S (lit x)) t) (st s h tk')) : wpAny (model pg w) A (eval (.Constant (.str (Str.ofString x)) k pos) env) Q E (st s h tk) :=
  Calls.Constant_str (by rw [S_lit]; exact H _ _)
theorem r_bool {b k pos} {Q : Value → Shared → Prop} (H : Q (.bool b) s) : wpAny (model pg w) A (eval (.Constant (.bool b) k pos) env) Q E s := fun _ _ _ => H
theorem r_none {k pos} {Q : Value → Shared → Prop} (H : Q .none s) : wpAny (model pg w) A (eval (.Constant .none k pos) env) Q E s := fun _ _ _ => H
theorem r_binop {l op r pos} {Q : Value → Shared → Prop}
    (H : wpAny (model pg w) A (eval l env) (fun a s₁ => wpAny (model pg w) A (eval r env) (fun b s₂ => wpAny (model pg w) A (binaryOp op a b) Q E s₂) E s₁) E s) :
    wpAny (model pg w) A (eval (.BinOp l op r pos) env) Q E s := wpAny_BinOp H
theorem r_cmp {l op r pos} {Q : Value → Shared → Prop}
    (H : wpAny (model pg w) A (eval l env) (fun a s₁ => wpAny (model pg w) A (eval r env) (fun b s₂ => wpAny (model pg w) A (compareOp op a b) Q E s₂) E s₁) E s)
    (hm : behindInMarks op r = false := by k_dflt rfl) :
    wpAny (model pg w) A (eval (.Compare l [op] [r] pos) env) Q E s := wpAny_Compare1 H hm
theorem r_ifexp {test body orelse pos} {Q : Value → Shared → Prop}
    (H : wpAny (model pg w) A (isTrue test env (eval test env))
      (fun b s₂ => (b = true → wpAny (model pg w) A (eval body env) Q E s₂) ∧ (b = false → wpAny (model pg w) A (eval orelse env) Q E s₂)) E s) :
    wpAny (model pg w) A (eval (.IfExp test body orelse pos) env) Q E s :=
  wpAny_IfExp (wpAny_mono H (fun b s' q => by cases b; · exact q.2 rfl
                                              · exact q.1 rfl) fun _ _ e => e)
-- tests
theorem t_cmp {l op r pos whole} {Q : Bool → Shared → Prop}
    (H : wpAny (model pg w) A (eval l env) (fun a s₁ => wpAny (model pg w) A (eval r env) (fun b s₂ => wpAny (model pg w) A (compareOp op a b)
      (fun c s₃ => wpAny (model pg w) A (truthy c) Q E s₃) E s₂) E s₁) E s)
    (hm : behindInMarks op r = false := by k_dflt rfl) : wpAny (model pg w) A (isTrue (.Compare l [op] [r] pos) env whole) Q E s := wpAny_isTrue_Compare1 H hm
theorem t_not {x pos whole} {Q : Bool → Shared → Prop} (H : wpAny (model pg w) A (isTrue x env (eval x env)) (fun c s' => Q (!c) s') E s) :
    wpAny (model pg w) A (isTrue (.UnaryOp .Not x pos) env whole) Q E s := isTrue_not H
theorem t_and {x rest pos whole} {Q : Bool → Shared → Prop}
    (H : wpAny (model pg w) A (isTrue x env (eval x env)) (fun c s' => (c = true → wpAny (model pg w) A (isTrue (.BoolOp .And rest pos) env whole) Q E s') ∧ (c = false → Q false s')) E s) :
    wpAny (model pg w) A (isTrue (.BoolOp .And (x :: rest) pos) env whole) Q E s :=
  isTrue_and (wpAny_mono H (fun b s' q => by cases b; · exact q.2 rfl
                                             · exact q.1 rfl) fun _ _ e => e)
theorem t_or {x rest pos whole} {Q : Bool → Shared → Prop}
    (H : wpAny (model pg w) A (isTrue x env (eval x env)) (fun c s' => (c = true → Q true s') ∧ (c = false → wpAny (model pg w) A (isTrue (.BoolOp .Or rest pos) env whole) Q E s')) E s) :
    wpAny (model pg w) A (isTrue (.BoolOp .Or (x :: rest) pos) env whole) Q E s :=
  isTrue_or (wpAny_mono H (fun b s' q => by cases b; · exact q.2 rfl
                                            · exact q.1 rfl) fun _ _ e => e)
theorem t_and0 {pos whole} {Q : Bool → Shared → Prop} (H : Q true s) : wpAny (model pg w) A (isTrue (.BoolOp .And [] pos) env whole) Q E s := isTrue_and_nil H
theorem t_or0 {pos whole} {Q : Bool → Shared → Prop} (H : Q false s) : wpAny (model pg w) A (isTrue (.BoolOp .Or [] pos) env whole) Q E s := isTrue_or_nil H
theorem t_name {x pos whole} {Q : Bool → Shared → Prop} (H : wpAny (model pg w) A whole (fun v s₁ => wpAny (model pg w) A (truthy v) Q E s₁) E s) : wpAny (model pg w) A (isTrue (.Name x pos) env whole) Q E s := isTrue_plain H
theorem t_call {fn as ks pos whole} {Q : Bool → Shared → Prop} (H : wpAny (model pg w) A whole (fun v s₁ => wpAny (model pg w) A (truthy v) Q E s₁) E s) : wpAny (model pg w) A (isTrue (.Call fn as ks pos) env whole) Q E s := isTrue_plain H
theorem v_bool {b : Bool} {Q : Bool → Shared → Prop} (H : Q b s) : wpAny (model pg w) A (truthy (.bool b)) Q E s := wpAny_truthy_bool H
-- calls
theorem r_call {func : Expr} {args : List Expr} {pos : Pos} {Q : Value → Shared → Prop}
    (H : wpAny (model pg w) A (eval func env) (fun v s₁ => wpAny (model pg w) A (callWith pos v [] (backTo pos (starEach args env)) []) Q E s₁) E s)
    (he : eval (.Call func args [] pos) env = (do callWith pos (← eval func env) [] (backTo pos (starEach args env)) (backToKw pos (keywordEach [] env))) := by k_dflt rfl) :
    wpAny (model pg w) A (eval (.Call func args [] pos) env) Q E s := Call_ H he
theorem r_mcall {o : Expr} {name : Str} {apos pos : Pos} {args : List Expr} {Q : Value → Shared → Prop}
    (H : ∀ pl, wpAny (model pg w) A (eval o env) (fun ov s₁ => wpAny (model pg w) A (getMethod ov name pl) (fun fx s₂ => wpAny (model pg w) A (callWith pos fx.1 fx.2 (backTo pos (starEach args env)) []) Q E s₂) E s₁) E s)
    (he : ∃ pl, eval (.Call (.Attribute o name apos) args [] pos) env = (do
      let ov ← eval o env
      standAt apos.atName
      let (f, first) ← holding [ov] (getMethod ov name pl)
      callWith pos f first (backTo pos (starEach args env)) []) := by exact ⟨_, by k_dflt rfl⟩) :
    wpAny (model pg w) A (eval (.Call (.Attribute o name apos) args [] pos) env) Q E s := by
  obtain ⟨pl, he⟩ := he
  exact MethodCall_ (H pl) he
theorem c_fn {pos : Pos} {id : String} {e : Expr} {rest : List Expr} {Q : Value → Shared → Prop}
    (H : wpAny (model pg w) A (spliced (backTo pos (starEach (e :: rest) env))) (fun vs s₁ => wpAny (model pg w) A (call (.builtin id) vs) Q E s₁) E s)
    (he : starEach (e :: rest) env = (false, eval e env) :: starEach rest env := by k_dflt rfl)
    (hplain : (backTo pos (starEach rest env)).any (·.1) = false := by k_dflt rfl) :
    wpAny (model pg w) A (callWith pos (.builtin id) [] (backTo pos (starEach (e :: rest) env)) []) Q E s := callWith_method1 (first := []) H he hplain
theorem c_me {pos : Pos} {id : String} {v : Value} {e : Expr} {rest : List Expr} {Q : Value → Shared → Prop}
    (H : wpAny (model pg w) A (spliced (backTo pos (starEach (e :: rest) env))) (fun vs s₁ => wpAny (model pg w) A (call (.builtin id) (v :: vs)) Q E s₁) E s)
    (he : starEach (e :: rest) env = (false, eval e env) :: starEach rest env := by k_dflt rfl)
    (hplain : (backTo pos (starEach rest env)).any (·.1) = false := by k_dflt rfl) :
    wpAny (model pg w) A (callWith pos (.builtin id) [v] (backTo pos (starEach (e :: rest) env)) []) Q E s := callWith_method1 (first := [v]) H he hplain
theorem c_bi {pos : Pos} {id : String} {first : List Value} {e : Expr} {rest : List Expr} {Q : Value → Shared → Prop}
    (H : wpAny (model pg w) A (spliced (backTo pos (starEach (e :: rest) env))) (fun vs s₁ => wpAny (model pg w) A (call (.builtin id) (first ++ vs)) Q E s₁) E s)
    (he : starEach (e :: rest) env = (false, eval e env) :: starEach rest env := by k_dflt rfl)
    (hplain : (backTo pos (starEach rest env)).any (·.1) = false := by k_dflt rfl) :
    wpAny (model pg w) A (callWith pos (.builtin id) first (backTo pos (starEach (e :: rest) env)) []) Q E s := callWith_method1 H he hplain
theorem c_bi0 {pos : Pos} {id : String} {first : List Value} {Q : Value → Shared → Prop} (H : wpAny (model pg w) A (call (.builtin id) first) Q E s) :
    wpAny (model pg w) A (callWith pos (.builtin id) first (backTo pos (starEach [] env)) []) Q E s := callWith_method0 H
theorem sp_more {e : Expr} {rest : List Expr} {pos : Pos} {Q : List Value → Shared → Prop}
    (H : wpAny (model pg w) A (eval e env) (fun v s₁ => wpAny (model pg w) A (spliced (backTo pos (starEach rest env))) (fun vs s₂ => Q (v :: vs) s₂) E s₁) E s)
    (he : starEach (e :: rest) env = (false, eval e env) :: starEach rest env := by k_dflt rfl) : wpAny (model pg w) A (spliced (backTo pos (starEach (e :: rest) env))) Q E s := spliced_more H he
theorem sp_none {pos : Pos} {Q : List Value → Shared → Prop} (H : Q [] s) : wpAny (model pg w) A (spliced (backTo pos (starEach [] env))) Q E s := spliced_none H
theorem c_def {pos : Pos} {a : Addr} {e : Expr} {rest : List Expr} {Q : Value → Shared → Prop} (W : Wd w h) (hk : keepIn (hd.heap_39 w.params) (.ref a) = true)
    (H : wpAny (model pg w) A (spliced (backTo pos (starEach (e :: rest) env))) (fun vs s₁ => (hd.heap_39 w.params).In s₁.heap ∧ wpAny (model pg w) A (call (.ref a) vs) Q E s₁) E (st s h tk))
    (he : starEach (e :: rest) env = (false, eval e env) :: starEach rest env := by k_dflt rfl)
    (hplain : (backTo pos (starEach rest env)).any (·.1) = false := by k_dflt rfl) :
    wpAny (model pg w) A (callWith pos (.ref a) [] (backTo pos (starEach (e :: rest) env)) []) Q E (st s h tk) := callWith_K W.K hk H he hplain
theorem c_def0 {pos : Pos} {a : Addr} {Q : Value → Shared → Prop} (W : Wd w h) (hk : keepIn (hd.heap_39 w.params) (.ref a) = true)
    (H : wpAny (model pg w) A (call (.ref a) []) Q E (st s h tk)) :
    wpAny (model pg w) A (callWith pos (.ref a) [] (backTo pos (starEach [] env)) []) Q E (st s h tk) := callWith_K0 (s := st s h tk) W.K hk H
theorem in_K {P : Prop} (W : Wd w h) (H : P) : (hd.heap_39 w.params).In (st s h tk).heap ∧ P := ⟨W.K, H⟩
theorem Cx.inK (X : Cx w g L m nw h) : (hd.heap_39 w.params).In h := X.W.K.keeps X.F.keep
-- subscripts
theorem r_sub {value slice pos} {Q : Value → Shared → Prop}
    (H : wpAny (model pg w) A (eval value env) (fun o s₁ => wpAny (model pg w) A (eval slice env) (fun i s₂ => wpAny (model pg w) A (subscriptTail value slice o i) Q E s₂) E s₁) E s) :
    wpAny (model pg w) A (eval (.Subscript value slice pos) env) Q E s := Subscript_ H
-- values
variable {a b : List Nat} {t u : Tok} {i j : Int}
theorem b_addS {Q : Value → Shared → Prop} (H : ∀ t' tk', Q (.str (S (a ++ b)) t') (st s h tk')) (hz : a.length + b.length ≤ 1000000) : wpAny (model pg w) A (binaryOp .Add (.str (S a) t) (.str (S b) u)) Q E (st s h tk) :=
  add_str (fun t' tk' => by rw [S_append]; exact H t' tk') (by rw [S_length, S_length, sizeLine_eq]; omega)
theorem b_addI {Q : Value → Shared → Prop} (H : ∀ t' tk', Q (.int (i + j) t') (st s h tk')) : wpAny (model pg w) A (binaryOp .Add (.int i t) (.int j u)) Q E (st s h tk) := add_int (H _ _)
theorem b_subI {Q : Value → Shared → Prop} (H : ∀ t' tk', Q (.int (i - j) t') (st s h tk')) : wpAny (model pg w) A (binaryOp .Sub (.int i t) (.int j u)) Q E (st s h tk) := sub_int (H _ _)
theorem q_ltI {Q : Value → Shared → Prop} (H : Q (.bool (decide (i < j))) s) : wpAny (model pg w) A (compareOp .Lt (.int i t) (.int j u)) Q E s := lt_int H
theorem q_gtI {Q : Value → Shared → Prop} (H : Q (.bool (decide (j < i))) s) : wpAny (model pg w) A (compareOp .Gt (.int i t) (.int j u)) Q E s := gt_int H
theorem q_geI {Q : Value → Shared → Prop} (H : Q (.bool (decide (j ≤ i))) s) : wpAny (model pg w) A (compareOp .GtE (.int i t) (.int j u)) Q E s := ge_int H
theorem q_eqS {Q : Value → Shared → Prop} (H : Q (.bool (decide (a = b))) s) : wpAny (model pg w) A (compareOp .Eq (.str (S a) t) (.str (S b) u)) Q E s := eq_str (by rw [S_beq]; exact H)
theorem q_neS {Q : Value → Shared → Prop} (H : Q (.bool (!decide (a = b))) s) : wpAny (model pg w) A (compareOp .NotEq (.str (S a) t) (.str (S b) u)) Q E s := ne_str (by rw [S_bne]; exact H)
theorem p_len {Q : Value → Shared → Prop} (H : ∀ t' tk', Q (.int (a.length : Int) t') (st s h tk')) (hz : a.length ≤ 1000000) : wpAny (model pg w) A (call (.builtin "len") [.str (S a) t]) Q E (st s h tk) :=
  P.len_str (by rw [S_length]; omega) (by rw [S_length]; exact H _ _)
theorem x_item {value slice : Expr} {Q : Value → Shared → Prop} (h0 : 0 ≤ i) (h1 : i < a.length) (H : ∀ t' tk', Q (.str (S [a.getD i.toNat 0]) t') (st s h tk')) (hz : a.length ≤ 1000000)
    (hs : subscripted slice false (.str (S a) t) (.int i u) = operate [.str (S a) t, .int i u] (getItem (.str (S a) t) (.int i u)) := by k_dflt rfl)
    (ht : ∀ r, letTemporaryGo value (.str (S a) t) r = pure () := by intro _; k_dflt rfl) :
    wpAny (model pg w) A (subscriptTail value slice (.str (S a) t) (.int i u)) Q E (st s h tk) :=
  item_str (fitsSsize_of (N := 9223372036854775808) (by omega) (by omega) (Int.le_refl _)) (by rw [S_length]; omega) (by rw [S_length]; exact h1) (fun _ => by rw [item_S' h0 h1]; exact H _ _) hs ht
-- the four slices of a text
theorem s_slice {lower upper step : Option Expr} {p : Pos} {Q : Value → Shared → Prop}
    (H : wpAny (model pg w) A (evalPart lower env) (fun l s₁ => wpAny (model pg w) A (evalPart upper env) (fun u s₂ => wpAny (model pg w) A (evalPart step env) (fun c s₃ =>
      Q (.ref s₃.heap.objs.size) { s₃ with heap := s₃.heap.push { cls := .type "slice", data := .fields #[l, u, c] } }) E s₂) E s₁) E s) :
    wpAny (model pg w) A (eval (.Slice lower upper step p) env) Q E s := wpAny_Slice H
theorem s_some {e : Expr} {Q : Value → Shared → Prop} (H : wpAny (model pg w) A (eval e env) Q E s) : wpAny (model pg w) A (evalPart (some e) env) Q E s := evalPart_some_step H
theorem s_none {Q : Value → Shared → Prop} (H : Q .none s) : wpAny (model pg w) A (evalPart none env) Q E s := evalPart_none_step H
section
variable {value slice : Expr} {Q : Value → Shared → Prop} {t1 t2 : Tok}
theorem x_slice_ss (X : Cx w g L m nw h) (H : ∀ t' h' tk', Cx w g L m nw h' → Q (.str (S (cut a (some i) (some j))) t') (st s h' tk')) (hz : a.length ≤ 1000000)
    (hs : ∀ q, subscripted slice false (.str (S a) t) (.ref q) = operate [.ref q, .str (S a) t] (getItem (.str (S a) t) (.ref q)) := by intro _; k_dflt rfl)
    (ht : ∀ r, letTemporaryGo value (.str (S a) t) r = pure () := by intro _; k_dflt rfl) :
    wpAny (model pg w) A (subscriptTail value slice (.str (S a) t) (.ref (st s h tk).heap.objs.size)) Q E { st s h tk with heap := (st s h tk).heap.push { cls := .type "slice", data := .fields #[.int i t1, .int j t2, .none] } } :=
  slice_strN_ss (s := st s h tk) X.F X.N (fun h' t' k F' N' => by rw [slice_S]; exact H t' h' k ⟨X.W, F', N'⟩) (hs _) ht (by rw [S_length, sizeLine_eq]; omega)
theorem x_slice_sn (X : Cx w g L m nw h) (H : ∀ t' h' tk', Cx w g L m nw h' → Q (.str (S (cut a (some i) none)) t') (st s h' tk')) (hz : a.length ≤ 1000000)
    (hs : ∀ q, subscripted slice false (.str (S a) t) (.ref q) = operate [.ref q, .str (S a) t] (getItem (.str (S a) t) (.ref q)) := by intro _; k_dflt rfl)
    (ht : ∀ r, letTemporaryGo value (.str (S a) t) r = pure () := by intro _; k_dflt rfl) :
    wpAny (model pg w) A (subscriptTail value slice (.str (S a) t) (.ref (st s h tk).heap.objs.size)) Q E { st s h tk with heap := (st s h tk).heap.push { cls := .type "slice", data := .fields #[.int i t1, .none, .none] } } :=
  slice_strN_sn (s := st s h tk) X.F X.N (fun h' t' k F' N' => by rw [slice_S]; exact H t' h' k ⟨X.W, F', N'⟩) (hs _) ht (by rw [S_length, sizeLine_eq]; omega)
theorem x_slice_ns (X : Cx w g L m nw h) (H : ∀ t' h' tk', Cx w g L m nw h' → Q (.str (S (cut a none (some j))) t') (st s h' tk')) (hz : a.length ≤ 1000000)
    (hs : ∀ q, subscripted slice false (.str (S a) t) (.ref q) = operate [.ref q, .str (S a) t] (getItem (.str (S a) t) (.ref q)) := by intro _; k_dflt rfl)
    (ht : ∀ r, letTemporaryGo value (.str (S a) t) r = pure () := by intro _; k_dflt rfl) :
    wpAny (model pg w) A (subscriptTail value slice (.str (S a) t) (.ref (st s h tk).heap.objs.size)) Q E { st s h tk with heap := (st s h tk).heap.push { cls := .type "slice", data := .fields #[.none, .int j t2, .none] } } :=
  slice_strN_ns (s := st s h tk) X.F X.N (fun h' t' k F' N' => by rw [slice_S]; exact H t' h' k ⟨X.W, F', N'⟩) (hs _) ht (by rw [S_length, sizeLine_eq]; omega)
end

/-- the end of a loop's turn -/
def Turn (w : World) (g : Heap) (L : Addr) (s : Shared) (I : Nat → (Str → Option Value) → List (Addr × Obj) → Prop) (n : Nat) (s₃ : Shared) : Prop :=
  ∃ h' tk' m' nw' k, s₃ = st s h' tk' ∧ Cx w g L m' nw' h' ∧ k < n ∧ I k m' nw'
def TurnEnd (w : World) (g : Heap) (L : Addr) (s : Shared) (I : Nat → (Str → Option Value) → List (Addr × Obj) → Prop) (n : Nat) (Q : Flow → Shared → Prop) (f : Flow) (s₃ : Shared) : Prop := match f with
  | .next | .cont => Turn w g L s I n s₃
  | .brk => Q .next s₃
  | .ret v => Q (.ret v) s₃
theorem r_while {m₀ : Str → Option Value} {nw₀ : List (Addr × Obj)} {test : Expr} {body : List Stmt} {pos : Pos} {Q : Flow → Shared → Prop}
    (I : Nat → (Str → Option Value) → List (Addr × Obj) → Prop) (X : Cx w g L m₀ nw₀ h) (n₀ : Nat) (h0 : I n₀ m₀ nw₀)
    (turn : ∀ n m nw h tk, Cx w g L m nw h → I n m nw →
      wpAny (model pg w) A (isTrue test env (eval test env)) (fun b s₂ => (b = true → wpAny (model pg w) A (execs body env) (TurnEnd w g L s I n Q) (fun _ _ => False) s₂) ∧ (b = false → Q .next s₂))
        (fun _ _ => False) (st s h tk)) :
    wpAny (model pg w) A (exec (.While test body [] pos) env) Q E (st s h tk) := by
  refine wpAny_While (codeAny_whileLoop (fun n s' => ∃ h' tk' m nw, s' = st s h' tk' ∧ Cx w g L m nw h' ∧ I n m nw) ?_ n₀ ⟨h, tk, m₀, nw₀, rfl, X, h0⟩)
  rintro n _ ⟨h', tk', m, nw, rfl, X', hI⟩
  refine wpAny_mono (turn n m nw h' tk' X' hI) (fun b s₂ hb => ?_) fun _ _ x => x.elim
  cases b with
  | false =>
    simp only [Bool.false_eq_true, if_false]
    exact wpAny_execs_nil (hb.2 rfl)
  | true =>
    simp only [if_true]
    refine wpAny_mono (hb.1 rfl) (fun f s₃ hf => ?_) fun _ _ x => x.elim
    cases f with
    | next => obtain ⟨h', tk', m', nw', k, e, X', hk, hI'⟩ := hf; exact ⟨k, hk, h', tk', m', nw', e, X', hI'⟩
    | cont => obtain ⟨h', tk', m', nw', k, e, X', hk, hI'⟩ := hf; exact ⟨k, hk, h', tk', m', nw', e, X', hI'⟩
    | brk => exact hf
    | ret v => exact hf
theorem turn_ex {I : Nat → (Str → Option Value) → List (Addr × Obj) → Prop} {k : Nat} {Q : Flow → Shared → Prop} (H : ∃ m nw, Cx w g L m nw h ∧ ∃ n, n < k ∧ I n m nw) : TurnEnd w g L s I k Q .next (st s h tk) :=
  let ⟨m, nw, X, n, hk, hI⟩ := H; ⟨h, tk, m, nw, n, rfl, X, hk, hI⟩
theorem turn_exc {I : Nat → (Str → Option Value) → List (Addr × Obj) → Prop} {k : Nat} {Q : Flow → Shared → Prop} (H : ∃ m nw, Cx w g L m nw h ∧ ∃ n, n < k ∧ I n m nw) : TurnEnd w g L s I k Q .cont (st s h tk) :=
  let ⟨m, nw, X, n, hk, hI⟩ := H; ⟨h, tk, m, nw, n, rfl, X, hk, hI⟩
theorem turn_next {I : Nat → (Str → Option Value) → List (Addr × Obj) → Prop} {k : Nat} {Q : Flow → Shared → Prop} (X : Cx w g L m nw h) (n : Nat) (hk : n < k) (hI : I n m nw) : TurnEnd w g L s I k Q .next (st s h tk) := ⟨h, tk, m, nw, n, rfl, X, hk, hI⟩
theorem turn_cont {I : Nat → (Str → Option Value) → List (Addr × Obj) → Prop} {k : Nat} {Q : Flow → Shared → Prop} (X : Cx w g L m nw h) (n : Nat) (hk : n < k) (hI : I n m nw) : TurnEnd w g L s I k Q .cont (st s h tk) := ⟨h, tk, m, nw, n, rfl, X, hk, hI⟩

theorem upd_one (p : Str) (v : Value) : (fun y => ([(p, v)] : List (Str × Value)).reverse.lookup y) = upd upd0 p v := by
  funext y
  show List.lookup y [(p, v)] = _
  unfold upd upd0
  rw [List.lookup_cons]
  by_cases e : y = p
  · subst e; simp
  · have : (y == p) = false := by simpa using e
    rw [this, if_neg e]; rfl
theorem upd_two (p q : Str) (v u : Value) : (fun y => ([(p, v), (q, u)] : List (Str × Value)).reverse.lookup y) = upd (upd upd0 p v) q u := by
  funext y
  show List.lookup y [(q, u), (p, v)] = _
  unfold upd upd0
  rw [List.lookup_cons, List.lookup_cons]
  by_cases e : y = q
  · subst e; simp
  · have : (y == q) = false := by simpa using e
    rw [this, if_neg e]
    by_cases e : y = p
    · subst e; simp
    · have : (y == p) = false := by simpa using e
      rw [this, if_neg e]; rfl
theorem call_pure {name qual : Str} {params : Arguments} {body : List Stmt} {scope : Scope} {dV kV doc pm cdv ct oc : Value} {an od : Option Addr} {osl : Array (Option Value)} {f : Addr} {vals : List Value} {kw : List (Str × Value)} {binds : List (Str × Value)} {Q : Value → Shared → Prop}
    (W : Wd w h) (ho : (hd.heap_39 w.params).lookup f = some ⟨oc, od, .func (fnOf name qual params body scope dV kV doc pm an cdv ct), osl⟩)
    (hcd : codeIn (hd.heap_39 w.params) cdv qual = true) (hroom : A.depth < recursionLimit)
    (hbind : BindsTo (st s h tk) (fnOf name qual params body scope dV kV doc pm an cdv ct) ⟨vals, kw⟩ binds) (hloc : ∀ y ∈ binds, scope.names.lookup y.1 = some .local)
    (H : ∀ L h₁ tk₁, Cx w h L (fun y => binds.reverse.lookup y) [] h₁ →
      wpAny (model pg w) (A.deeper (envOf qual scope L f cdv)) (execs body (envOf qual scope L f cdv))
        (RetP Q) (fun _ _ => False) (st s h₁ tk₁))
    (hcell : ∀ x ∈ scope.names, x.2 ≠ .cell := by decide) (hco : scope.isCoroutine = false := by rfl) (hgen : scope.isGenerator = false := by rfl) (hk : scope.kind = .function := by rfl) :
    wpAny (model pg w) A (call (.ref f) vals kw) Q E (st s h tk) :=
  call_def (s := st s h tk) W ho hcd hroom hbind hloc (fun h₁ F => H _ h₁ _ ⟨W, F, News.nil⟩) hcell hco hgen hk
theorem call_pure1 {name qual : Str} {params : Arguments} {body : List Stmt} {scope : Scope} {dV kV doc pm cdv ct oc : Value} {an od : Option Addr} {osl : Array (Option Value)} {f : Addr} {p : Str} {v : Value} {Q : Value → Shared → Prop}
    (W : Wd w h) (ho : (hd.heap_39 w.params).lookup f = some ⟨oc, od, .func (fnOf name qual params body scope dV kV doc pm an cdv ct), osl⟩)
    (hcd : codeIn (hd.heap_39 w.params) cdv qual = true) (hroom : A.depth < recursionLimit)
    (hbind : bindArgs (fnOf name qual params body scope dV kV doc pm an cdv ct) ⟨[v], []⟩ = pure [(p, v)]) (hloc : scope.names.lookup p = some .local)
    (H : ∀ L h₁ tk₁, Cx w h L (upd upd0 p v) [] h₁ →
      wpAny (model pg w) (A.deeper (envOf qual scope L f cdv)) (execs body (envOf qual scope L f cdv))
        (RetP Q) (fun _ _ => False) (st s h₁ tk₁))
    (hcell : ∀ x ∈ scope.names, x.2 ≠ .cell := by decide) (hco : scope.isCoroutine = false := by rfl) (hgen : scope.isGenerator = false := by rfl) (hk : scope.kind = .function := by rfl) :
    wpAny (model pg w) A (call (.ref f) [v]) Q E (st s h tk) :=
  call_pure W ho hcd hroom (BindsTo.of_eq hbind) (by intro y hy; rcases List.mem_singleton.mp hy with rfl; exact hloc) (fun L h₁ tk₁ X => H L h₁ tk₁ (by rw [upd_one] at X; exact X)) hcell hco hgen hk
theorem call_pure2 {name qual : Str} {params : Arguments} {body : List Stmt} {scope : Scope} {dV kV doc pm cdv ct oc : Value} {an od : Option Addr} {osl : Array (Option Value)} {f : Addr} {p q : Str} {v u : Value} {kw : List (Str × Value)} {vals : List Value} {Q : Value → Shared → Prop}
    (W : Wd w h) (ho : (hd.heap_39 w.params).lookup f = some ⟨oc, od, .func (fnOf name qual params body scope dV kV doc pm an cdv ct), osl⟩)
    (hcd : codeIn (hd.heap_39 w.params) cdv qual = true) (hroom : A.depth < recursionLimit)
    (hbind : bindArgs (fnOf name qual params body scope dV kV doc pm an cdv ct) ⟨vals, kw⟩ = pure [(p, v), (q, u)]) (hloc : scope.names.lookup p = some .local ∧ scope.names.lookup q = some .local)
    (H : ∀ L h₁ tk₁, Cx w h L (upd (upd upd0 p v) q u) [] h₁ →
      wpAny (model pg w) (A.deeper (envOf qual scope L f cdv)) (execs body (envOf qual scope L f cdv))
        (RetP Q) (fun _ _ => False) (st s h₁ tk₁))
    (hcell : ∀ x ∈ scope.names, x.2 ≠ .cell := by decide) (hco : scope.isCoroutine = false := by rfl) (hgen : scope.isGenerator = false := by rfl) (hk : scope.kind = .function := by rfl) :
    wpAny (model pg w) A (call (.ref f) vals kw) Q E (st s h tk) :=
  call_pure W ho hcd hroom (BindsTo.of_eq hbind) (by
    intro y hy
    rcases List.mem_cons.mp hy with rfl | hy
    · exact hloc.1
    · rcases List.mem_singleton.mp hy with rfl; exact hloc.2) (fun L h₁ tk₁ X => H L h₁ tk₁ (by rw [upd_two] at X; exact X)) hcell hco hgen hk
theorem out_str {Q : Value → Shared → Prop} (e : a = b) (H : Q (.str (S b) t) s) : Q (.str (S a) t) s := by rw [e]; exact H
theorem br_true {X Y : Prop} (H : X) : (true = true → X) ∧ (true = false → Y) := ⟨fun _ => H, fun e => absurd e (by decide)⟩
theorem br_false {X Y : Prop} (H : Y) : (false = true → X) ∧ (false = false → Y) := ⟨(fun e => absurd e (by decide)), fun _ => H⟩
theorem br_ntrue {X Y : Prop} (H : Y) : ((!true) = true → X) ∧ ((!true) = false → Y) := ⟨(fun e => absurd e (by decide)), fun _ => H⟩
theorem br_nfalse {X Y : Prop} (H : X) : ((!false) = true → X) ∧ ((!false) = false → Y) := ⟨fun _ => H, fun e => absurd e (by decide)⟩
theorem br_dec {X Y : Prop} {p : Prop} [Decidable p] (H1 : p → X) (H2 : ¬ p → Y) : (decide p = true → X) ∧ (decide p = false → Y) := ⟨fun e => H1 (of_decide_eq_true e), fun e => H2 (of_decide_eq_false e)⟩
theorem br_ndec {X Y : Prop} {p : Prop} [Decidable p] (H1 : ¬ p → X) (H2 : p → Y) : ((!decide p) = true → X) ∧ ((!decide p) = false → Y) := ⟨fun e => H1 (by simpa using e), fun e => H2 (by simpa using e)⟩
theorem br_nndec {X Y : Prop} {p : Prop} [Decidable p] (H1 : p → X) (H2 : ¬ p → Y) : ((!!decide p) = true → X) ∧ ((!!decide p) = false → Y) := ⟨fun e => H1 (by simpa using e), fun e => H2 (by simpa using e)⟩
theorem br_b {X Y : Prop} {b : Bool} (H1 : b = true → X) (H2 : b = false → Y) : (b = true → X) ∧ (b = false → Y) := ⟨H1, H2⟩
theorem br_nb {X Y : Prop} {b : Bool} (H1 : b = false → X) (H2 : b = true → Y) : ((!b) = true → X) ∧ ((!b) = false → Y) := ⟨fun e => H1 (by simpa using e), fun e => H2 (by simpa using e)⟩
end
end Mine
end
section
open PySem PySem.W PySem.Calls PyProof.Rows
set_option Elab.async false
set_option maxRecDepth 100000
namespace Mine
section
variable (w : World)
local macro_rules | `(tactic| walk_at "g") => `(tactic| (first | rfl | with_unfolding_all rfl | decide +kernel))
theorem gl_len : nsIn (hd.heap_39 w.params) mainGlobals (Str.ofString "len") = some none := by walk_at "g"
theorem gl_ord : nsIn (hd.heap_39 w.params) mainGlobals (Str.ofString "ord") = some none := by walk_at "g"
theorem gl_int : nsIn (hd.heap_39 w.params) mainGlobals (Str.ofString "int") = some none := by walk_at "g"
theorem gl_bytes : nsIn (hd.heap_39 w.params) mainGlobals (Str.ofString "bytes") = some none := by walk_at "g"
theorem gl_list : nsIn (hd.heap_39 w.params) mainGlobals (Str.ofString "list") = some none := by walk_at "g"
theorem gl_DIGITS : ∃ t, nsIn (hd.heap_39 w.params) mainGlobals (Str.ofString "_DIGITS") = some (some (.str (Str.ofString "0123456789ABCDEFabcdef") t)) := ⟨_, by walk_at "g"⟩
theorem gl_text : nsIn (hd.heap_39 w.params) mainGlobals (Str.ofString "_text") = some (some (.ref 38)) := by walk_at "g"
theorem gl_unquote : nsIn (hd.heap_39 w.params) mainGlobals (Str.ofString "unquote") = some (some (.ref 45)) := by walk_at "g"
theorem gl_unslash : nsIn (hd.heap_39 w.params) mainGlobals (Str.ofString "_unslash_re") = some (some (.ref 50)) := by walk_at "g"
theorem gl_uhv : nsIn (hd.heap_39 w.params) mainGlobals (Str.ofString "unquote_header_value") = some (some (.ref 57)) := by walk_at "g"
theorem gl_plh : nsIn (hd.heap_39 w.params) mainGlobals (Str.ofString "parse_list_header") = some (some (.ref 62)) := by walk_at "g"
theorem gl_pdh : nsIn (hd.heap_39 w.params) mainGlobals (Str.ofString "parse_dict_header") = some (some (.ref 69)) := by walk_at "g"
theorem gl_cvre : nsIn (hd.heap_39 w.params) mainGlobals (Str.ofString "_charset_value_re") = some (some (.ref 74)) := by walk_at "g"
theorem gl_pieces : nsIn (hd.heap_39 w.params) mainGlobals (Str.ofString "_law_pieces") = some (some (.ref 75)) := by walk_at "g"
theorem gl_stretches : nsIn (hd.heap_39 w.params) mainGlobals (Str.ofString "_law_stretches") = some (some (.ref 82)) := by walk_at "g"
theorem gl_charsets : nsIn (hd.heap_39 w.params) mainGlobals (Str.ofString "_law_charsets") = some (some (.ref 89)) := by walk_at "g"
theorem gl_marks : ∃ t, nsIn (hd.heap_39 w.params) mainGlobals (Str.ofString "_law_marks") = some (some (.str (Str.ofString "!#$%&*+-.^_`|~0123456789ABCDEFGHIJKLMNOPQRSTUVWXYZabcdefghijklmnopqrstuvwxyz") t)) := ⟨_, by walk_at "g"⟩
theorem gl_read : nsIn (hd.heap_39 w.params) mainGlobals (Str.ofString "_law_read") = some (some (.ref 96)) := by walk_at "g"
theorem gl_items : nsIn (hd.heap_39 w.params) mainGlobals (Str.ofString "_law_items") = some (some (.ref 101)) := by walk_at "g"
theorem gl_decoded : nsIn (hd.heap_39 w.params) mainGlobals (Str.ofString "_law_decoded") = some (some (.ref 106)) := by walk_at "g"
theorem gl_charset : nsIn (hd.heap_39 w.params) mainGlobals (Str.ofString "_law_charset") = some (some (.ref 111)) := by walk_at "g"
theorem gl_dict : nsIn (hd.heap_39 w.params) mainGlobals (Str.ofString "_law_dict") = some (some (.ref 118)) := by walk_at "g"
end
theorem kp_38 (w : World) : keepIn (hd.heap_39 w.params) (.ref 38) = true := by rfl
theorem kp_45 (w : World) : keepIn (hd.heap_39 w.params) (.ref 45) = true := by rfl
theorem kp_57 (w : World) : keepIn (hd.heap_39 w.params) (.ref 57) = true := by rfl
theorem kp_62 (w : World) : keepIn (hd.heap_39 w.params) (.ref 62) = true := by rfl
theorem kp_69 (w : World) : keepIn (hd.heap_39 w.params) (.ref 69) = true := by rfl
theorem kp_82 (w : World) : keepIn (hd.heap_39 w.params) (.ref 82) = true := by rfl
theorem kp_89 (w : World) : keepIn (hd.heap_39 w.params) (.ref 89) = true := by rfl
theorem kp_96 (w : World) : keepIn (hd.heap_39 w.params) (.ref 96) = true := by rfl
theorem kp_101 (w : World) : keepIn (hd.heap_39 w.params) (.ref 101) = true := by rfl
theorem kp_106 (w : World) : keepIn (hd.heap_39 w.params) (.ref 106) = true := by rfl
theorem kp_111 (w : World) : keepIn (hd.heap_39 w.params) (.ref 111) = true := by rfl
theorem kp_118 (w : World) : keepIn (hd.heap_39 w.params) (.ref 118) = true := by rfl
theorem bb_len : bootBuiltins (Str.ofString "len") = some (.builtin "len") := by first | rfl | boot_by_name
theorem bb_ord : bootBuiltins (Str.ofString "ord") = some (.builtin "ord") := by first | rfl | boot_by_name
theorem bb_int : bootBuiltins (Str.ofString "int") = some (.type "int") := by first | rfl | boot_by_name
theorem bb_bytes : bootBuiltins (Str.ofString "bytes") = some (.type "bytes") := by first | rfl | boot_by_name
theorem bb_list : bootBuiltins (Str.ofString "list") = some (.type "list") := by first | rfl | boot_by_name
end Mine
end
section
open PySem PySem.W PySem.Calls PyProof.Rows PyProof
set_option Elab.async false
set_option maxRecDepth 100000
set_option autoImplicit false
namespace Mine
section
variable {w : World} {A : Around} {E : Value → Shared → Prop} {s : Shared} {h g : Heap} {tk : Nat} {L a : Addr} {m : Str → Option Value} {nw : List (Addr × Obj)} {env : Env}

theorem r_expr {e pos} {Q : Flow → Shared → Prop} {K : Shared → Prop} (H : wpAny (model pg w) A (eval e env) (fun v s' => v = .none ∧ K s') E s)
    (hi : interactive env = false) (hs : swapsWith e none pos.line env = pure false) : wpAny (model pg w) A (exec (.Expr e pos) env) (Seq Q K) E s :=
  wpAny_Expr (wpAny_mono H (fun v s' q => by obtain ⟨rfl, q⟩ := q; exact q) fun _ _ e => e) hi hs
theorem and_none {K : Prop} (H : K) : Value.none = Value.none ∧ K := ⟨rfl, H⟩
theorem r_list0 {pos} {Q : Value → Shared → Prop} (X : Cx w g L m nw h) (H : ∀ a h' tk', Cx w g L m ((a, PySem.W.listOf #[] 0) :: nw) h' → (∀ p ∈ nw, p.1 ≠ a) → Q (.ref a) (st s h' tk')) :
    wpAny (model pg w) A (eval (.List [] pos) env) Q E (st s h tk) :=
  List_ (spliced_none (newList_N (s := st s h tk) X.F X.N (fun h' F' N' => H _ h' _ ⟨X.W, F', N'⟩ fun p hp => Nat.ne_of_lt (Heap.lt_size (X.N p hp).1)) (by size_fits)))
theorem gm_append {its : Array Value} {n : Nat} {pl} {Q : Value × List Value → Shared → Prop} (X : Cx w g L m ((a, PySem.W.listOf its n) :: nw) h) (H : Q (.builtin "list.append", [.ref a]) (st s h tk)) :
    wpAny (model pg w) A (getMethod (.ref a) "append" pl) Q E (st s h tk) :=
  getMethod_append_N (s := st s h tk) X.N (.head _) H
theorem push_arr (vs : List Value) (x : Value) : vs.toArray.push x = (vs ++ [x]).toArray := by simp
theorem m_append {vs : List Value} {n : Nat} {x : Value} {Q : Value → Shared → Prop} (X : Cx w g L m ((a, PySem.W.listOf vs.toArray n) :: nw) h) (hne : ∀ p ∈ nw, p.1 ≠ a) (hz : vs.length ≤ 100000)
    (H : ∀ h' tk', Cx w g L m ((a, PySem.W.listOf (vs ++ [x]).toArray (n + 1)) :: nw) h' → Q .none (st s h' tk')) : wpAny (model pg w) A (call (.builtin "list.append") [.ref a, x]) Q E (st s h tk) :=
  append_K (s := st s h tk) X.F X.N (.head hne) (fun h' F' N' => H h' _ ⟨X.W, F', push_arr vs x ▸ N'⟩) (by rw [sizeLine_eq]; simp; omega)
theorem e_not {x pos} {Q : Value → Shared → Prop} (H : wpAny (model pg w) A (eval x env) (fun v s' => wpAny (model pg w) A (truthy v) (fun c s' => Q (.bool (!c)) s') E s') E s) : wpAny (model pg w) A (eval (.UnaryOp .Not x pos) env) Q E s :=
  UnaryOp_ (wpAny_mono H (fun _ _ q => not_of q) fun _ _ e => e)
variable {l : List Nat} {t : Tok}
theorem v_str {Q : Bool → Shared → Prop} (hz : l.length ≤ 1000000) (H : ∀ tk', Q (!decide (l = [])) (st s h tk')) : wpAny (model pg w) A (truthy (.str (S l) t)) Q E (st s h tk) := by
  refine PySem.P.truthy_str (s := st s h tk) (by rw [S_length]; omega) ?_
  have e : (((S l).length : Int) != 0) = !decide (l = []) := by rw [S_length]; cases l <;> simp; omega
  rw [e]; exact H _

/-- a text's two ends without blanks and tabs -/
def stp (l : List Nat) : List Nat := (Txt.stripChars (S l) (S (lit " \t"))).cps.toList
theorem stp_S (l : List Nat) : Txt.stripChars (S l) (S (lit " \t")) = S (stp l) := S_of _
theorem stp_le (l : List Nat) : (stp l).length ≤ l.length := by
  have := len_stripChars (S l) (S (lit " \t"))
  rw [S_length] at this
  simpa [stp, Str.length] using this
theorem gm_strip {pl} {Q : Value × List Value → Shared → Prop} (H : Q (.builtin "str.strip", [.str (S l) t]) s) : wpAny (model pg w) A (getMethod (.str (S l) t) (Str.ofString "strip") pl) Q E s := GM.strip H
theorem m_strip {u : Tok} {Q : Value → Shared → Prop} (hz : l.length ≤ 1000000) (H : ∀ t' tk', Q (.str (S (stp l)) t') (st s h tk')) : wpAny (model pg w) A (call (.builtin "str.strip") [.str (S l) t, .str (S (lit " \t")) u]) Q E (st s h tk) :=
  SCL.stripChars (s := st s h tk) (fun t' k _ => by rw [stp_S]; exact H t' k) (by rw [S_length, sizeLine_eq]; omega)

/-- behind a block's element or test -/
def BkP {α : Type} (g : Heap) (s : Shared) (R : α → Prop) (v : α) (s' : Shared) : Prop := R v ∧ ∃ h' tk', s' = st s h' tk' ∧ ∀ b o, g.get? b = some o → h'.get? b = some o
theorem bk_end {α : Type} {R : α → Prop} {v : α} {m : Str → Option Value} (X : Ck w g L m h) (hr : R v) : BkP g s R v (st s h tk) := ⟨hr, h, tk, rfl, X.keep⟩

def TestsOk (w : World) (A : Around) (env : Env) (scope : Scope) (cl : List (Str × Addr)) (x : Str) (ifs : List Expr) (vs : List Value) (h₁ : Heap) (p : Value → Bool) : Prop :=
  ∀ v ∈ vs, ∀ s' C g m₃ tk E', Ck w g C m₃ g → (∀ b o, h₁.get? b = some o → g.get? b = some o) → m₃ x = some v →
      wpAny (model pg w) A (forIn ifs true fun c r => if r = true then do let ok ← isTrue c (compEnvC scope cl C env) (eval c (compEnvC scope cl C env)); pure (ForInStep.yield ok) else pure (ForInStep.yield r)) (BkP g s' (fun ok => ok = p v)) E' (st s' g tk)
def EltOk (w : World) (A : Around) (env : Env) (scope : Scope) (cl : List (Str × Addr)) (x : Str) (elt : Expr) (vs : List Value) (h₁ : Heap) (p : Value → Bool) (F : Value → Value → Prop) : Prop :=
  ∀ v ∈ vs, p v = true → ∀ s' C g m₃ tk E', Ck w g C m₃ g → (∀ b o, h₁.get? b = some o → g.get? b = some o) → m₃ x = some v → wpAny (model pg w) A (eval elt (compEnvC scope cl C env)) (BkP g s' (fun y => F v y)) E' (st s' g tk)
theorem quiet_list {elt : Expr} {x : Str} {ifs : List Expr} {scope : Scope} {cl : List (Str × Addr)} {vs : List Value} {h₁ h₂ : Heap} {I : Addr} {p : Value → Bool} {F : Value → Value → Prop} {tk : Nat}
    (W : Wd w h₁) (hI : h₁.get? I = none) (up : ∀ b o, h₁.get? b = some o → h₂.get? b = some o)
    (tests : TestsOk w A env scope cl x ifs vs h₁ p) (elts : EltOk w A env scope cl x elt vs h₁ p F) :
    QuietOnC pg w A env scope cl x ifs elt [I] (fun i v => vs.toArray[i]? = some v) p F (st s h₂ tk) := by
  refine ⟨?_, ?_⟩
  · intro C i v s₃ m₃ E' hC hP hn hm hk _
    have kept : ∀ b o, h₁.get? b = some o → s₃.heap.get? b = some o := fun b o e => hk b o (by intro q; rw [List.mem_singleton.mp q, hI] at e; cases e) (up b o e)
    have hv : v ∈ vs := by
      have : vs[i]? = some v := by simpa using hP
      exact List.mem_of_getElem? this
    refine wpAny_mono (tests v hv s₃ C s₃.heap m₃ s₃.toks E' ⟨W.keeps kept, hn, fun _ _ e => e⟩ kept hm) (fun ok s₄ q => ?_) fun _ _ e => e
    obtain ⟨q, h', tk', e, k⟩ := q
    exact ⟨q, h', tk', e, k⟩
  · intro C i v s₃ m₃ E' hC hP hp hn hm hk _
    have kept : ∀ b o, h₁.get? b = some o → s₃.heap.get? b = some o := fun b o e => hk b o (by intro q; rw [List.mem_singleton.mp q, hI] at e; cases e) (up b o e)
    have hv : v ∈ vs := by
      have : vs[i]? = some v := by simpa using hP
      exact List.mem_of_getElem? this
    refine wpAny_mono (elts v hv hp s₃ C s₃.heap m₃ s₃.toks E' ⟨W.keeps kept, hn, fun _ _ e => e⟩ kept hm) (fun ok s₄ q => ?_) fun _ _ e => e
    obtain ⟨q, h', tk', e, k⟩ := q
    exact ⟨q, h', tk', e, k⟩
/-- what a comprehension over a list of known values gives -/
structure CompSrc1 (w : World) (A : Around) (env : Env) (scope : Scope) (cl : List (Str × Addr)) (x : Str) (ifs : List Expr) (elt : Expr) (s : Shared) (h₁ : Heap) (Q : Value → Shared → Prop) (a : Addr) (vs : List Value) (n : Nat) (p : Value → Bool) (F : Value → Value → Prop) : Prop where
  list : h₁.get? a = some (PySem.W.listOf vs.toArray n)
  size : vs.length ≤ 1000000
  wd : Wd w h₁
  tests : TestsOk w A env scope cl x ifs vs h₁ p
  elts : EltOk w A env scope cl x elt vs h₁ p F
  fin : ∀ D h' tk' ys n', (∀ b o, h₁.get? b = some o → h'.get? b = some o) → h₁.get? D = none → h'.get? D = some (PySem.W.listOf ys.toArray n') → Paired F (vs.filter p) ys → Q (.ref D) (st s h' tk')
theorem r_comp {elt iter : Expr} {x : Str} {px : Pos} {ifs : List Expr} {scope : Scope} {pos : Pos} {Q : Value → Shared → Prop} (hh : A.handled = none)
    (hclos : closureFor scope env = pure []) (hcell : ∀ y ∈ scope.names, y.2 ≠ .cell) (hkind : scope.kind = .function)
    (hnames : ∀ y ∈ scope.names, y.2 = .local → scope.names.lookup y.1 = some .local) (hx : scope.names.lookup x = some .local)
    (hs : ∀ x, foldedSetIterable iter env x = pure x)
    (H : wpAny (model pg w) A (eval iter env) (fun xv s₁ => ∃ a h₁ tk₁ vs n p F, xv = .ref a ∧ s₁ = st s h₁ tk₁ ∧ CompSrc1 w A env scope [] x ifs elt s h₁ Q a vs n p F) E (st s h tk)) :
    wpAny (model pg w) A (eval (.ListComp elt [⟨.Name x px, iter, ifs, 0⟩] scope pos) env) Q E (st s h tk) := by
  have main : ∀ xv s₁, (∃ a h₁ tk₁ vs n p F, xv = .ref a ∧ s₁ = st s h₁ tk₁ ∧ CompSrc1 w A env scope [] x ifs elt s h₁ Q a vs n p F) → ∃ (p : Value → Bool) (F : Value → Value → Prop), wpAny (model pg w) A (pyIter xv) (fun it s₂ => ∃ I fp wr n P St, it = .ref I ∧ Walks pg w A I fp wr n P St ∧ n ≤ sizeLine ∧ St 0 s₂.heap ∧ (∀ b ∈ fp, b < s₂.heap.objs.size) ∧
      QuietOnC pg w A env scope [] x ifs elt wr P p F s₂ ∧
      (∀ D h' tk ys (vs : List Value), s₂.heap.get? D = none → h'.IsList D ys → h'.PlainList D ys → vs.length = n → (∀ j v, vs[j]? = some v → P j v) → Paired F (vs.filter p) ys.toList →
        (∀ b o, b ∉ wr → s₂.heap.get? b = some o → h'.get? b = some o) → Q (.ref D) { s₂ with heap := h', toks := tk })) E s₁ := by
    rintro _ _ ⟨a, h₁, tk₁, vs, n, p, F, rfl, rfl, C⟩
    refine ⟨p, F, wpAny_pyIter_list (s := st s h₁ tk₁) (items := vs.toArray) ⟨_, C.list, rfl, n, rfl⟩ ?_⟩
    have hlt : a < h₁.objs.size := Heap.lt_size C.list
    have up : ∀ b o, h₁.get? b = some o → (h₁.push { cls := .type "list_iterator", data := .fields #[.ref a, .int 0 0] }).get? b = some o := fun b o e => Heap.get?_push_of_some _ e
    have hnew : h₁.get? h₁.objs.size = none := by
      cases e : h₁.get? h₁.objs.size with
      | none => rfl
      | some o => exact absurd (Heap.lt_size e) (Nat.lt_irrefl _)
    refine ⟨h₁.objs.size, [h₁.objs.size, a], [h₁.objs.size], vs.toArray.size, _, _, rfl, Walks.list hh _ _ (Nat.ne_of_lt hlt) vs.toArray, by simpa [sizeLine_eq] using Nat.le_trans C.size (by omega), ⟨⟨_, Heap.get?_push_size _ rfl, rfl, rfl⟩, ⟨_, up _ _ C.list, rfl, n, rfl⟩⟩, ?_, ?_, ?_⟩
    · intro b hb
      show b < (h₁.push _).objs.size
      rw [Heap.size_push]
      rcases List.mem_cons.mp hb with rfl | hb
      · exact Nat.lt_succ_self _
      · rw [List.mem_singleton.mp hb]; exact Nat.lt_succ_of_lt hlt
    · exact quiet_list (s := s) (tk := tk₁) C.wd hnew up C.tests C.elts
    · intro D h' tk ys vs' hD _ hpl hlen hP hF hk
      obtain ⟨n', e'⟩ := hpl
      have evs : vs' = vs := by
        apply List.ext_getElem?
        intro j
        cases q : vs'[j]? with
        | some v => have := hP j v q; simpa using this.symm
        | none =>
          have : vs'.length ≤ j := List.getElem?_eq_none_iff.mp q
          rw [List.getElem?_eq_none]; simp at hlen; omega
      subst evs
      refine C.fin D h' tk ys.toList n' (fun b o e => hk b o (by intro q; rw [List.mem_singleton.mp q, hnew] at e; cases e) (up b o e)) ?_ (by simpa using e') hF
      cases q : h₁.get? D with
      | none => rfl
      | some o => have hu := up _ _ q; exact absurd (hu.symm.trans hD) (by intro q; cases q)
  rw [eval_ListComp]
  refine wpAny_comprehension_free (use := none) rfl hs hclos hkind hnames (wpAny_mono H (fun xv s₁ h₁ => ?_) fun _ _ e => e)
  obtain ⟨p, F, h₁⟩ := main xv s₁ h₁
  refine wpAny_mono h₁ (fun it s₂ h₂ => ?_) fun _ _ e => e
  obtain ⟨I, fp, wr, n, P, St, rfl, W, hsz, hst, hfp, hq, hQ⟩ := h₂
  refine comp_block_walkC (RR := fun acc C => compPost (model pg w) A E none Q acc C) W hsz p F hcell hkind hx hst hfp hq ?_
  intro D C h' tk m' ys vs hD hC hDC hn hl hpl hlen hP hF hk
  exact ⟨m', hn, fun h'' hs'' => hQ D h'' tk ys vs hD (hl.extBut hs''.extBut hDC) (hpl.extBut hs''.extBut hDC) hlen hP hF fun b o hbf e => hs''.extBut b o (by rintro rfl; rw [hC] at e; cases e) (hk b o hbf e)⟩
end
/-- values that are these texts -/
abbrev StrsV (vs : List Value) (ls : List (List Nat)) : Prop := Paired (fun v l => ∃ t, v = Value.str (S l) t) vs ls
theorem StrsV.length {vs : List Value} {ls : List (List Nat)} (h : StrsV vs ls) : vs.length = ls.length := by
  induction h with
  | nil => rfl
  | cons _ _ ih => simp [ih]
theorem StrsV.get {vs : List Value} {ls : List (List Nat)} (h : StrsV vs ls) {v : Value} (hv : v ∈ vs) : ∃ l ∈ ls, ∃ t, v = .str (S l) t := by
  induction h with
  | nil => cases hv
  | cons e _ ih =>
    rcases List.mem_cons.mp hv with rfl | hv
    · exact ⟨_, .head _, e⟩
    · obtain ⟨l, hl, t, e⟩ := ih hv; exact ⟨l, .tail _ hl, t, e⟩
theorem StrsV.idx {vs : List Value} {ls : List (List Nat)} (h : StrsV vs ls) {i : Nat} {v : Value} (hv : vs[i]? = some v) : ∃ l t, ls[i]? = some l ∧ v = .str (S l) t := by
  induction h generalizing i with
  | nil => cases hv
  | cons e _ ih =>
    obtain ⟨t, rfl⟩ := e
    cases i with
    | zero => cases hv; exact ⟨_, t, rfl, rfl⟩
    | succ i => exact ih hv
/-- a filter and a map of texts, on the values and on the lists -/
theorem StrsV.comp {vs ys : List Value} {ls : List (List Nat)} {p : Value → Bool} {q : List Nat → Bool} {f : List Nat → List Nat} (h : StrsV vs ls) (hp : ∀ l t, p (.str (S l) t) = q l)
    (hf : Paired (fun v y => ∀ l t, v = .str (S l) t → ∃ t', y = .str (S (f l)) t') (vs.filter p) ys) : StrsV ys ((ls.filter q).map f) := by
  induction h generalizing ys with
  | nil => cases hf; exact .nil
  | cons e _ ih =>
    obtain ⟨t, rfl⟩ := e
    rw [List.filter_cons] at hf ⊢
    rw [hp] at hf
    split at hf
    · rename_i hq
      rw [if_pos hq]
      cases hf with
      | cons e r => exact .cons (e _ _ rfl) (ih r)
    · rename_i hq
      rw [if_neg hq]
      exact ih hf
theorem dd (A : Around) (env : Env) : (A.deeper env).depth = A.depth + 1 := rfl
theorem ndec {p q : Prop} [Decidable p] [Decidable q] (h : p ↔ q) : (!decide p) = !decide q := by rw [decide_eq_decide.mpr h]
theorem cps_S (l : List Nat) : (S l).cps.toList = l := rfl
end Mine
end
section
set_option autoImplicit false
namespace Mine
/-- the text's pieces between the commas that count; none: a quote stays open -/
def go : Bool → List Nat → List Nat → Option (List (List Nat))
  | true, _, [] => none
  | false, cur, [] => some [cur]
  | true, cur, 92 :: c :: r => go true (cur ++ [92, c]) r
  | true, cur, 34 :: r => go false (cur ++ [34]) r
  | true, cur, c :: r => go true (cur ++ [c]) r
  | false, cur, 44 :: r => (go false [] r).map (cur :: ·)
  | false, cur, 34 :: r => go true (cur ++ [34]) r
  | false, cur, c :: r => go false (cur ++ [c]) r
theorem go_t_nil (cur : List Nat) : go true cur [] = none := by simp [go]
theorem go_f_nil (cur : List Nat) : go false cur [] = some [cur] := by simp [go]
theorem go_t_bs (cur r : List Nat) (c : Nat) : go true cur (92 :: c :: r) = go true (cur ++ [92, c]) r := by rw [go]
theorem go_t_bs1 (cur : List Nat) : go true cur [92] = none := by simp [go]
theorem go_t_q (cur r : List Nat) : go true cur (34 :: r) = go false (cur ++ [34]) r := by rw [go]
theorem go_t_o (cur r : List Nat) (c : Nat) (h1 : c ≠ 92) (h2 : c ≠ 34) : go true cur (c :: r) = go true (cur ++ [c]) r := by
  rw [go] <;> simp_all
theorem go_f_c (cur r : List Nat) : go false cur (44 :: r) = (go false [] r).map (cur :: ·) := by rw [go]
theorem go_f_q (cur r : List Nat) : go false cur (34 :: r) = go true (cur ++ [34]) r := by rw [go]
theorem go_f_o (cur r : List Nat) (c : Nat) (h1 : c ≠ 44) (h2 : c ≠ 34) : go false cur (c :: r) = go false (cur ++ [c]) r := by
  rw [go] <;> simp_all
end Mine
end
section
set_option autoImplicit false
namespace Mine
def readGo : List Nat → List Nat
  | [] => []
  | c :: r => if c = 92 then (match r with
    | [] => [c]
    | d :: r' => d :: readGo r') else c :: readGo r
def quoted (l : List Nat) : Bool := 2 ≤ l.length && l.getD 0 0 == 34 && l.getD (l.length - 1) 0 == 34
def readL (l : List Nat) : List Nat := if quoted l then readGo ((l.take (l.length - 1)).drop 1) else l
theorem readGo_bs2 {y : List Nat} {i : Nat} (h : i + 1 < y.length) (hb : y.getD i 0 = 92) : readGo (y.drop i) = y.getD (i + 1) 0 :: readGo (y.drop (i + 2)) := by
  rw [drop_cons (by omega), drop_cons (i := i + 1) (by omega)]
  show (if _ then _ else _) = _
  rw [if_pos hb]
theorem readGo_bs1 {y : List Nat} {i : Nat} (h : i + 1 = y.length) : readGo (y.drop i) = [y.getD i 0] := by
  rw [drop_cons (by omega), List.drop_eq_nil_of_le (by omega)]
  unfold readGo; split <;> simp [readGo]
theorem readGo_other {y : List Nat} {i : Nat} (h : i < y.length) (hb : y.getD i 0 ≠ 92) : readGo (y.drop i) = y.getD i 0 :: readGo (y.drop (i + 1)) := by
  rw [drop_cons h, readGo.eq_def]; dsimp only; rw [if_neg hb]
theorem readGo_plain : ∀ (l r : List Nat), (∀ c ∈ l, c ≠ 92) → readGo (l ++ r) = l ++ readGo r
  | [], r, _ => rfl
  | c :: l, r, h => by
    rw [List.cons_append, readGo.eq_def]; dsimp only
    rw [if_neg (h c (.head _)), readGo_plain l r fun c hc => h c (.tail _ hc)]; rfl
theorem readGo_all (l : List Nat) (h : ∀ c ∈ l, c ≠ 92) : readGo l = l := by
  have := readGo_plain l [] h; simpa [readGo] using this
/-- a last backslash stays -/
theorem readGo_end (l : List Nat) (h : ∀ j, j + 1 < l.length → l.getD j 0 ≠ 92) : readGo l = l := by
  rcases List.eq_nil_or_concat l with rfl | ⟨l', c, rfl⟩
  · rfl
  · rw [List.concat_eq_append] at h ⊢
    have h2 : ∀ c ∈ l', c ≠ 92 := by
      intro d hd
      obtain ⟨j, hj, rfl⟩ := List.mem_iff_getElem.mp hd
      have := h j (by simp; omega)
      rw [List.getD_eq_getElem?_getD, List.getElem?_append_left hj] at this
      simpa [hj] using this
    rw [readGo_plain l' _ h2]
    congr 1
    unfold readGo; split <;> simp [readGo]
theorem readGo_le : ∀ (n : Nat) (l : List Nat), l.length ≤ n → (readGo l).length ≤ l.length
  | _, [], _ => Nat.le_refl _
  | 0, c :: r, h => by simp at h
  | n + 1, c :: r, h => by
    rw [readGo.eq_def]; dsimp only
    split
    · split
      · simp
      · rename_i d r'
        have := readGo_le n r' (by simp at h; omega)
        simp; omega
    · have := readGo_le n r (by simp at h; omega)
      simp; omega
theorem readGo_first {y : List Nat} {d k : Nat} (hd : d ≤ k) (hk : k + 1 < y.length) (hb : y.getD k 0 = 92) (hn : ∀ j, d ≤ j → j < k → y.getD j 0 ≠ 92) :
    readGo (y.drop d) = (y.take k).drop d ++ y.getD (k + 1) 0 :: readGo (y.drop (k + 2)) := by
  have e : y.drop d = (y.take k).drop d ++ y.drop k := by
    have e2 : y.drop k = (y.drop d).drop (k - d) := by rw [List.drop_drop]; congr 1; omega
    rw [List.drop_take, e2]
    exact (List.take_append_drop _ _).symm
  rw [e, readGo_plain, readGo_bs2 hk hb]
  intro c hc
  obtain ⟨j, hj, rfl⟩ := List.mem_iff_getElem.mp hc
  simp at hj
  have := hn (d + j) (by omega) (by omega)
  simpa [show d + j < y.length by omega] using this
end Mine
end
section
set_option autoImplicit false
namespace Mine
theorem lit_dq : lit "\"" = [34] := by decide +kernel
theorem lit_bs : lit "\\" = [92] := by decide +kernel
theorem lit_nil : lit "" = [] := by decide +kernel
theorem lit_comma : lit "," = [44] := by decide +kernel
theorem lit_star : lit "*" = [42] := by decide +kernel
theorem lit_eq : lit "=" = [61] := by decide +kernel
theorem lit_sq : lit "'" = [39] := by decide +kernel
theorem lit_pc : lit "%" = [37] := by decide +kernel
end Mine
end
section
open PySem PySem.W PySem.Calls PyProof.Rows PyProof
set_option Elab.async false
set_option maxRecDepth 100000
set_option autoImplicit false
namespace Mine
theorem plainAttrs_pat : PlainAttrs "re.Pattern" :=
  ⟨⟨"object.__getattribute__", by rw [typeLookup_type, builtinLookup_eq_fast]; kernel_rfl, by decide +kernel⟩, by rw [typeLookup_type, builtinLookup_eq_fast]; kernel_rfl⟩
theorem plainAttrs_mat : PlainAttrs "re.Match" :=
  ⟨⟨"object.__getattribute__", by rw [typeLookup_type, builtinLookup_eq_fast]; kernel_rfl, by decide +kernel⟩, by rw [typeLookup_type, builtinLookup_eq_fast]; kernel_rfl⟩
theorem slot_pat_sub : Slot "re.Pattern" "sub" "re.Pattern.sub" :=
  .of (owner := "re.Pattern") (n := "sub") (by rw [typeLookup_type, builtinLookup_eq_fast]; kernel_rfl) (by decide +kernel) (by decide +kernel) (by decide +kernel)
    (by first | exact .inl (by decide +kernel) | exact .inr (by decide +kernel)) (by rw [isSubtype_type]; kernel_rfl)
theorem type_pat_sub : typeOf (.builtin "re.Pattern.sub") = pure (.type "method_descriptor") := by show builtinType _ = _; rw [builtinType_eq_fast]; kernel_rfl
theorem entry_pat_sub : entryFor table "re.Pattern.sub" = some Builtin.«re.Pattern.sub» := entryFor_of_tree (by kernel_rfl)
theorem entry_pat_sub_loop : entryFor table "re.Pattern.sub.loop" = some Builtin.«re.Pattern.sub.loop» := entryFor_of_tree (by kernel_rfl)
theorem slot_pat_match : Slot "re.Pattern" "match" "re.Pattern.match" :=
  .of (owner := "re.Pattern") (n := "match") (by rw [typeLookup_type, builtinLookup_eq_fast]; kernel_rfl) (by decide +kernel) (by decide +kernel) (by decide +kernel)
    (by first | exact .inl (by decide +kernel) | exact .inr (by decide +kernel)) (by rw [isSubtype_type]; kernel_rfl)
theorem type_pat_match : typeOf (.builtin "re.Pattern.match") = pure (.type "method_descriptor") := by show builtinType _ = _; rw [builtinType_eq_fast]; kernel_rfl
theorem entry_pat_match : entryFor table "re.Pattern.match" = some Builtin.«re.Pattern.match» := entryFor_of_tree (by kernel_rfl)
theorem slot_mat_group : Slot "re.Match" "group" "re.Match.group" :=
  .of (owner := "re.Match") (n := "group") (by rw [typeLookup_type, builtinLookup_eq_fast]; kernel_rfl) (by decide +kernel) (by decide +kernel) (by decide +kernel)
    (by first | exact .inl (by decide +kernel) | exact .inr (by decide +kernel)) (by rw [isSubtype_type]; kernel_rfl)
theorem type_mat_group : typeOf (.builtin "re.Match.group") = pure (.type "method_descriptor") := by show builtinType _ = _; rw [builtinType_eq_fast]; kernel_rfl
theorem entry_mat_group : entryFor table "re.Match.group" = some Builtin.«re.Match.group» := entryFor_of_tree (by kernel_rfl)
theorem slot_mat_groups : Slot "re.Match" "groups" "re.Match.groups" :=
  .of (owner := "re.Match") (n := "groups") (by rw [typeLookup_type, builtinLookup_eq_fast]; kernel_rfl) (by decide +kernel) (by decide +kernel) (by decide +kernel)
    (by first | exact .inl (by decide +kernel) | exact .inr (by decide +kernel)) (by rw [isSubtype_type]; kernel_rfl)
theorem type_mat_groups : typeOf (.builtin "re.Match.groups") = pure (.type "method_descriptor") := by show builtinType _ = _; rw [builtinType_eq_fast]; kernel_rfl
theorem entry_mat_groups : entryFor table "re.Match.groups" = some Builtin.«re.Match.groups» := entryFor_of_tree (by kernel_rfl)
theorem owner_pat : Manifest.owners.lookup (String.ofList ['n', 'r', 'e', 't', 't', 'a', 'P', '.', 'e', 'r'].reverse) = some Manifest.sig_re_Pattern := by kernel_rfl
theorem owner_mat : Manifest.owners.lookup (String.ofList ['h', 'c', 't', 'a', 'M', '.', 'e', 'r'].reverse) = some Manifest.sig_re_Match := by kernel_rfl
theorem args_pat_sub (a b c : Value) : argsOk "re.Pattern.sub" ⟨[a, b, c], []⟩ := by
  unfold argsOk; rw [signature?_of (id := "re.Pattern.sub") (n := ['b', 'u', 's']) (o := ['n', 'r', 'e', 't', 't', 'a', 'P', '.', 'e', 'r']) (by kernel_rfl) owner_pat]; kernel_rfl
theorem args_pat_match (a b : Value) : argsOk "re.Pattern.match" ⟨[a, b], []⟩ := by
  unfold argsOk; rw [signature?_of (id := "re.Pattern.match") (n := ['h', 'c', 't', 'a', 'm']) (o := ['n', 'r', 'e', 't', 't', 'a', 'P', '.', 'e', 'r']) (by kernel_rfl) owner_pat]; kernel_rfl
theorem args_mat_group (a b : Value) : argsOk "re.Match.group" ⟨[a, b], []⟩ := by
  unfold argsOk; rw [signature?_of (id := "re.Match.group") (n := ['p', 'u', 'o', 'r', 'g']) (o := ['h', 'c', 't', 'a', 'M', '.', 'e', 'r']) (by kernel_rfl) owner_mat]; kernel_rfl
theorem args_mat_groups (a : Value) : argsOk "re.Match.groups" ⟨[a], []⟩ := by
  unfold argsOk; rw [signature?_of (id := "re.Match.groups") (n := ['s', 'p', 'u', 'o', 'r', 'g']) (o := ['h', 'c', 't', 'a', 'M', '.', 'e', 'r']) (by kernel_rfl) owner_mat]; kernel_rfl
end Mine
end
section
open PySem PySem.W PySem.Calls PyProof.Rows PyProof
set_option Elab.async false
set_option maxRecDepth 100000
set_option autoImplicit false
namespace Mine
open PySem.Sre PySem.Builtin.Re

/-- the machine ends within n steps as m' -/
def Ends (n : Nat) (m m' : M) : Prop := M.runFor n m = m' ∧ m'.outcome.isSome = true
theorem runFor_done {m : M} (h : m.outcome.isSome = true) : ∀ n, M.runFor n m = m
  | 0 => rfl
  | n + 1 => by unfold M.runFor; rw [if_pos h]
theorem runFor_add (m : M) : ∀ a b, M.runFor (a + b) m = M.runFor b (M.runFor a m)
  | 0, b => by rw [Nat.zero_add]; rfl
  | a + 1, b => by
    rw [show a + 1 + b = (a + b) + 1 by omega]
    by_cases h : m.outcome.isSome = true
    · rw [runFor_done h, runFor_done h, runFor_done h]
    · rw [M.runFor, if_neg h]; conv => rhs; rw [M.runFor, if_neg h]
      exact runFor_add _ a b
theorem Ends.step {n : Nat} {m m₁ m' : M} (hs : m.step = m₁) (h : Ends n m₁ m') (ho : m.outcome = none) : Ends (n + 1) m m' := by
  refine ⟨?_, h.2⟩
  rw [M.runFor, ho]; simp only [Option.isSome_none, Bool.false_eq_true, if_false]; rw [hs]; exact h.1
theorem Ends.more {n k : Nat} {m m' : M} (h : Ends n m m') (hk : n ≤ k) : Ends k m m' := by
  refine ⟨?_, h.2⟩
  obtain ⟨d, rfl⟩ := Nat.exists_eq_add_of_le hk
  rw [runFor_add, h.1, runFor_done h.2]
section
variable {w : World} {A : Around} {E : Value → Shared → Prop} {s : Shared}
theorem reDrive_ends {m' : M} {Q : M → Shared → Prop} (H : Q m' s) : ∀ (turns n : Nat) (m : M), Ends n m m' → n ≤ 4 * turns → 0 < turns → wpAny (model pg w) A (reDrive turns m) Q E s
  | 0, n, m, _, _, hn => by omega
  | turns + 1, n, m, h, hn, _ => by
    unfold reDrive
    dsimp only
    by_cases hs : (M.runFor reTurnSteps m).outcome.isSome = true
    · rw [if_pos hs]
      have : M.runFor reTurnSteps m = m' := by
        have h2 := h.more (k := n + 4) (by omega)
        rw [show n + 4 = reTurnSteps + n by simp [reTurnSteps]; omega] at h2
        have h3 := h2.1
        rw [runFor_add, runFor_done hs] at h3
        exact h3
      rw [this]; exact wpAny_pure H
    · rw [if_neg hs]
      refine wpAny_bind (wpAny_rule ?_)
      have hn4 : ¬ n ≤ 4 := fun hle => by
        have h2 := h.more hle
        exact hs (by rw [show reTurnSteps = 4 from rfl, h2.1]; exact h2.2)
      refine reDrive_ends H turns (n - 4) _ ⟨?_, h.2⟩ (by omega) (by omega)
      rw [← runFor_add, show reTurnSteps + (n - 4) = n by simp [reTurnSteps]; omega]
      exact h.1
theorem rules_loop {l : List Nat} {p : Nat → Bool} {f : Nat → String} {Q : PUnit → Shared → Prop} (H : Q ⟨⟩ s) :
    wpAny (model pg w) A (forIn l PUnit.unit fun i (_ : PUnit) =>
      if p i = true then do rule (f i); pure (ForInStep.yield PUnit.unit) else pure (ForInStep.yield PUnit.unit)) Q E s := by
  induction l with
  | nil => exact wpAny_pure H
  | cons x r ih =>
    rw [List.forIn_cons]
    refine wpAny_bind ?_
    split
    · exact wpAny_bind (wpAny_rule (wpAny_pure ih))
    · exact wpAny_pure ih
theorem reRun_some {m m' : M} {n : Nat} {Q : Option M → Shared → Prop} (h : Ends n m m') (hn : n ≤ 1000000000000000) (ho : m'.outcome = some Sre.Outcome.matched) (H : Q (some m') s) : wpAny (model pg w) A (reRunToEnd m) Q E s := by
  unfold reRunToEnd
  refine wpAny_bind (reDrive_ends ?_ _ n m h (by omega) (by decide))
  refine wpAny_bind ?_
  refine rules_loop (p := fun i => m'.seen.has i) (f := fun i => Sre.names.getD i "") ?_
  rw [ho]; exact wpAny_pure H
theorem reRun_none {m m' : M} {n : Nat} {Q : Option M → Shared → Prop} (h : Ends n m m') (hn : n ≤ 1000000000000000) (ho : m'.outcome = some .failed) (H : Q none s) : wpAny (model pg w) A (reRunToEnd m) Q E s := by
  unfold reRunToEnd
  refine wpAny_bind (reDrive_ends ?_ _ n m h (by omega) (by decide))
  refine wpAny_bind ?_
  refine rules_loop (p := fun i => m'.seen.has i) (f := fun i => Sre.names.getD i "") ?_
  rw [ho]; exact wpAny_pure H
end
/-- the code of _unslash_re -/
def cU : Array Nat := #[14, 8, 1, 2, 2, 1, 1, 92, 0, 16, 92, 17, 0, 2, 17, 1, 1]
section
variable {x : Array Nat} {lim : Nat} {ma : Bool}
abbrev uM (x : Array Nat) (lim : Nat) (ma : Bool) (start pc pos handed : Nat) (om : Bool) (marks : Array (Option Nat)) (lm li : Int) (frames : List Sre.Frame) (wt : Nat) (ans : Option Bool) (seen : Sre.Seen) (oc : Option Sre.Outcome) : M :=
  { code := cU, text := x, lim, start, lastStart := lim, mustAdvance := ma, pc, pos, handed, outermost := om, marks, lastmark := lm, lastindex := li, frames, weight := wt, answer := ans, seen, outcome := oc }
abbrev uF (om : Bool) (s : Nat) : Sre.Frame := { wait := .nextStart, pc := 9, pos := s, outermost := om }
/-- an attempt's first state -/
abbrev uA (x : Array Nat) (lim : Nat) (ma : Bool) (s : Nat) (om : Bool) (marks : Array (Option Nat)) (seen : Sre.Seen) : M := uM x lim ma s 9 s s om marks (-1) (-1) [uF om s] 1 none seen none


theorem u_no {pc pos handed start : Nat} {om om' : Bool} {marks lm li seen s} :
    ((uM x lim ma start pc pos handed om' marks lm li [uF om s] 1 (some false) seen none).step = (if s < lim then uA x lim false (s + 1) false marks seen else uM x lim ma start 9 s handed om marks lm li [] 0 (some false) seen none)) := by
  unfold M.step M.resume
  dsimp only [Option.isSome_none]
  simp only [Bool.false_eq_true, if_false]
  split
  · simp only [M.attemptFrom, M.attemptAt, M.attempt, show ∀ m : M, m.code = cU → m.hasFirstSet = false from fun m h => by unfold M.hasFirstSet; rw [h]; rfl]
    rfl
  · rfl
theorem u_lit {start : Nat} {om : Bool} {marks lm li fr seen s wt h} (hs : s < lim) (hx : x.getD s 0 = 92) :
    ∃ seen', (uM x lim ma start 9 s h om marks lm li fr wt none seen none).step = uM x lim ma start 11 (s + 1) h om marks lm li fr wt none seen' none := by
  refine ⟨?_, ?_⟩
  rotate_left
  · unfold M.step M.exec
    simp only [Option.isSome_none, Bool.false_eq_true, if_false, M.word]
    simp [cU, ops, accepts, hx, itemWidth, Nat.not_le.mpr hs]
    rfl

theorem u_lit_no {start : Nat} {om : Bool} {marks lm li fr seen s wt h} (hs : lim ≤ s ∨ x.getD s 0 ≠ 92) :
    ∃ seen', (uM x lim ma start 9 s h om marks lm li fr wt none seen none).step = uM x lim ma start 9 s h om marks lm li fr wt (some false) seen' none := by
  refine ⟨?_, ?_⟩
  rotate_left
  · unfold M.step M.exec
    simp only [Option.isSome_none, Bool.false_eq_true, if_false, M.word]
    by_cases h0 : lim ≤ s
    · simp [cU, ops, h0, M.say]
      rfl
    · have hx : (x[s]?.getD 0 == 92) = false := by simpa using hs.resolve_left h0
      simp [cU, ops, accepts, hx, h0, M.say]
theorem u_mark0 {start pos : Nat} {om : Bool} {a b li fr seen wt h} :
    ∃ seen', (uM x lim ma start 11 pos h om #[a, b] (-1) li fr wt none seen none).step = uM x lim ma start 13 pos h om #[some pos, b] 0 li fr wt none seen' none := ⟨_, rfl⟩
theorem u_any {start : Nat} {om : Bool} {marks lm li fr seen s wt h} (hs : s < lim) (hx : x.getD s 0 ≠ 10) :
    ∃ seen', (uM x lim ma start 13 s h om marks lm li fr wt none seen none).step = uM x lim ma start 14 (s + 1) h om marks lm li fr wt none seen' none := by
  refine ⟨?_, ?_⟩
  rotate_left
  · unfold M.step M.exec
    simp only [Option.isSome_none, Bool.false_eq_true, if_false, M.word]
    have hx2 : (x[s]?.getD 0 != 10) = true := by simpa using hx
    simp [cU, ops, accepts, hx2, itemWidth, Nat.not_le.mpr hs]
    rfl
theorem u_any_no {start : Nat} {om : Bool} {marks lm li fr seen s wt h} (hs : lim ≤ s ∨ x.getD s 0 = 10) :
    ∃ seen', (uM x lim ma start 13 s h om marks lm li fr wt none seen none).step = uM x lim ma start 13 s h om marks lm li fr wt (some false) seen' none := by
  refine ⟨?_, ?_⟩
  rotate_left
  · unfold M.step M.exec
    simp only [Option.isSome_none, Bool.false_eq_true, if_false, M.word]
    by_cases h0 : lim ≤ s
    · simp [cU, ops, h0, M.say]
      rfl
    · have hx : (x[s]?.getD 0 != 10) = false := by simpa using hs.resolve_left h0
      simp [cU, ops, accepts, hx, h0, M.say]
theorem u_mark1 {start pos : Nat} {om : Bool} {a b li fr seen wt h} :
    ∃ seen', (uM x lim ma start 14 pos h om #[a, b] 0 li fr wt none seen none).step = uM x lim ma start 16 pos h om #[a, some pos] 1 1 fr wt none seen' none := by
  refine ⟨seen.add 17, ?_⟩
  unfold M.step M.exec
  simp [cU, ops, M.word, M.mark]
  try decide
theorem u_succ {start pos : Nat} {om : Bool} {marks lm li fr seen wt h} (hp : pos ≠ start) :
    ∃ seen', (uM x lim ma start 16 pos h om marks lm li fr wt none seen none).step = uM x lim ma start 16 pos pos om marks lm li fr wt (some true) seen' none := by
  refine ⟨?_, ?_⟩
  rotate_left
  · unfold M.step M.exec
    simp only [Option.isSome_none, Bool.false_eq_true, if_false, M.word]
    simp [cU, ops, hp, M.say]
    rfl
theorem u_yes {start pc pos : Nat} {om om' : Bool} {marks lm li seen s h} :
    (uM x lim ma start pc pos h om' marks lm li [uF om s] 1 (some true) seen none).step = uM x lim ma start 9 s h om marks lm li [] 0 (some true) seen none := rfl
theorem u_fin {start pc pos : Nat} {om : Bool} {marks lm li seen wt h b} :
    (uM x lim ma start pc pos h om marks lm li [] wt (some b) seen none).step = uM x lim ma start pc pos h om marks lm li [] wt (some b) seen (some (if b then .matched else .failed)) := rfl

/-- an escaped sign at s -/
def EscAt (x : Array Nat) (lim s : Nat) : Prop := s + 1 < lim ∧ x.getD s 0 = 92 ∧ x.getD (s + 1) 0 ≠ 10
structure Hit (m' : M) (s : Nat) : Prop where
  o : m'.outcome = some .matched
  st : m'.start = s
  h : m'.handed = s + 2
  mks : m'.marks = #[some (s + 1), some (s + 2)]
  lm : m'.lastmark = 1
  li : m'.lastindex = 1
theorem u_hit {s : Nat} {om : Bool} {a b seen} (h : EscAt x lim s) : ∃ m', Ends 7 (uA x lim ma s om #[a, b] seen) m' ∧ Hit m' s := by
  obtain ⟨h1, h2, h3⟩ := h
  obtain ⟨_, e1⟩ := u_lit (ma := ma) (start := s) (om := om) (marks := #[a, b]) (lm := -1) (li := -1) (fr := [uF om s]) (seen := seen) (wt := 1) (h := s) (x := x) (lim := lim) (s := s) (by omega) h2
  obtain ⟨_, e2⟩ := u_mark0 (x := x) (lim := lim) (ma := ma) (start := s) (om := om) (a := a) (b := b) (li := -1) (fr := [uF om s]) (wt := 1) (h := s) (pos := s + 1)
  obtain ⟨_, e3⟩ := u_any (x := x) (lim := lim) (ma := ma) (start := s) (om := om) (marks := #[some (s + 1), b]) (lm := 0) (li := -1) (fr := [uF om s]) (wt := 1) (h := s) (s := s + 1) h1 h3
  obtain ⟨_, e4⟩ := u_mark1 (x := x) (lim := lim) (ma := ma) (start := s) (om := om) (a := some (s + 1)) (b := b) (li := -1) (fr := [uF om s]) (wt := 1) (h := s) (pos := s + 2)
  obtain ⟨_, e5⟩ := u_succ (x := x) (lim := lim) (ma := ma) (start := s) (om := om) (marks := #[some (s + 1), some (s + 2)]) (lm := 1) (li := 1) (fr := [uF om s]) (wt := 1) (h := s) (pos := s + 2) (by omega)
  exact ⟨_, .step e1 (.step e2 (.step e3 (.step e4 (.step e5 (.step u_yes (.step u_fin ⟨rfl, rfl⟩ rfl) rfl) rfl) rfl) rfl) rfl) rfl, ⟨rfl, rfl, rfl, rfl, rfl, rfl⟩⟩
/-- an attempt that fails comes to an answer -/
theorem u_miss {s n : Nat} {om : Bool} {a b seen} {P : M → Prop} (h : ¬ EscAt x lim s)
    (H : ∀ start pc pos handed om' a' b' lm li seen', ∃ m', Ends n (uM x lim ma start pc pos handed om' #[a', b'] lm li [uF om s] 1 (some false) seen' none) m' ∧ P m') : ∃ m', Ends (n + 3) (uA x lim ma s om #[a, b] seen) m' ∧ P m' := by
  by_cases h1 : s < lim ∧ x.getD s 0 = 92
  · obtain ⟨_, e1⟩ := u_lit (ma := ma) (start := s) (om := om) (marks := #[a, b]) (lm := -1) (li := -1) (fr := [uF om s]) (seen := seen) (wt := 1) (h := s) (x := x) (lim := lim) (s := s) h1.1 h1.2
    obtain ⟨_, e2⟩ := u_mark0 (x := x) (lim := lim) (ma := ma) (start := s) (om := om) (a := a) (b := b) (li := -1) (fr := [uF om s]) (wt := 1) (h := s) (pos := s + 1)
    obtain ⟨_, e3⟩ := u_any_no (x := x) (lim := lim) (ma := ma) (start := s) (om := om) (marks := #[some (s + 1), b]) (lm := 0) (li := -1) (fr := [uF om s]) (wt := 1) (h := s) (s := s + 1) (by
      by_cases h2 : lim ≤ s + 1
      · exact .inl h2
      · exact .inr (Decidable.byContradiction fun q => h ⟨by omega, h1.2, q⟩))
    obtain ⟨m', E, p⟩ := H _ _ _ _ _ _ _ _ _ _
    exact ⟨m', .step e1 (.step e2 (.step e3 E rfl) rfl) rfl, p⟩
  · obtain ⟨_, e1⟩ := u_lit_no (ma := ma) (start := s) (om := om) (marks := #[a, b]) (lm := -1) (li := -1) (fr := [uF om s]) (seen := seen) (wt := 1) (h := s) (x := x) (lim := lim) (s := s) (by
      by_cases h2 : lim ≤ s
      · exact .inl h2
      · exact .inr fun q => h1 ⟨by omega, q⟩)
    obtain ⟨m', E, p⟩ := H _ _ _ _ _ _ _ _ _ _
    exact ⟨m', (Ends.step e1 E rfl).more (by omega), p⟩
/-- the search from s on -/
def Found (x : Array Nat) (lim s : Nat) (m' : M) : Prop := (∃ k, s ≤ k ∧ EscAt x lim k ∧ (∀ j, s ≤ j → j < k → ¬ EscAt x lim j) ∧ Hit m' k) ∨ ((∀ j, s ≤ j → ¬ EscAt x lim j) ∧ m'.outcome = some .failed)
theorem u_from : ∀ (d s : Nat) (ma om : Bool) (a b) (seen), lim + 1 - s = d → ∃ m', Ends (4 * d + 12) (uA x lim ma s om #[a, b] seen) m' ∧ Found x lim s m'
  | d, s, ma, om, a, b, seen, hd => by
    by_cases h : EscAt x lim s
    · obtain ⟨m', E, p⟩ := u_hit (ma := ma) (om := om) (a := a) (b := b) (seen := seen) h
      exact ⟨m', E.more (by omega), .inl ⟨s, Nat.le_refl _, h, fun j h1 h2 => by omega, p⟩⟩
    · by_cases hs : s < lim
      · have rec' := fun a b seen => u_from (d - 1) (s + 1) false false a b seen (by omega)
        obtain ⟨m', E, p⟩ := u_miss (n := 4 * d + 9) (ma := ma) (om := om) (a := a) (b := b) (seen := seen) (P := Found x lim (s + 1)) h (fun start pc pos handed om' a' b' lm li seen' => by
          obtain ⟨m', E, p⟩ := rec' a' b' seen'
          exact ⟨m', (Ends.step (by rw [u_no, if_pos hs]) E rfl).more (by omega), p⟩)
        refine ⟨m', E, ?_⟩
        rcases p with ⟨k, h1, h2, h3, h4⟩ | ⟨h1, h2⟩
        · refine .inl ⟨k, by omega, h2, fun j j1 j2 => ?_, h4⟩
          by_cases e : j = s
          · rw [e]; exact h
          · exact h3 j (by omega) j2
        · refine .inr ⟨fun j j1 => ?_, h2⟩
          by_cases e : j = s
          · rw [e]; exact h
          · exact h1 j (by omega)
      · obtain ⟨m', E, p⟩ := u_miss (n := 4 * d + 9) (ma := ma) (om := om) (a := a) (b := b) (seen := seen) (P := fun m' => m'.outcome = some .failed) h (fun start pc pos handed om' a' b' lm li seen' =>
          ⟨_, (Ends.step (by rw [u_no, if_neg hs]) (Ends.step u_fin ⟨rfl, rfl⟩ rfl) rfl : Ends 2 _ _).more (by omega), rfl⟩)
        exact ⟨m', E, .inr ⟨fun j j1 q => by unfold EscAt at q; omega, p⟩⟩
  termination_by d => d
theorem u_search {start : Nat} (hs : start ≤ lim) : ∃ m', Ends (4 * lim + 20) (forSearch cU x 1 start lim ma) m' ∧ Found x lim start m' := by
  by_cases h : lim - start < 2
  · refine ⟨_, ((Ends.step (m₁ := { forSearch cU x 1 start lim ma with outcome := some .failed }) ?_ ⟨rfl, rfl⟩ ?_ : Ends 1 _ _)).more (by omega), .inr ⟨fun j j1 q => by unfold EscAt at q; omega, rfl⟩⟩
    · simp only [forSearch]; rw [if_pos (by simp; exact .inr (by show lim - start < 2; omega))]; rfl
    · simp only [forSearch]; rw [if_pos (by simp; exact .inr (by show lim - start < 2; omega))]; rfl
  · obtain ⟨m', E, p⟩ := u_from (x := x) (lim := lim) _ start ma true none none (Seen.add {} 14) rfl
    refine ⟨m', ?_, p⟩
    have e : forSearch cU x 1 start lim ma = uA x lim ma start true #[none, none] (Seen.add {} 14) := by
      simp only [forSearch]
      rw [if_neg (by simp; exact ⟨by omega, by show 2 ≤ lim - start; omega⟩)]
      rfl
    rw [e]
    exact E.more (by omega)
end
end Mine
end
section
open PySem PySem.W PySem.Calls PyProof.Rows PyProof
set_option Elab.async false
set_option maxRecDepth 100000
set_option maxHeartbeats 2000000
set_option autoImplicit false
namespace Mine
open PySem.Builtin.Re
section
variable {w : World} {A : Around} {E : Value → Shared → Prop} {s : Shared} {h : Heap} {tk : Nat}
theorem wholeTarget_U {y : List Nat} {t : Tok} {Q : ReTarget → Shared → Prop} (W : Wd w h)
    (H : Q ⟨.ref 50, .str (S y) t, cU, y.toArray, 0, 1, 0, y.length⟩ (st s h tk)) : wpAny (model pg w) A (reWholeTarget (.ref 50) (.str (S y) t)) Q E (st s h tk) := by
  unfold reWholeTarget
  refine wpAny_bind (wpAny_fieldsOf (o := ⟨.type "re.Pattern", none, .fields _, _⟩) (W.K 50 _ rfl) rfl ?_)
  refine wpAny_bind (wpAny_of_eq (a := (y.toArray, 0)) (by rfl) ?_)
  dsimp only
  rw [if_neg (by decide), if_neg (by decide)]
  refine wpAny_bind (wpAny_of_eq (a := ()) (by rfl) ?_)
  refine wpAny_bind (wpAny_bind (wpAny_seqItems (W.K 49 _ rfl) rfl ?_))
  refine wpAny_pure (wpAny_pure ?_)
  rw [show cU = Array.map (fun (x : Int) => x.toNat) (Array.map reRawOf #[Value.int 14 0, Value.int 8 0, Value.int 1 0, Value.int 2 0, Value.int 2 0, Value.int 1 0, Value.int 1 0, Value.int 92 0, Value.int 0 0, Value.int 16 0, Value.int 92 0, Value.int 17 0,
    Value.int 0 0, Value.int 2 0, Value.int 17 0, Value.int 1 0, Value.int 1 0]) from by decide +kernel] at H
  exact H
theorem nextFound_U {y : List Nat} {t : Tok} {start : Nat} {must : Bool} {Q : Option Sre.M → Shared → Prop} (hs : start ≤ y.length) (hz : y.length ≤ 100000)
    (H1 : ∀ m k, start ≤ k → EscAt y.toArray y.length k → (∀ j, start ≤ j → j < k → ¬ EscAt y.toArray y.length j) → Hit m k → Q (some m) (st s h tk))
    (H2 : (∀ j, start ≤ j → ¬ EscAt y.toArray y.length j) → Q none (st s h tk)) :
    wpAny (model pg w) A (reNextFound ⟨.ref 50, .str (S y) t, cU, y.toArray, 0, 1, 0, y.length⟩ start must) Q E (st s h tk) := by
  unfold reNextFound
  obtain ⟨m', e, p⟩ := u_search (x := y.toArray) (ma := must) hs
  rcases p with ⟨k, h1, h2, h3, h4⟩ | ⟨h1, h2⟩
  · exact reRun_some e (by omega) h4.o (H1 m' k h1 h2 h3 h4)
  · exact reRun_none e (by omega) h2 (H2 h1)
/-- the match that the search makes at k -/
def MatU (h : Heap) (y : List Nat) (t : Tok) (k : Nat) (a : Addr) : Prop := ∃ b, h.get? a = some { cls := .type "re.Match", data := .fields #[.str (S y) t, .ref 50, rawInt 0, rawInt y.length, rawInt 1, .ref b] } ∧ h.get? b = some { cls := .type "tuple", data := .seq #[rawInt k, rawInt (k + 2), rawInt (k + 1), rawInt (k + 2)] }
theorem newMatch_U {y : List Nat} {t : Tok} {k : Nat} {m : Sre.M} (hm : Hit m k) {Q : Value → Shared → Prop}
    (H : ∀ a h', h.StaysIn h' → MatU h' y t k a → Q (.ref a) (st s h' tk)) :
    wpAny (model pg w) A (reNewMatch (.ref 50) (.str (S y) t) 1 0 y.length m) Q E (st s h tk) := by
  unfold reNewMatch
  obtain ⟨h1, h2, h3, h4, h5, h6⟩ := hm
  rw [h2, h3, h4, h5, h6]
  simp only [List.range, List.range.loop, List.flatMap_cons, List.flatMap_nil, List.any_cons, List.any_nil]
  rw [if_neg (by simp)]
  refine wpAny_bind (wpAny_newTuple ?_ (by show 4 ≤ sizeLine; decide))
  refine wpAny_newObj_type ?_
  refine H _ _ (fun b o e => Heap.get?_push_of_some _ (Heap.get?_push_of_some _ e)) ⟨h.objs.size, Heap.get?_push_size _ rfl, Heap.get?_push_of_some _ (Heap.get?_push_size _ rfl)⟩
theorem upd_push {P : Addr} {vs : List Value} {k : Nat} {x : Value} {Q : Unit → Shared → Prop} (ho : h.get? P = some (PySem.W.listOf vs.toArray k)) (hz : vs.length ≤ 100000)
    (H : ∀ h', (∀ b o, b ≠ P → h.get? b = some o → h'.get? b = some o) → h'.get? P = some (PySem.W.listOf (vs ++ [x]).toArray (k + 1)) → Q () (st s h' tk)) :
    wpAny (model pg w) A (updateSeq P (·.push x)) Q E (st s h tk) := by
  refine wpAny_updateSeq (s := st s h tk) ho rfl (H _ (Heap.SameBut.update ..).extBut ?_) (by simp [sizeLine_eq]; omega) (by simp [sizeLine_eq]; omega)
  show (h.update P _).get? P = _
  rw [Heap.get?_update_self _ ho (by rw [mapSeq_push]; rfl), mapSeq_push, ← push_arr]
theorem slice_U {y : List Nat} {b e : Nat} {Q : Value → Shared → Prop} (hz : y.length ≤ 1000000) (H : ∀ t' tk', Q (.str (S ((y.take e).drop b)) t') (st s h tk')) : wpAny (model pg w) A (reSlice y.toArray 0 b e) Q E (st s h tk) := by
  have e1 : (⟨y.toArray.extract b e⟩ : Str) = S ((y.take e).drop b) := by unfold S; congr 1; simp [List.drop_take]
  show wpAny _ _ (mkStr ⟨y.toArray.extract b e⟩) _ _ _
  rw [e1]
  exact wpAny_mkStr (H _ _) (by rw [S_length, sizeLine_eq]; simp; omega)
theorem strs_vals {vs : List Value} {ls : List (List Nat)} (hvs : StrsV vs ls) : ∃ l : List (Str × Tok), strValues l = vs ∧ l.map (·.1) = ls.map S := by
  induction hvs with
  | nil => exact ⟨[], rfl, rfl⟩
  | cons e _ ih =>
    obtain ⟨t, rfl⟩ := e
    obtain ⟨l, rfl, e2⟩ := ih
    exact ⟨(S _, t) :: l, rfl, by rw [List.map_cons, List.map_cons, e2]⟩
theorem join_flat : ∀ ls : List (List Nat), Txt.join (S []) (ls.map S) = S ls.flatten
  | [] => rfl
  | [x] => by show Txt.join (S []) [S x] = _; simp [Txt.join, Builtin.Str.glued]
  | x :: y :: r => by
    have ih := join_flat (y :: r)
    unfold Txt.join at *
    rw [StrLaws.glued_eq_join] at *
    show S x ++ S [] ++ Str.join (S []) (S y :: r.map S) = _
    rw [show Str.join (S []) (S y :: r.map S) = S (y :: r).flatten from ih, S_append, S_append]
    simp
theorem joinOk_S (ls : List (List Nat)) (hz : ls.flatten.length ≤ 1000000) : JoinOk (S []) (ls.map S) = true := by
  unfold JoinOk
  rw [StrLaws.joinTotal]
  have e : ((ls.map S).map (·.length)).sum = ls.flatten.length := by
    rw [List.map_map, List.length_flatten]; congr 1
  rw [e, S_length, List.length_nil, Nat.mul_zero, Nat.add_zero]
  unfold Builtin.Str.tooLong
  rw [decide_eq_false (by rw [sizeLine_eq]; omega)]; rfl
theorem c_join0 {P : Addr} {vs : List Value} {ls : List (List Nat)} {k : Nat} {t : Tok} {Q : Value → Shared → Prop} (hl : h.get? P = some (PySem.W.listOf vs.toArray k)) (hvs : StrsV vs ls) (hz : ls.flatten.length ≤ 1000000)
    (H : ∀ t' tk', Q (.str (S ls.flatten) t') (st s h tk')) : wpAny (model pg w) A (call (.builtin "str.join") [.str (S []) t, .ref P]) Q E (st s h tk) := by
  obtain ⟨l, rfl, e2⟩ := strs_vals hvs
  have hok := joinOk_S ls hz
  rw [← e2] at hok
  unfold JoinOk at hok
  rw [Bool.not_eq_true'] at hok
  refine wpAny_call (codeAny_call_builtin F.slot_str_join.plain F.entry_str_join (F.slot_str_join.check _ _ _ _ _ _ _ _ (typeIs_str _ _ _) (F.args_str_join_2 _ _) ?_))
  refine meets_str_join_list (S []) t P l hok pg w A (wants Q E) _ ⟨⟨_, hl, rfl, k, rfl⟩, post_join l ⟨joinFit_length hok, fun t' k => ?_⟩⟩
  rw [e2, join_flat]; exact H _ _

/-- what the callback of the sub does -/
def UnCb (w : World) (d : Nat) (f : Value) (y : List Nat) (t : Tok) (h₀ : Heap) : Prop := ∀ (A : Around) (s : Shared) (h : Heap) (tk : Nat) (a : Addr) (k : Nat) (Q E : Value → Shared → Prop), A.depth = d → h₀.StaysIn h → MatU h y t k a → k + 1 < y.length →
  (∀ h' tk' t', h.StaysIn h' → Q (.str (S [y.getD (k + 1) 0]) t') (st s h' tk')) → wpAny (model pg w) A (call f [.ref a]) Q E (st s h tk)
theorem plain_loop : plainId "re.Pattern.sub.loop" = true := by decide +kernel
theorem not_esc {y : List Nat} (hy : ∀ c ∈ y, c ≠ 10) {j : Nat} (h : ¬ EscAt y.toArray y.length j) (hj : j + 1 < y.length) : y.getD j 0 ≠ 92 := fun q => by
  refine h ⟨hj, by simpa using q, ?_⟩
  have := hy (y.getD (j + 1) 0) (by rw [List.getD_eq_getElem?_getD, List.getElem?_eq_getElem hj]; exact List.getElem_mem hj)
  simpa using this
theorem sub_loop {y : List Nat} {t : Tok} {f : Value} {P : Addr} {h₀ : Heap} {R : Result → Shared → Prop} (W : Wd w h₀) (hy : ∀ c ∈ y, c ≠ 10) (hz : y.length ≤ 1000) (cb : UnCb w A.depth f y t h₀) (hP : h₀.get? P = none)
    (H : ∀ h' tk' t', h₀.StaysIn h' → R (.ok (.ret (.str (S (readGo y)) t'))) (st s h' tk')) :
    ∀ (n d : Nat) (h : Heap) (tk : Nat) (vs : List Value) (ls : List (List Nat)) (k cnt : Nat), n = y.length - d → d ≤ y.length → h₀.StaysIn h → h.get? P = some (PySem.W.listOf vs.toArray k) → StrsV vs ls → ls.flatten ++ readGo (y.drop d) = readGo y → ls.length ≤ 2 * d →
    codeAny (model pg w) A (.builtin "re.Pattern.sub.loop" ⟨[.ref 50, .str (S y) t, f, rawInt 1, rawInt 0, rawInt cnt, rawInt d, rawInt d, .bool false, .ref P, .bool false], []⟩) R (st s h tk) := by
  intro n
  induction n using Nat.strongRecOn with
  | ind n ih =>
  intro d h tk vs ls k cnt hn hd hk hl hvs hfl hll
  have hvl := hvs.length
  have hal := readGo_le _ y (Nat.le_refl _)
  refine codeAny_builtin entry_pat_sub_loop ?_
  rw [Around.under_plainId plain_loop]
  show wpAny _ _ (reWholeTarget (.ref 50) (.str (S y) t) >>= _) _ _ _
  refine wpAny_bind (wholeTarget_U (W.keeps hk) ?_)
  dsimp only
  show wpAny _ _ (reNextFound _ d false >>= _) _ _ _
  refine wpAny_bind (nextFound_U hd (by omega) (fun m q hq he hno hit => ?_) fun hno => ?_)
  · -- found
    have hq1 : q + 1 < y.length := he.1
    have hrg : readGo (y.drop d) = (y.take q).drop d ++ y.getD (q + 1) 0 :: readGo (y.drop (q + 2)) :=
      readGo_first hq he.1 (by simpa using he.2.1) fun j h1 h2 => not_esc hy (hno j h1 h2) (by omega)
    dsimp only
    have tail : ∀ (h : Heap) (tk : Nat) (vs : List Value) (ls : List (List Nat)) (k : Nat), h₀.StaysIn h → h.get? P = some (PySem.W.listOf vs.toArray k) → StrsV vs ls → ls.flatten ++ y.getD (q + 1) 0 :: readGo (y.drop (q + 2)) = readGo y → ls.length ≤ 2 * d + 1 →
        wpAny (model pg w) A.in1 (reNewMatch (.ref 50) (.str (S y) t) 1 0 y.length m >>= fun found => holding [found] (call f [found]) >>= fun item =>
          if (item != Value.none) = true then (updateSeq P (fun x => x.push item) >>= fun _ => again (.builtin "re.Pattern.sub.loop" ⟨[.ref 50, .str (S y) t, f, rawInt 1, rawInt 0, rawInt ((cnt : Int) + 1), rawInt m.handed, rawInt m.handed, .bool (m.handed == m.start), .ref P, .bool false], []⟩))
          else again (.builtin "re.Pattern.sub.loop" ⟨[.ref 50, .str (S y) t, f, rawInt 1, rawInt 0, rawInt ((cnt : Int) + 1), rawInt m.handed, rawInt m.handed, .bool (m.handed == m.start), .ref P, .bool false], []⟩))
          (fun fin s' => match fin with | .done f => R (.ok f) s' | .again c' => c'.quiet = true ∧ codeAny (model pg w) A c' R s') (fun e s' => R (.error e) s') (st s h tk) := by
      intro h tk vs ls k hk hl hvs hfl hll
      refine wpAny_bind (newMatch_U hit fun a h1 k1 M => ?_)
      refine wpAny_bind (wpAny_holding ?_)
      refine cb A.in1 s h1 tk a q _ _ rfl (fun b o e => k1 b o (hk b o e)) M hq1 fun h2 tk2 t2 k2 => ?_
      rw [if_pos (by rfl)]
      refine wpAny_bind (upd_push (k2 _ _ (k1 _ _ hl)) (by have := hvs.length; omega) fun h3 k3 hl3 => ?_)
      refine wpAny_pure ⟨plainId_quiet plain_loop _, ?_⟩
      rw [hit.h, hit.st, show (q + 2 == q) = false by simp]
      refine ih (y.length - (q + 2)) (by omega) (q + 2) h3 tk2 (vs ++ [.str (S [y.getD (q + 1) 0]) t2]) (ls ++ [[y.getD (q + 1) 0]]) (k + 1) (cnt + 1) rfl (by omega) (fun b o e => k3 b o (fun x => by rw [x, hP] at e; cases e) (k2 _ _ (k1 _ _ (hk b o e)))) hl3 (Paired.snoc hvs ⟨_, rfl⟩) ?_ (by simp; omega)
      rw [← hfl]; simp
    split
    · rename_i hlt
      have hdq : d < q := by rw [hit.st] at hlt; exact hlt
      refine wpAny_bind (slice_U (by omega) fun t1 tk1 => ?_)
      refine wpAny_bind (upd_push hl (by omega) fun h1 k1 hl1 => ?_)
      refine tail h1 tk1 _ (ls ++ [(y.take q).drop d]) (k + 1) (fun b o e => k1 b o (fun x => by rw [x, hP] at e; cases e) (hk b o e)) hl1 (Paired.snoc hvs ⟨t1, by rw [hit.st]; rfl⟩) ?_ (by simp; omega)
      rw [← hfl, hrg]; simp
    · rename_i hlt
      have hdq : d = q := by rw [hit.st] at hlt; exact Nat.le_antisymm hq (Nat.le_of_not_lt hlt)
      refine tail h tk vs ls k hk hl hvs ?_ (by omega)
      rw [← hfl, hrg, hdq, seg_self]; rfl
  · -- no more
    have hrg : readGo (y.drop d) = y.drop d := readGo_end _ fun j hj => by
      have := not_esc hy (hno (d + j) (by omega)) (by simp at hj; omega)
      simpa using this
    rw [hrg] at hfl
    have fin : ∀ (h : Heap) (tk : Nat) (vs : List Value) (ls : List (List Nat)) (k : Nat), h₀.StaysIn h → h.get? P = some (PySem.W.listOf vs.toArray k) → StrsV vs ls → ls.flatten = readGo y →
        wpAny (model pg w) A.in1 (do
          let joiner ← reSlice y.toArray 0 0 0
          let items ← seqItems? (.ref P)
          if (items.getD #[]).isEmpty then (pure joiner >>= fun text => ret text) else (call (.builtin "str.join") [joiner, .ref P] >>= fun text => ret text))
          (fun fin s' => match fin with | .done f => R (.ok f) s' | .again c' => c'.quiet = true ∧ codeAny (model pg w) A c' R s') (fun e s' => R (.error e) s') (st s h tk) := by
      intro h tk vs ls k hk hl hvs hfl
      refine wpAny_bind (slice_U (by omega) fun t1 tk1 => ?_)
      refine wpAny_bind (wpAny_seqItems hl rfl ?_)
      split
      · rename_i he
        have : vs = [] := by simpa using he
        subst this
        cases hvs
        refine wpAny_bind (wpAny_pure (wpAny_pure ?_))
        have := H h tk1 t1 hk
        rw [← hfl] at this
        simpa using this
      · refine wpAny_bind ?_
        have e0 : ((y.take 0).drop 0) = [] := by simp
        rw [e0]
        refine c_join0 hl hvs (by rw [hfl]; omega) fun t' tk' => ?_
        rw [hfl]
        exact wpAny_pure (H h tk' t' hk)
    dsimp only
    split
    · rename_i hlt
      refine wpAny_bind (slice_U (by omega) fun t1 tk1 => ?_)
      refine wpAny_bind (upd_push hl (by omega) fun h1 k1 hl1 => ?_)
      refine fin h1 tk1 _ (ls ++ [y.drop d]) (k + 1) (fun b o e => k1 b o (fun x => by rw [x, hP] at e; cases e) (hk b o e)) hl1 (Paired.snoc hvs ⟨t1, by simp⟩) ?_
      rw [← hfl]; simp
    · rename_i hlt
      have hdq : y.length ≤ d := Nat.le_of_not_lt hlt
      refine fin h tk vs ls k hk hl hvs ?_
      rw [← hfl, List.drop_eq_nil_of_le hdq, List.append_nil]
theorem newList_raw {Q : Value → Shared → Prop} (H : ∀ P h', h.StaysIn h' → h.get? P = none → h'.get? P = some (PySem.W.listOf ([] : List Value).toArray 0) → Q (.ref P) (st s h' tk)) : wpAny (model pg w) A (newList []) Q E (st s h tk) := by
  refine wpAny_newObj_type ?_
  refine H _ _ (fun b o e => Heap.get?_push_of_some _ e) ?_ (Heap.get?_push_size _ rfl)
  cases e : h.get? h.objs.size with
  | none => exact e
  | some o => exact absurd (Heap.lt_size e) (Nat.lt_irrefl _)
theorem look_fn_call : ∃ v, typeLookup (.type "function") (Str.ofString "__call__") = pure (some v) := ⟨.builtin "function.__call__", by rw [typeLookup_type, builtinLookup_eq_fast]; kernel_rfl⟩
theorem call_sub {y : List Nat} {t : Tok} {fa : Addr} {o : Obj} {Q : Value → Shared → Prop} (W : Wd w h) (hf : h.get? fa = some o) (hfc : o.cls = .type "function") (hy : ∀ c ∈ y, c ≠ 10) (hz : y.length ≤ 1000) (cb : UnCb w A.depth (.ref fa) y t h)
    (H : ∀ h' tk' t', h.StaysIn h' → Q (.str (S (readGo y)) t') (st s h' tk')) : wpAny (model pg w) A (call (.builtin "re.Pattern.sub") [.ref 50, .ref fa, .str (S y) t]) Q E (st s h tk) := by
  refine wpAny_call (codeAny_call_builtin slot_pat_sub.plain entry_pat_sub (slot_pat_sub.check _ _ _ _ _ _ _ _ ⟨_, W.K 50 _ rfl, rfl⟩ (args_pat_sub _ _ _) ?_))
  show wpAny _ _ (reSubstitute "re.Pattern.sub" "sub" false _) _ _ _
  unfold reSubstitute
  dsimp only
  refine wpAny_bind (wpAny_of_eq (a := [some (.ref fa), some (.str (S y) t), none]) (by rfl) ?_)
  dsimp only
  refine wpAny_bind (wpAny_pure ?_)
  obtain ⟨v, hv⟩ := look_fn_call
  refine wpAny_bind (wpAny_specialOf (T := "function") ⟨o, hf, hfc⟩ hv ?_)
  refine wpAny_bind (wpAny_pure ?_)
  refine wpAny_bind (wpAny_pure ?_)
  refine wpAny_bind (wpAny_holding (wholeTarget_U W ?_))
  refine wpAny_bind (wpAny_of_eq (a := ()) (by rfl) ?_)
  refine wpAny_bind (newList_raw fun P h1 k1 hP hl => ?_)
  refine wpAny_pure ⟨plainId_quiet plain_loop _, ?_⟩
  exact sub_loop (W := W) (h₀ := h) hy hz cb hP (fun h' tk' t' k => H h' tk' t' k) _ 0 h1 tk [] [] 0 0 rfl (by omega) k1 hl .nil (by simp) (by simp)
end
end Mine
end
section
open PySem PySem.W PySem.Calls PyProof.Rows PyProof
set_option Elab.async false
set_option maxRecDepth 100000
set_option maxHeartbeats 2000000
set_option autoImplicit false
namespace Mine
/-- a table of codes: empty, or with the one code of that place -/
def TOk (R : Addr → Prop) (l c : Nat) (ps : Array Value) : Prop := ps = #[] ∨ ∃ c', ps = #[rawInt l, rawInt c, .ref c'] ∧ R c'
abbrev qLam : Str := Str.ofString "unquote_header_value" ++ ".<locals>." ++ "<lambda>"
abbrev qGen : Str := Str.ofString "parse_list_header" ++ ".<locals>." ++ "<genexpr>"
/-- the two tables -/
structure Tb (h : Heap) : Prop where
  a : ∃ ps, h.get? 52 = some (tabObj ps) ∧ TOk (fun c' => h.CodeRec (.ref c') qLam) 28 31 ps
  b : ∃ ps, h.get? 59 = some (tabObj ps) ∧ TOk (fun c' => h.CodeRec (.ref c') qGen) 57 51 ps
/-- all but the tables is kept -/
def Kp (h h' : Heap) : Prop := ∀ b o, b ≠ 52 → b ≠ 59 → h.get? b = some o → h'.get? b = some o
/-- a code that stands in a table -/
def Cod (h : Heap) (P c : Addr) : Prop := ∃ ps, h.get? P = some (tabObj ps) ∧ Value.ref c ∈ ps.toList
/-- codes that came into the tables are new -/
def Nw (h h' : Heap) : Prop := ∀ P c, P = 52 ∨ P = 59 → Cod h' P c → Cod h P c ∨ h.objs.size ≤ c
theorem Kp.trans {a b c : Heap} (x : Kp a b) (y : Kp b c) : Kp a c := fun p o h1 h2 e => y p o h1 h2 (x p o h1 h2 e)
theorem Kp.of {a b : Heap} (x : a.StaysIn b) : Kp a b := fun p o _ _ e => x p o e
abbrev Gh (h : Heap) : Heap := hideAll h [52, 59]
theorem gh_get {h : Heap} {b : Addr} {o : Obj} (h1 : b ≠ 52) (h2 : b ≠ 59) (e : h.get? b = some o) : (Gh h).get? b = some o :=
  hideAll_get _ e (by simp [h1, h2])
theorem gh_kp {h h' : Heap} (k : (Gh h).StaysIn h') : Kp h h' := fun b o h1 h2 e => k b o (gh_get h1 h2 e)
theorem Tb.keeps {h h' : Heap} (x : Tb h) (k : h.StaysIn h') : Tb h' := by
  obtain ⟨⟨ps, e, t⟩, ⟨ps', e', t'⟩⟩ := x
  refine ⟨⟨ps, k _ _ e, t.imp id fun ⟨c, a, b⟩ => ⟨c, a, b.keeps k⟩⟩, ⟨ps', k _ _ e', t'.imp id fun ⟨c, a, b⟩ => ⟨c, a, b.keeps k⟩⟩⟩
theorem code_gh {h : Heap} {c : Value} {q : Str} (x : h.CodeRec c q) (hne : ∀ c', c = .ref c' → c' ≠ 52 ∧ c' ≠ 59) : (Gh h).CodeRec c q := by
  obtain ⟨c', o, vs, t, rfl, e1, r⟩ := x
  exact ⟨c', o, vs, t, rfl, gh_get (hne _ rfl).1 (hne _ rfl).2 e1, r⟩
theorem code_ne {h : Heap} {c : Addr} {q : Str} {P : Addr} {l k : Nat} {ps : Array Value} (e : h.get? P = some (tabObj ps)) (hps : ps = #[] ∨ ∃ c', ps = #[rawInt l, rawInt k, .ref c']) (x : h.CodeRec (.ref c) q) : c ≠ P := by
  obtain ⟨c', o, vs, t, q1, e1, d, v⟩ := x
  cases q1
  rintro rfl
  rw [e] at e1; cases e1
  cases d
  rcases hps with rfl | ⟨c', rfl⟩
  · cases v
  · cases v
section
variable {w : World} {A : Around} {E : Value → Shared → Prop} {s : Shared} {h g : Heap} {tk : Nat} {L : Addr} {m : Str → Option Value} {nw : List (Addr × Obj)}
theorem Wd.gh (W : Wd w (Gh h)) : Wd w h := W.keeps fun _ _ e => of_hideAll _ e
/-- the tables' facts in the ground behind the tables -/
abbrev TG (g : Heap) (ps1 ps2 : Array Value) : Prop := TOk (fun c' => g.CodeRec (.ref c') qLam) 28 31 ps1 ∧ TOk (fun c' => g.CodeRec (.ref c') qGen) 57 51 ps2
theorem Tb.tg (x : Tb h) : ∃ ps1 ps2, h.get? 52 = some (tabObj ps1) ∧ h.get? 59 = some (tabObj ps2) ∧ TG (Gh h) ps1 ps2 := by
  obtain ⟨⟨ps1, e1, t1⟩, ⟨ps2, e2, t2⟩⟩ := x
  have h1 : ps1 = #[] ∨ ∃ c', ps1 = #[rawInt (28 : Nat), rawInt (31 : Nat), .ref c'] := t1.imp id fun ⟨c, a, _⟩ => ⟨c, a⟩
  have h2 : ps2 = #[] ∨ ∃ c', ps2 = #[rawInt (57 : Nat), rawInt (51 : Nat), .ref c'] := t2.imp id fun ⟨c, a, _⟩ => ⟨c, a⟩
  refine ⟨ps1, ps2, e1, e2, t1.imp id fun ⟨c, a, b⟩ => ⟨c, a, ?_⟩, t2.imp id fun ⟨c, a, b⟩ => ⟨c, a, ?_⟩⟩
  · exact code_gh b fun c' q => by cases q; exact ⟨code_ne e1 h1 b, code_ne e2 h2 b⟩
  · exact code_gh b fun c' q => by cases q; exact ⟨code_ne e1 h1 b, code_ne e2 h2 b⟩
theorem call_imp1 {name qual : Str} {params : Arguments} {body : List Stmt} {scope : Scope} {dV kV doc pm cdv ct oc : Value} {an od : Option Addr} {osl : Array (Option Value)} {f : Addr} {p : Str} {v : Value} {Q : Value → Shared → Prop}
    (W : Wd w (Gh h)) (T : Tb h) (ho : (hd.heap_39 w.params).lookup f = some ⟨oc, od, .func (fnOf name qual params body scope dV kV doc pm an cdv ct), osl⟩)
    (hcd : codeIn (hd.heap_39 w.params) cdv qual = true) (hroom : A.depth < recursionLimit)
    (hbind : bindArgs (fnOf name qual params body scope dV kV doc pm an cdv ct) ⟨[v], []⟩ = pure [(p, v)]) (hloc : scope.names.lookup p = some .local)
    (H : ∀ L h₁ tk₁ ps1 ps2, Cx w (Gh h) L (upd upd0 p v) [(52, tabObj ps1), (59, tabObj ps2)] h₁ → TG (Gh h) ps1 ps2 → h.get? 52 = some (tabObj ps1) ∧ h.get? 59 = some (tabObj ps2) ∧ L = h.objs.size →
      wpAny (model pg w) (A.deeper (envOf qual scope L f cdv)) (execs body (envOf qual scope L f cdv))
        (RetP Q) (fun _ _ => False) (st s h₁ tk₁))
    (hcell : ∀ x ∈ scope.names, x.2 ≠ .cell := by decide) (hco : scope.isCoroutine = false := by rfl) (hgen : scope.isGenerator = false := by rfl) (hk : scope.kind = .function := by rfl) :
    wpAny (model pg w) A (call (.ref f) [v]) Q E (st s h tk) := by
  obtain ⟨ps1, ps2, e1, e2, tg⟩ := T.tg
  refine call_def (s := st s h tk) W.gh ho hcd hroom (BindsTo.of_eq hbind) (by intro y hy; rcases List.mem_singleton.mp hy with rfl; exact hloc) (fun h₁ F => ?_) hcell hco hgen hk
  rw [upd_one] at F
  refine H _ h₁ _ ps1 ps2 ⟨W, ⟨F.ns, fun b o e => F.keep b o (of_hideAll _ e), Nat.le_of_eq (hideAll_size _ _)⟩, fun q hq => ?_⟩ tg ⟨e1, e2, rfl⟩
  rcases List.mem_cons.mp hq with rfl | hq
  · exact ⟨F.keep _ _ e1, Nat.ne_of_lt (Heap.lt_size e1), hideAll_none _ (.head _)⟩
  · rcases List.mem_singleton.mp hq with rfl
    exact ⟨F.keep _ _ e2, Nat.ne_of_lt (Heap.lt_size e2), hideAll_none _ (.tail _ (.head _))⟩
/-- the tables in a ledger: one more object may stand behind them for each code -/
def TabL (g : Heap) (T : List (Addr × Obj)) : Prop := ∃ ps1 ps2 C, T = (52, tabObj ps1) :: (59, tabObj ps2) :: C ∧ (∀ q ∈ C, ∃ vs, q.2.data = .fields vs) ∧
  TOk (fun c' => g.CodeRec (.ref c') qLam ∨ ∃ oc vs t, (c', oc) ∈ C ∧ oc.data = .fields vs ∧ vs[1]? = some (.str qLam t)) 28 31 ps1 ∧
  TOk (fun c' => g.CodeRec (.ref c') qGen ∨ ∃ oc vs t, (c', oc) ∈ C ∧ oc.data = .fields vs ∧ vs[1]? = some (.str qGen t)) 57 51 ps2
theorem TabL.of {ps1 ps2 : Array Value} (t : TG g ps1 ps2) : TabL g [(52, tabObj ps1), (59, tabObj ps2)] :=
  ⟨ps1, ps2, [], rfl, (fun _ h => nomatch h), t.1.imp id fun ⟨c, a, b⟩ => ⟨c, a, .inl b⟩, t.2.imp id fun ⟨c, a, b⟩ => ⟨c, a, .inl b⟩⟩
theorem Cx.tb {pre T : List (Addr × Obj)} (X : Cx w g L m (pre ++ T) h) (t : TabL g T) : Tb h := by
  obtain ⟨ps1, ps2, C, rfl, hC, t1, t2⟩ := t
  have e1 := (X.N (52, tabObj ps1) (List.mem_append_right _ (.head _))).1
  have e2 := (X.N (59, tabObj ps2) (List.mem_append_right _ (.tail _ (.head _)))).1
  refine ⟨⟨ps1, e1, t1.imp id fun ⟨c, a, b⟩ => ⟨c, a, ?_⟩⟩, ⟨ps2, e2, t2.imp id fun ⟨c, a, b⟩ => ⟨c, a, ?_⟩⟩⟩
  · rcases b with b | ⟨oc, vs, t, hm, hd, hv⟩
    · exact b.keeps X.F.keep
    · exact ⟨c, oc, vs, t, rfl, (X.N _ (List.mem_append_right _ (.tail _ (.tail _ hm)))).1, hd, hv⟩
  · rcases b with b | ⟨oc, vs, t, hm, hd, hv⟩
    · exact b.keeps X.F.keep
    · exact ⟨c, oc, vs, t, rfl, (X.N _ (List.mem_append_right _ (.tail _ (.tail _ hm)))).1, hd, hv⟩
theorem Cx.wgh {pre T : List (Addr × Obj)} (X : Cx w g L m (pre ++ T) h) (t : TabL g T) : Wd w (Gh h) := by
  obtain ⟨ps1, ps2, C, rfl, hC, t1, t2⟩ := t
  have e1 := (X.N (52, tabObj ps1) (List.mem_append_right _ (.head _))).2.2
  have e2 := (X.N (59, tabObj ps2) (List.mem_append_right _ (.tail _ (.head _)))).2.2
  exact X.W.keeps fun b o e => gh_get (by rintro rfl; rw [e1] at e; cases e) (by rintro rfl; rw [e2] at e; cases e) (X.F.keep b o e)
/-- behind an impure call -/
theorem Cx.back {pre T : List (Addr × Obj)} {h' : Heap} (X : Cx w g L m (pre ++ T) h) (t : TabL g T) (hp' : ∀ q ∈ pre, ¬ ∃ vs, q.2.data = .fields vs) (k : Kp h h') (T' : Tb h') :
    ∃ T', TabL g T' ∧ Cx w g L m (pre ++ T') h' := by
  obtain ⟨ps1, ps2, C, rfl, hC, t1, t2⟩ := t
  have n1 := (X.N (52, tabObj ps1) (List.mem_append_right _ (.head _)))
  have n2 := (X.N (59, tabObj ps2) (List.mem_append_right _ (.tail _ (.head _))))
  obtain ⟨⟨qs1, e1, u1⟩, ⟨qs2, e2, u2⟩⟩ := T'
  have hns : h'.Ns L m := by
    obtain ⟨o, es, ep, e, r⟩ := X.F.ns
    exact ⟨o, es, ep, k _ _ n1.2.1.symm n2.2.1.symm e, r⟩
  have hkeep : ∀ b o, g.get? b = some o → h'.get? b = some o := fun b o e => k b o (by rintro rfl; rw [n1.2.2] at e; cases e) (by rintro rfl; rw [n2.2.2] at e; cases e) (X.F.keep b o e)
  have one : ∀ c q, h'.CodeRec (.ref c) q → g.CodeRec (.ref c) q ∨ ∃ oc vs t, g.get? c = none ∧ h'.get? c = some oc ∧ oc.data = .fields vs ∧ vs[1]? = some (.str q t) := by
    intro c q ⟨c', oc, vs, t, e0, e1, e2, e3⟩
    cases e0
    cases e : g.get? c with
    | some o =>
      have := hkeep _ _ e
      rw [e1] at this; cases this
      exact .inl ⟨c, oc, vs, t, rfl, e, e2, e3⟩
    | none => exact .inr ⟨oc, vs, t, rfl, e1, e2, e3⟩
  have pick : ∀ (q : Str) (l k : Nat) (ps : Array Value), TOk (fun c' => h'.CodeRec (.ref c') q) l k ps → ∃ C : List (Addr × Obj), (∀ p ∈ C, (∃ vs, p.2.data = .fields vs) ∧ g.get? p.1 = none ∧ h'.get? p.1 = some p.2) ∧
      TOk (fun c' => g.CodeRec (.ref c') q ∨ ∃ oc vs t, (c', oc) ∈ C ∧ oc.data = .fields vs ∧ vs[1]? = some (.str q t)) l k ps := by
    intro q l k ps hps
    rcases hps with rfl | ⟨c, rfl, r⟩
    · exact ⟨[], fun _ h => (nomatch h), .inl rfl⟩
    · rcases one c q r with r | ⟨oc, vs, t, r1, r2, r3, r4⟩
      · exact ⟨[], fun _ h => (nomatch h), .inr ⟨c, rfl, .inl r⟩⟩
      · refine ⟨[(c, oc)], fun p hp => ?_, .inr ⟨c, rfl, .inr ⟨oc, vs, t, .head _, r3, r4⟩⟩⟩
        rcases List.mem_singleton.mp hp with rfl
        exact ⟨⟨vs, r3⟩, r1, r2⟩
  obtain ⟨C1, c1, v1⟩ := pick _ _ _ _ u1
  obtain ⟨C2, c2, v2⟩ := pick _ _ _ _ u2
  have hC' : ∀ p ∈ C1 ++ C2, (∃ vs, p.2.data = .fields vs) ∧ g.get? p.1 = none ∧ h'.get? p.1 = some p.2 := fun p hp => (List.mem_append.mp hp).elim (c1 p) (c2 p)
  refine ⟨_, ⟨qs1, qs2, C1 ++ C2, rfl, fun p hp => (hC' p hp).1, v1.imp id fun ⟨c, a, b⟩ => ⟨c, a, b.imp id fun ⟨oc, vs, t, hm, r⟩ => ⟨oc, vs, t, List.mem_append_left _ hm, r⟩⟩,
    v2.imp id fun ⟨c, a, b⟩ => ⟨c, a, b.imp id fun ⟨oc, vs, t, hm, r⟩ => ⟨oc, vs, t, List.mem_append_right _ hm, r⟩⟩⟩, X.W, ⟨hns, hkeep, X.F.above⟩, fun p hp => ?_⟩
  have pn : ∀ p ∈ pre, h'.get? p.1 = some p.2 ∧ p.1 ≠ L ∧ g.get? p.1 = none := by
    intro p hp
    have n := X.N p (List.mem_append_left _ hp)
    have ne : ∀ P ps, h.get? P = some (tabObj ps) → p.1 ≠ P := fun P ps e q => hp' p hp (by rw [← q, n.1] at e; exact ⟨ps, by rw [Option.some.inj e]⟩)
    exact ⟨k _ _ (ne _ _ n1.1) (ne _ _ n2.1) n.1, n.2⟩
  have hl : ∀ P o vs, h'.get? P = some o → o.data = .fields vs → P ≠ L := by
    rintro P o vs e hd rfl
    obtain ⟨o', es, ep, e', hd', _⟩ := hns
    rw [e] at e'; cases e'; rw [hd] at hd'; cases hd'
  rcases List.mem_append.mp hp with hp | hp
  · exact pn p hp
  · rcases List.mem_cons.mp hp with rfl | hp
    · exact ⟨e1, n1.2⟩
    · rcases List.mem_cons.mp hp with rfl | hp
      · exact ⟨e2, n2.2⟩
      · obtain ⟨⟨vs, a⟩, b, c⟩ := hC' p hp
        exact ⟨c, hl _ _ _ c a, b⟩

/-- a lambda without defaults: its code lies in table 52 -/
theorem r_lambda {sc : Scope} {n : Str} {f : Addr} {params : Arguments} {body : Expr} {scope : Scope} {pos : Pos} {ps1 ps2 : Array Value} {Q : Value → Shared → Prop}
    (X : Cx w g L m [(52, tabObj ps1), (59, tabObj ps2)] h) (t : TG g ps1 ps2) (hdef : defaultsOf params (envOf n sc L f (.ref 56)) = ([], [])) (hcl : closureFor scope (envOf n sc L f (.ref 56)) = pure [])
    (hq : n ++ ".<locals>." ++ "<lambda>" = qLam) (hpos : pos.line = 28 ∧ pos.col = 31)
    (H : ∀ fa c' pm ctv h' tk' C ps1', Cx w g L m ((fa, kla_obj "<lambda>" qLam params body scope [] pm c' ctv) :: C ++ [(52, tabObj ps1'), (59, tabObj ps2)]) h' →
      (∀ h'', g.StaysIn h'' → (∀ p ∈ C, h''.get? p.1 = some p.2) → h''.CodeRec (.ref c') qLam ∧ TOk (fun c' => h''.CodeRec (.ref c') qLam) 28 31 ps1') → (∀ c, Value.ref c ∈ ps1'.toList → Value.ref c ∈ ps1.toList ∨ L ≤ c) → Q (.ref fa) (st s h' tk')) :
    wpAny (model pg w) A (eval (.Lambda params body scope pos) (envOf n sc L f (.ref 56))) Q E (st s h tk) := by
  obtain ⟨loose, mean, mg, mb, T⟩ := X.W.T
  refine kla_eval hdef ?_
  show wpAny _ _ (makeFunction "<lambda>" (n ++ ".<locals>." ++ "<lambda>") params (.expr body) scope (envX n sc L f (.ref 56) []) [] [] [] pos pos.line) _ _ _
  rw [hq]
  have hl : rawInt pos.line = rawInt (28 : Nat) := by rw [hpos.1]
  have hc : rawInt pos.col = rawInt (31 : Nat) := by rw [hpos.2]
  rcases t.1 with rfl | ⟨c', rfl, hr⟩
  · have n1 := X.N (52, tabObj #[]) (.head _)
    have n2 := X.N (59, tabObj ps2) (.tail _ (.head _))
    have hgs := T.g.keeps X.F.keep
    obtain ⟨bm, ob, b1, b2, b3, b4, b5, b6⟩ := T.bmain
    have hgP : mainGlobals ≠ 52 := by decide
    have hbP : bm ≠ 52 := fun q => by
      have e := X.F.keep _ _ b3
      rw [q, n1.1] at e; cases e; cases b4
    have hbG : bm ≠ mainGlobals := fun q => by
      obtain ⟨o, es, ep, e, hd, _⟩ := T.g
      rw [q, e] at b3; cases b3; rw [hd] at b6; cases b6
    refine kla_makeFunction (s := st s h tk) (mg := mg) (ps := #[]) hcl rfl hgs rfl (X.W.C1.keeps X.F.keep) n1.1 trivial rfl hgP ⟨bm, ob, b1, b2, hbG, hbP, X.F.keep _ _ b3, b4, b5, b6⟩ fun c' ctv h' tk' hx hge hlt hrec htb => ?_
    obtain ⟨c₂, oc, vs, t, e2, hoc, hd, hv⟩ := hrec
    cases e2
    have hLs : L < h.objs.size := X.F.ns.lt
    have hLc : L < c' := Nat.lt_of_lt_of_le hLs hge
    have fresh : ∀ b, L < b → g.get? b = none := fun b hb => Heap.get?_none_of_le (Nat.le_trans X.F.above (Nat.le_of_lt hb))
    have old : ∀ b o, g.get? b = some o → h'.get? b = some o := fun b o e => hx b o (fun q => by rw [q, n1.2.2] at e; cases e) (X.F.keep b o e)
    have up : ∀ (ob : Obj) b o, h'.get? b = some o → (h'.push ob).get? b = some o := fun _ b o e => Heap.get?_push_of_some _ e
    refine H h'.objs.size c' ((mg "__name__").getD .none) ctv _ tk' [(c', oc)] #[rawInt (28 : Nat), rawInt (31 : Nat), .ref c'] ⟨X.W, ⟨(X.F.ns.extBut hx n1.2.1.symm).push _, fun b o e => up _ _ _ (old b o e), X.F.above⟩, ?_⟩ (fun h'' k1 k2 => ?_) (fun c hc => ?_)
    · intro p hp
      rcases List.mem_cons.mp hp with rfl | hp
      · exact ⟨Heap.get?_push_size _ rfl, Nat.ne_of_gt (Nat.lt_trans hLc hlt), fresh _ (Nat.lt_trans hLc hlt)⟩
      · rcases List.mem_cons.mp hp with rfl | hp
        · exact ⟨up _ _ _ hoc, Nat.ne_of_gt hLc, fresh _ hLc⟩
        · rcases List.mem_cons.mp hp with rfl | hp
          · rw [hl, hc] at htb; exact ⟨up _ _ _ htb, n1.2⟩
          · rcases List.mem_singleton.mp hp with rfl
            exact ⟨up _ _ _ (hx _ _ (by decide : (59 : Nat) ≠ 52) n2.1), n2.2⟩
    · have := k2 _ (.head _)
      exact ⟨⟨c', oc, vs, t, rfl, this, hd, hv⟩, .inr ⟨c', rfl, c', oc, vs, t, rfl, this, hd, hv⟩⟩
    · have : c = c' := by simpa [rawInt] using hc
      rw [this]; exact .inr (Nat.le_of_lt hLc)
  · refine kla_hit (s := st s h tk) X.F X.N T X.W.C1 rfl (.head _) trivial (c' := c') ?among hcl fun fa ctv h' tk' F' N' l1 => ?_
    case among => show (if _ then _ else _) = _; rw [hpos.1, hpos.2]; rfl
    refine H fa c' ((mg "__name__").getD .none) ctv h' tk' [] #[rawInt (28 : Nat), rawInt (31 : Nat), .ref c'] ⟨X.W, F', N'⟩ (fun h'' k1 k2 => ?_) (fun c hc => .inl hc)
    exact ⟨hr.keeps k1, .inr ⟨c', rfl, hr.keeps k1⟩⟩
theorem call_lam {qual : Str} {params : Arguments} {body : Expr} {scope : Scope} {pm ctv v : Value} {f c' : Addr} {p : Str} {Q : Value → Shared → Prop}
    (W : Wd w h) (ho : h.get? f = some (kla_obj "<lambda>" qual params body scope [] pm c' ctv)) (hcd : h.CodeRec (.ref c') qual) (hroom : A.depth < recursionLimit)
    (hbind : bindArgs (kla_fn "<lambda>" qual params body scope [] pm (.ref c') ctv) ⟨[v], []⟩ = pure [(p, v)]) (hloc : scope.names.lookup p = some .local)
    (H : ∀ L h₁ tk₁, Cx w h L (upd upd0 p v) [] h₁ → wpAny (model pg w) (A.deeper (envOf qual scope L f (.ref c'))) (eval body (envOf qual scope L f (.ref c'))) Q (fun _ _ => False) (st s h₁ tk₁))
    (hcell : ∀ x ∈ scope.names, x.2 ≠ .cell := by decide) (hco : scope.isCoroutine = false := by rfl) (hgen : scope.isGenerator = false := by rfl) (hk : scope.kind = .function := by rfl) :
    wpAny (model pg w) A (call (.ref f) [v]) Q E (st s h tk) := by
  obtain ⟨_, _, _, _, T⟩ := W.T
  refine wpAny_call (kla_callFunE hroom ho rfl hco hgen rfl hcd ?_)
  rw [hbind]
  refine wpAny_pure (wpAny_newFunctionEnv hcell (by intro y hy; rcases List.mem_singleton.mp hy with rfl; exact hloc) (fun h₁ hns hsb => ⟨(T.nolimit).fresh _ hsb, ?_⟩) hk)
  show codeAny _ _ (.expr body (envOf qual scope h.objs.size f (.ref c'))) _ _
  have hk₁ : ∀ b o, h.get? b = some o → h₁.get? b = some o := fun b o e => hsb.extBut b o (Nat.ne_of_lt (Heap.lt_size e)) (Heap.get?_push_of_some _ e)
  rw [upd_one] at hns
  exact kla_codeExpr (wpAny_mono (H _ h₁ _ ⟨W, ⟨hns, hk₁, Nat.le_refl _⟩, .nil⟩) (fun v s' q => q) fun _ _ x => x.elim)
theorem r_or2 {x y : Expr} {pos : Pos} {env : Env} {Q : Value → Shared → Prop}
    (H : wpAny (model pg w) A (eval x env) (fun v s₁ => wpAny (model pg w) A (truthy v) (fun b s₂ => (b = true → Q v s₂) ∧ (b = false → wpAny (model pg w) A (eval y env) Q E s₂)) E s₁) E s) :
    wpAny (model pg w) A (eval (.BoolOp .Or [x, y] pos) env) Q E s := by
  rw [arm_eval_BoolOp]
  show wpAny _ _ (eval x env >>= fun v => do standAt pos; let t ← holding [v] (truthy v); match BoolOp.Or, t with
    | .And, false | .Or, true => pure v
    | _, _ => eval y env) _ _ _
  refine wpAny_bind (wpAny_mono H (fun v s₁ q => ?_) fun _ _ e => e)
  refine wpAny_bind (wpAny_standAt (wpAny_bind (wpAny_holding (wpAny_mono q (fun b s₂ q2 => ?_) fun _ _ e => e))))
  cases b
  · exact q2.2 rfl
  · exact wpAny_pure (q2.1 rfl)
theorem Nw.of {h' : Heap} {ps1 ps2 ps1' ps2' : Array Value} (e1 : h.get? 52 = some (tabObj ps1)) (e2 : h.get? 59 = some (tabObj ps2)) (f1 : h'.get? 52 = some (tabObj ps1')) (f2 : h'.get? 59 = some (tabObj ps2'))
    (n1 : ∀ c, Value.ref c ∈ ps1'.toList → Value.ref c ∈ ps1.toList ∨ h.objs.size ≤ c) (n2 : ∀ c, Value.ref c ∈ ps2'.toList → Value.ref c ∈ ps2.toList ∨ h.objs.size ≤ c) : Nw h h' := by
  rintro P c hP ⟨ps, e, hc⟩
  rcases hP with rfl | rfl
  · rw [f1] at e; cases e
    exact (n1 c hc).imp (fun q => ⟨ps1, e1, q⟩) id
  · rw [f2] at e; cases e
    exact (n2 c hc).imp (fun q => ⟨ps2, e2, q⟩) id
theorem Nw.same {h' : Heap} (T : Tb h) (k : h.StaysIn h') : Nw h h' := by
  obtain ⟨ps1, ps2, e1, e2, _⟩ := T.tg
  exact .of e1 e2 (k _ _ e1) (k _ _ e2) (fun _ q => .inl q) fun _ q => .inl q
theorem Cod.back {h' : Heap} {P c : Addr} (T : Tb h) (k : ∀ b o, b = 52 ∨ b = 59 → h.get? b = some o → h'.get? b = some o) (hP : P = 52 ∨ P = 59) (x : Cod h' P c) : Cod h P c := by
  obtain ⟨ps1, ps2, e1, e2, _⟩ := T.tg
  obtain ⟨ps, e, hc⟩ := x
  rcases hP with rfl | rfl
  · rw [k _ _ (.inl rfl) e1] at e; cases e; exact ⟨_, e1, hc⟩
  · rw [k _ _ (.inr rfl) e2] at e; cases e; exact ⟨_, e2, hc⟩
theorem Cod.lt {P c : Addr} (T : Tb h) (hP : P = 52 ∨ P = 59) (x : Cod h P c) : c < h.objs.size := by
  obtain ⟨⟨ps1, e1, t1⟩, ⟨ps2, e2, t2⟩⟩ := T
  obtain ⟨ps, e, hc⟩ := x
  have one : ∀ (q : Str) (l k : Nat) ps, TOk (fun c' => h.CodeRec (.ref c') q) l k ps → Value.ref c ∈ ps.toList → c < h.objs.size := by
    rintro q l k ps (rfl | ⟨c', rfl, r⟩) hm
    · simp at hm
    · have : c = c' := by simpa [rawInt] using hm
      obtain ⟨c2, o, vs, t, e3, e4, _⟩ := r
      cases e3
      rw [this]; exact Heap.lt_size e4
  rcases hP with rfl | rfl
  · rw [e1] at e; cases e; exact one _ _ _ _ t1 hc
  · rw [e2] at e; cases e; exact one _ _ _ _ t2 hc
end
end Mine
end
section
open PySem PySem.W PySem.Calls PyProof.Rows PyProof
set_option Elab.async false
set_option maxRecDepth 100000
set_option maxHeartbeats 2000000
set_option autoImplicit false
namespace Mine
open Builtin.Str
theorem subAt_S (x : List Nat) (c i : Nat) : subAt (S x) (S [c]) i = decide (i < x.length ∧ x.getD i 0 = c) := by
  rw [Bool.eq_iff_iff, StrLaws.subAt_eq, decide_eq_true_eq]
  show ((x.drop i).take 1 == [c]) = true ↔ _
  rw [StrLaws.take1_drop]
  constructor
  · intro h
    obtain ⟨hl, h⟩ := List.getElem?_eq_some_iff.mp h
    exact ⟨hl, by simp [hl, h]⟩
  · rintro ⟨hl, h⟩
    simp [hl] at h ⊢; exact h
theorem starts_S (x : List Nat) (c : Nat) : Txt.startswith (S x) (S [c]) = decide (1 ≤ x.length ∧ x.getD 0 0 = c) := by
  unfold Txt.startswith
  rw [subAt_S, S_length, S_length]
  by_cases h : 1 ≤ x.length
  · have : 0 < x.length := h
    simp [h, this]
  · simp [h]
theorem ends_S (x : List Nat) (c : Nat) : Txt.endswith (S x) (S [c]) = decide (1 ≤ x.length ∧ x.getD (x.length - 1) 0 = c) := by
  unfold Txt.endswith
  rw [subAt_S, S_length, S_length]
  by_cases h : 1 ≤ x.length
  · have : x.length - 1 < x.length := by omega
    simp [h, this]
  · simp [h]
section
variable {w : World} {A : Around} {E : Value → Shared → Prop} {s : Shared} {h g : Heap} {tk : Nat} {L a : Addr} {m : Str → Option Value} {nw : List (Addr × Obj)} {env : Env} {l : List Nat} {t u : Tok}
theorem r_neg {i : Int} {k pos pos'} {Q : Value → Shared → Prop} (H : ∀ t tk', Q (.int (-i) t) (st s h tk')) : wpAny (model pg w) A (eval (.UnaryOp .USub (.Constant (.int i) k pos) pos') env) Q E (st s h tk) :=
  UnaryOp_ (wpAny_Constant_int (neg_int (H _ _)))
theorem gm_starts {pl} {Q : Value × List Value → Shared → Prop} (H : Q (.builtin "str.startswith", [.str (S l) t]) s) : wpAny (model pg w) A (getMethod (.str (S l) t) (Str.ofString "startswith") pl) Q E s := GM.startswith H
theorem gm_ends {pl} {Q : Value × List Value → Shared → Prop} (H : Q (.builtin "str.endswith", [.str (S l) t]) s) : wpAny (model pg w) A (getMethod (.str (S l) t) (Str.ofString "endswith") pl) Q E s := GM.endswith H
theorem m_starts {c : String} {k : Nat} {Q : Value → Shared → Prop} (hc : lit c = [k]) (H : Q (.bool (decide (1 ≤ l.length ∧ l.getD 0 0 = k))) s) : wpAny (model pg w) A (call (.builtin "str.startswith") [.str (S l) t, .str (S (lit c)) u]) Q E s :=
  SC.startswith (by rw [hc, starts_S]; exact H)
theorem m_ends {c : String} {k : Nat} {Q : Value → Shared → Prop} (hc : lit c = [k]) (H : Q (.bool (decide (1 ≤ l.length ∧ l.getD (l.length - 1) 0 = k))) s) : wpAny (model pg w) A (call (.builtin "str.endswith") [.str (S l) t, .str (S (lit c)) u]) Q E s :=
  SC.endswith (by rw [hc, ends_S]; exact H)
theorem gm_sub {pl} {Q : Value × List Value → Shared → Prop} (W : Wd w h) (H : Q (.builtin "re.Pattern.sub", [.ref 50]) (st s h tk)) : wpAny (model pg w) A (getMethod (.ref 50) (Str.ofString "sub") pl) Q E (st s h tk) :=
  getMethod_builtin (s := st s h tk) (T := "re.Pattern") ⟨_, W.K 50 _ rfl, rfl⟩ plainAttrs_pat slot_pat_sub type_pat_sub (fun a e => by cases e; exact ⟨_, W.K 50 _ rfl, rfl⟩) H
theorem b_iaddS {a b : List Nat} {Q : Value → Shared → Prop} (H : ∀ t' tk', Q (.str (S (a ++ b)) t') (st s h tk')) (hz : a.length + b.length ≤ 1000000) : wpAny (model pg w) A (inplaceOp .Add (.str (S a) t) (.str (S b) u)) Q E (st s h tk) :=
  PyProof.Rows.iadd_str (fun t' tk' => by rw [S_append]; exact H t' tk') (by rw [S_length, S_length, sizeLine_eq]; omega)
theorem b_iaddI {i j : Int} {Q : Value → Shared → Prop} (H : ∀ t' tk', Q (.int (i + j) t') (st s h tk')) : wpAny (model pg w) A (inplaceOp .Add (.int i t) (.int j u)) Q E (st s h tk) := PyProof.Rows.iadd_int (H _ _)
open PySem.Builtin PySem.Builtin.Re
theorem gm_group {y : List Nat} {k : Nat} {pl} {Q : Value × List Value → Shared → Prop} (M : MatU h y t k a) (H : Q (.builtin "re.Match.group", [.ref a]) (st s h tk)) : wpAny (model pg w) A (getMethod (.ref a) (Str.ofString "group") pl) Q E (st s h tk) := by
  obtain ⟨b, e, _⟩ := M
  exact getMethod_builtin (s := st s h tk) (T := "re.Match") ⟨_, e, rfl⟩ plainAttrs_mat slot_mat_group type_mat_group (fun a q => by cases q; exact ⟨_, e, rfl⟩) H
theorem found_U {y : List Nat} {k : Nat} {Q : ReFound → Shared → Prop} (M : MatU h y t k a) (H : ∀ b, Q ⟨#[.str (S y) t, .ref 50, rawInt 0, rawInt y.length, rawInt 1, .ref b], #[(k : Int), (k : Int) + 2, (k : Int) + 1, (k : Int) + 2]⟩ (st s h tk)) :
    wpAny (model pg w) A (reFound (.ref a)) Q E (st s h tk) := by
  obtain ⟨b, e1, e2⟩ := M
  refine wpAny_bind (wpAny_fieldsOf (s := st s h tk) e1 rfl (wpAny_bind (wpAny_bind (wpAny_seqItems (s := st s h tk) e2 rfl (wpAny_pure (wpAny_pure ?_))))))
  have e : Array.map reRawOf ((some #[rawInt ↑k, rawInt (↑k + 2), rawInt (↑k + 1), rawInt (↑k + 2)]).getD #[]) = #[(k : Int), (k : Int) + 2, (k : Int) + 1, (k : Int) + 2] := by simp [reRawOf, rawInt]
  rw [e]; exact H b
theorem m_group {y : List Nat} {k : Nat} {Q : Value → Shared → Prop} (M : MatU h y t k a) (hk : k + 1 < y.length) (hz : y.length ≤ 1000) (H : ∀ t' tk', Q (.str (S [y.getD (k + 1) 0]) t') (st s h tk')) :
    wpAny (model pg w) A (call (.builtin "re.Match.group") [.ref a, .int 1 u]) Q E (st s h tk) := by
  have M' := M
  obtain ⟨b, e1, e2⟩ := M
  refine wpAny_call_entry slot_mat_group ⟨_, e1, rfl⟩ entry_mat_group ?_ (args_mat_group _ _)
  unfold Builtin.«re.Match.group»
  refine wpAny_bind (wpAny_of_eq (a := ()) (by rfl) ?_)
  dsimp only
  refine wpAny_bind (found_U M' fun b => ?_)
  refine wpAny_bind (wpAny_of_eq (a := 1) (by rfl) ?_)
  refine wpAny_bind ?_
  show wpAny _ _ (if (decide (((k : Int) + 1) < 0) || decide (((k : Int) + 2) < 0)) = true then pure Value.none else (do let (text, kind) ← reTextOf (.str (S y) t); reSlice text kind ((k : Int) + 1).toNat ((k : Int) + 2).toNat)) _ _ _
  rw [if_neg (by simp; omega)]
  show wpAny _ _ (reSlice y.toArray 0 (k + 1) (k + 2)) _ _ _
  refine slice_U (by omega) fun t' tk' => ?_
  have e : (y.take (k + 2)).drop (k + 1) = [y.getD (k + 1) 0] := by
    rw [seg_succ (i := k + 1) hk (Nat.le_refl _), seg_self]; rfl
  rw [e]
  exact wpAny_pure ⟨_, rfl, H t' tk'⟩
end
end Mine
end
section
open PySem PySem.W PySem.Calls PyProof.Rows PyProof
set_option Elab.async false
set_option maxRecDepth 100000
set_option maxHeartbeats 2000000
set_option autoImplicit false
namespace Mine
def Apart (nw ow : List (Addr × Obj)) : Prop := ∀ p ∈ nw, ∀ q ∈ ow, p.1 ≠ q.1
def Here (h : Heap) (ow : List (Addr × Obj)) : Prop := ∀ p ∈ ow, h.get? p.1 = some p.2
/-- an iterator: its place, its own objects, what it gives -/
structure Itr (A : Around) (w : World) (I : Addr) (N : Nat) (P : Nat → Value → Prop) (SI : Nat → List (Addr × Obj) → Prop) : Prop where
  item : ∀ i ow (s' : Shared) (Q : Option Value → Shared → Prop) (E : Value → Shared → Prop), i < N → SI i ow → Here s'.heap ow →
    (∀ v h' tk' ow', P i v → SI (i + 1) ow' → ow'.map (·.1) = ow.map (·.1) → Here h' ow' → (∀ b o, b ∉ ow.map (·.1) → s'.heap.get? b = some o → h'.get? b = some o) → Q (some v) { s' with heap := h', toks := tk' }) →
    wpAny (model pg w) A (pyNext (.ref I)) Q E s'
  done : ∀ ow (s' : Shared) (Q : Option Value → Shared → Prop) (E : Value → Shared → Prop), SI N ow → Here s'.heap ow →
    (∀ h' tk', (∀ b o, b ∉ ow.map (·.1) → s'.heap.get? b = some o → h'.get? b = some o) → Q none { s' with heap := h', toks := tk' }) →
    wpAny (model pg w) A (pyNext (.ref I)) Q E s'
section
variable {w : World} {A : Around} {E : Value → Shared → Prop} {s : Shared} {h g : Heap} {tk : Nat} {L : Addr} {m : Str → Option Value} {nw : List (Addr × Obj)} {n : Str} {sc : Scope} {f : Addr} {cd : Value}
/-- an end of a turn -/
def ForT (w : World) (g : Heap) (L : Addr) (B : Shared → Prop) (ow : List (Addr × Obj)) (J : (Str → Option Value) → List (Addr × Obj) → Prop) (s₃ : Shared) : Prop :=
  ∃ s' h' tk' m' nw', s₃ = st s' h' tk' ∧ B s' ∧ Cx w g L m' (nw' ++ ow) h' ∧ Apart nw' ow ∧ J m' nw'
def ForEnd (w : World) (g : Heap) (L : Addr) (B : Shared → Prop) (ow : List (Addr × Obj)) (J : (Str → Option Value) → List (Addr × Obj) → Prop) (Q : Flow → Shared → Prop) (f : Flow) (s₃ : Shared) : Prop := match f with
  | .next | .cont => ForT w g L B ow J s₃
  | .brk => Q .next s₃
  | .ret v => Q (.ret v) s₃
theorem fr_next {ow : List (Addr × Obj)} {h' : Heap} (F : Fr g L h m) (N : News g L h (nw ++ ow)) (ha : Apart nw ow) (k : ∀ b o, b ∉ ow.map (·.1) → h.get? b = some o → h'.get? b = some o) : Fr g L h' m ∧ News g L h' nw := by
  have old : ∀ b o, g.get? b = some o → b ∉ ow.map (·.1) := fun b o e hb => by
    obtain ⟨p, hp, rfl⟩ := List.mem_map.mp hb
    rw [(N p (List.mem_append_right _ hp)).2.2] at e; cases e
  have hL : L ∉ ow.map (·.1) := fun hb => by
    obtain ⟨p, hp, e⟩ := List.mem_map.mp hb
    exact (N p (List.mem_append_right _ hp)).2.1 e
  refine ⟨⟨F.ns.at' fun o e => k _ o hL e, fun b o e => k b o (old b o e) (F.keep b o e), F.above⟩, fun p hp => ?_⟩
  have n := N p (List.mem_append_left _ hp)
  refine ⟨k _ _ (fun hb => ?_) n.1, n.2⟩
  obtain ⟨q, hq, e⟩ := List.mem_map.mp hb
  exact ha p hp q hq e.symm
theorem news_addr {ow ow' : List (Addr × Obj)} {h' : Heap} (N : News g L h ow) (e : ow'.map (·.1) = ow.map (·.1)) (hh : Here h' ow') : News g L h' ow' := fun p hp => by
  have : p.1 ∈ ow.map (·.1) := by rw [← e]; exact List.mem_map_of_mem hp
  obtain ⟨q, hq, e2⟩ := List.mem_map.mp this
  have := (N q hq).2
  rw [e2] at this
  exact ⟨hh p hp, this⟩
theorem apart_addr {ow ow' : List (Addr × Obj)} (ha : Apart nw ow) (e : ow'.map (·.1) = ow.map (·.1)) : Apart nw ow' := fun p hp q hq => by
  have : q.1 ∈ ow.map (·.1) := by rw [← e]; exact List.mem_map_of_mem hq
  obtain ⟨q', hq', e2⟩ := List.mem_map.mp this
  rw [← e2]; exact ha p hp q' hq'
def ForAt (w : World) (A : Around) (g : Heap) (L : Addr) (x : Str) (body : List Stmt) (env : Env) (Q : Flow → Shared → Prop) (it : Value) (s₂ : Shared) : Prop :=
  ∃ I N P SI h₂ tk₂ m nw ow s' B, ∃ J : Nat → (Str → Option Value) → List (Addr × Obj) → Prop, it = .ref I ∧ s₂ = st s' h₂ tk₂ ∧ B s' ∧ Cx w g L m (nw ++ ow) h₂ ∧ Itr A w I N P SI ∧ SI 0 ow ∧ Apart nw ow ∧ J 0 m nw ∧
    (∀ i v ow m nw s' h tk, i < N → P i v → SI (i + 1) ow → B s' → J i m nw → Apart nw ow → Cx w g L (upd m x v) (nw ++ ow) h →
      wpAny (model pg w) A (execs body env) (ForEnd w g L B ow (J (i + 1)) Q) (fun _ _ => False) (st s' h tk)) ∧
    (∀ m nw s' h tk, B s' → J N m nw → Cx w g L m nw h → Q .next (st s' h tk))
theorem for_code {x : Str} {px : Pos} {body : List Stmt} {Q : Flow → Shared → Prop} {it : Value} {s₂ : Shared} (hx : (envOf n sc L f cd).kindOf x = some .local) (hk : sc.kind = .function)
    (h : ForAt w A g L x body (envOf n sc L f cd) Q it s₂) :
    codeAny (model pg w) A (.forLoop (.Name x px) it body [] (envOf n sc L f cd)) (fun r s' => match r with | .ok f => Q f s' | .error e => cameBackBy (model pg w) A (envOf n sc L f cd) E e s') s₂ := by
  obtain ⟨I, N, P, SI, h₂, tk₂, m, nw, ow, s', B, J, rfl, rfl, hB, X, IT, hSI, hap, hJ, turn, fin⟩ := h
  refine codeAny_forLoop (fun k s₃ => ∃ i s' h tk m nw ow, k = N - i ∧ i ≤ N ∧ s₃ = st s' h tk ∧ B s' ∧ Cx w g L m (nw ++ ow) h ∧ SI i ow ∧ Apart nw ow ∧ J i m nw) ?_ N ⟨0, s', h₂, tk₂, m, nw, ow, rfl, Nat.zero_le _, rfl, hB, X, hSI, hap, hJ⟩
  rintro k _ ⟨i, s', h, tk, m, nw, ow, rfl, hi, rfl, hB, X, hSI, hap, hJ⟩
  have hh : Here (st s' h tk).heap ow := fun p hp => (X.N p (List.mem_append_right _ hp)).1
  by_cases hlt : i < N
  · refine IT.item i ow _ _ _ hlt hSI hh fun v h₁ tk₁ ow' hP hSI' ha hh' k => ?_
    obtain ⟨F₁, N₁⟩ := fr_next X.F X.N hap k
    have N₂ := news_addr (fun p hp => X.N p (List.mem_append_right _ hp)) ha hh'
    have X₁ : Cx w g L m (nw ++ ow') h₁ := ⟨X.W, F₁, fun p hp => (List.mem_append.mp hp).elim (N₁ p) (N₂ p)⟩
    refine wpAny_assign_Name ?_
    refine r_store (s := s') (tk := tk₁) X₁ (fun h₂ tk₂ X₂ => ?_) hk hx
    refine wpAny_mono (turn i v ow' m nw s' h₂ tk₂ hlt hP hSI' hB hJ (apart_addr hap ha) X₂) (fun fl s₃ q => ?_) fun _ _ e => e.elim
    cases fl with
    | ret v => exact q
    | brk => exact q
    | next =>
      obtain ⟨s'', h', tk', m', nw', e, hB', X', hap', hJ'⟩ := q
      exact ⟨N - (i + 1), by omega, i + 1, s'', h', tk', m', nw', ow', rfl, hlt, e, hB', X', hSI', hap', hJ'⟩
    | cont =>
      obtain ⟨s'', h', tk', m', nw', e, hB', X', hap', hJ'⟩ := q
      exact ⟨N - (i + 1), by omega, i + 1, s'', h', tk', m', nw', ow', rfl, hlt, e, hB', X', hSI', hap', hJ'⟩
  · have : i = N := by omega
    subst this
    refine IT.done ow _ _ _ hSI hh fun h₁ tk₁ k => wpAny_execs_nil ?_
    obtain ⟨F₁, N₁⟩ := fr_next X.F X.N hap k
    exact fin m nw s' h₁ tk₁ hB hJ ⟨X.W, F₁, N₁⟩
theorem r_for {x : Str} {px pos : Pos} {iter : Expr} {body : List Stmt} {Q : Flow → Shared → Prop} (hx : (envOf n sc L f cd).kindOf x = some .local) (hk : sc.kind = .function) (hs : ∀ x, foldedSetIterable iter (envOf n sc L f cd) x = pure x)
    (H : wpAny (model pg w) A (eval iter (envOf n sc L f cd)) (fun v s₁ => wpAny (model pg w) A (pyIter v) (ForAt w A g L x body (envOf n sc L f cd) Q) (fun _ _ => False) s₁) E s) :
    wpAny (model pg w) A (exec (.For (.Name x px) iter body [] pos) (envOf n sc L f cd)) Q E s :=
  wpAny_For (wpAny_mono H (fun _ _ h₁ => wpAny_mono h₁ (fun _ _ h₂ => for_code hx hk h₂) fun _ _ e => e.elim) fun _ _ e => e) hs

/-- over a text -/
theorem itr_str (hh : A.handled = none) {l : List Nat} {t : Tok} {ty : String} {I : Addr} (hty : ty = "str_ascii_iterator" ∨ ty = "str_iterator") :
    Itr A w I l.length (fun i v => ∃ t, v = .str (S [l.getD i 0]) t) (fun i ow => ∃ o, ow = [(I, o)] ∧ o.cls = .type ty ∧ o.data = .fields #[.str (S l) t, .int i 0]) := by
  constructor
  · rintro i ow s' Q E hi ⟨o, rfl, hc, hd⟩ hH hQ
    have hx : (S l).cps[i]? = some (l.getD i 0) := by simp [S, hi]
    have hit : s'.heap.IsStrIter I ty (S l) t i := ⟨o, hH _ (.head _), hc, hd⟩
    have fin : ∀ h', h'.IsStrIter I ty (S l) t (i + 1) → Heap.SameBut I s'.heap h' → Q (some (.str ⟨#[l.getD i 0]⟩ s'.toks)) { s' with heap := h', toks := s'.toks + 1 } := by
      rintro h' ⟨o', e1, e2, e3⟩ hs'
      exact hQ _ h' _ [(I, o')] ⟨_, rfl⟩ ⟨o', rfl, e2, e3⟩ rfl (fun p hp => by rcases List.mem_singleton.mp hp with rfl; exact e1) fun b o hb e => hs'.extBut b o (fun q => hb (by simp [q])) e
    rcases hty with rfl | rfl
    · exact wpAny_pyNext_ascii_item hit hx fin
    · exact wpAny_pyNext_wide_item hit hx fin
  · rintro ow s' Q E ⟨o, rfl, hc, hd⟩ hH hQ
    have hx : (S l).cps[l.length]? = none := by simp [S]
    have hit : s'.heap.IsStrIter I ty (S l) t l.length := ⟨o, hH _ (.head _), hc, hd⟩
    have fin : ∀ h', Heap.ExtBut I s'.heap h' → Q none { s' with heap := h' } := fun h' e => hQ h' s'.toks fun b o hb e' => e b o (fun q => hb (by simp [q])) e'
    rcases hty with rfl | rfl
    · exact wpAny_pyNext_ascii_end hh hit hx fin
    · exact wpAny_pyNext_wide_end hh hit hx fin
theorem it_str {l : List Nat} {t : Tok} {x : Str} {body : List Stmt} {env : Env} {Q : Flow → Shared → Prop} (hh : A.handled = none) (X : Cx w g L m nw h) (J : Nat → (Str → Option Value) → List (Addr × Obj) → Prop) (h0 : J 0 m nw)
    (turn : ∀ i t I o m nw h tk, i < l.length → J i m nw → Apart nw [(I, o)] → Cx w g L (upd m x (.str (S [l.getD i 0]) t)) (nw ++ [(I, o)]) h →
      wpAny (model pg w) A (execs body env) (ForEnd w g L (fun s' => s' = s) [(I, o)] (J (i + 1)) Q) (fun _ _ => False) (st s h tk))
    (fin : ∀ m nw h tk, J l.length m nw → Cx w g L m nw h → Q .next (st s h tk)) :
    wpAny (model pg w) A (pyIter (.str (S l) t)) (ForAt w A g L x body env Q) E (st s h tk) := by
  have key : ∀ ty, (ty = "str_ascii_iterator" ∨ ty = "str_iterator") → ForAt w A g L x body env Q (.ref h.objs.size) { st s h tk with heap := h.push { cls := .type ty, data := .fields #[.str (S l) t, .int 0 0] } } := by
    intro ty hty
    have hIh : h.get? h.objs.size = none := by
      cases e : h.get? h.objs.size with
      | none => rfl
      | some o => exact absurd (Heap.lt_size e) (Nat.lt_irrefl _)
    refine ⟨h.objs.size, _, _, _, h.push { cls := .type ty, data := .fields #[.str (S l) t, .int 0 0] }, tk, m, nw, [(h.objs.size, { cls := .type ty, data := .fields #[.str (S l) t, .int 0 0] })], s, fun s' => s' = s, J, rfl, rfl, rfl, ?_, itr_str hh hty, ⟨_, rfl, rfl, rfl⟩, ?_, h0, ?_, ?_⟩
    · refine ⟨X.W, X.F.push _, fun p hp => ?_⟩
      rcases List.mem_append.mp hp with hp | hp
      · exact ⟨Heap.get?_push_of_some _ (X.N p hp).1, (X.N p hp).2⟩
      · rcases List.mem_singleton.mp hp with rfl
        exact ⟨Heap.get?_push_size _ rfl, Nat.ne_of_gt X.F.ns.lt, next_is_new X.F⟩
    · intro p hp q hq
      rcases List.mem_singleton.mp hq with rfl
      exact Nat.ne_of_lt (Heap.lt_size (X.N p hp).1)
    · rintro i v ow m nw s' h tk hi ⟨t, rfl⟩ ⟨o, rfl, _⟩ rfl hJ hap X
      exact turn i t _ o m nw h tk hi hJ hap X
    · rintro m nw s' h tk rfl hJ X
      exact fin m nw h tk hJ X
  cases ha : (S l).cps.all (· < 128)
  · exact wpAny_pyIter_wide ha (key _ (.inr rfl))
  · exact wpAny_pyIter_ascii ha (key _ (.inl rfl))
/-- over a list -/
theorem itr_list (hh : A.handled = none) {its : Array Value} {k : Nat} {I a : Addr} (hne : a ≠ I) :
    Itr A w I its.size (fun i v => its[i]? = some v) (fun i ow => ∃ o, ow = [(I, o), (a, PySem.W.listOf its k)] ∧ o.cls = .type "list_iterator" ∧ o.data = .fields #[.ref a, .int i 0]) := by
  constructor
  · rintro i ow s' Q E hi ⟨o, rfl, hc, hd⟩ hH hQ
    refine wpAny_pyNext_list_item (l := a) (items := its) (x := its[i]) ⟨o, hH _ (.head _), hc, hd⟩ ⟨_, hH _ (.tail _ (.head _)), rfl, k, rfl⟩ (by simp [hi]) ?_
    rintro h' ⟨o', e1, e2, e3⟩ hs'
    refine hQ _ h' s'.toks [(I, o'), (a, PySem.W.listOf its k)] (by simp [hi]) ⟨o', rfl, e2, e3⟩ rfl (fun p hp => ?_) fun b o hb e => hs'.extBut b o (fun q => hb (by simp [q])) e
    rcases List.mem_cons.mp hp with rfl | hp
    · exact e1
    · rcases List.mem_singleton.mp hp with rfl
      exact hs'.extBut _ _ hne (hH _ (.tail _ (.head _)))
  · rintro ow s' Q E ⟨o, rfl, hc, hd⟩ hH hQ
    exact wpAny_pyNext_list_end hh (l := a) (items := its) ⟨o, hH _ (.head _), hc, hd⟩ ⟨_, hH _ (.tail _ (.head _)), rfl, k, rfl⟩ (by simp) fun h' e => hQ h' s'.toks fun b o hb e' => e b o (fun q => hb (by simp [q])) e'
/-- the list stands apart in the ledger -/
theorem it_list {its : Array Value} {k : Nat} {a : Addr} {x : Str} {body : List Stmt} {env : Env} {Q : Flow → Shared → Prop} (hh : A.handled = none) (X : Cx w g L m (nw ++ [(a, PySem.W.listOf its k)]) h) (hap : ∀ p ∈ nw, p.1 ≠ a)
    (B : Shared → Prop) (hB : B s) (J : Nat → (Str → Option Value) → List (Addr × Obj) → Prop) (h0 : J 0 m nw)
    (turn : ∀ i v I o m nw s' h tk, its[i]? = some v → B s' → J i m nw → Apart nw [(I, o), (a, PySem.W.listOf its k)] → o.cls = .type "list_iterator" → o.data = .fields #[.ref a, .int (i + 1 : Nat) 0] →
      Cx w g L (upd m x v) (nw ++ [(I, o), (a, PySem.W.listOf its k)]) h →
      wpAny (model pg w) A (execs body env) (ForEnd w g L B [(I, o), (a, PySem.W.listOf its k)] (J (i + 1)) Q) (fun _ _ => False) (st s' h tk))
    (fin : ∀ m nw s' h tk, B s' → J its.size m nw → Cx w g L m nw h → Q .next (st s' h tk)) :
    wpAny (model pg w) A (pyIter (.ref a)) (ForAt w A g L x body env Q) E (st s h tk) := by
  have na := X.N (a, PySem.W.listOf its k) (List.mem_append_right _ (.head _))
  refine wpAny_pyIter_list (s := st s h tk) (items := its) ⟨_, na.1, rfl, k, rfl⟩ ?_
  refine ⟨h.objs.size, _, _, _, h.push { cls := .type "list_iterator", data := .fields #[.ref a, .int 0 0] }, tk, m, nw, [(h.objs.size, { cls := .type "list_iterator", data := .fields #[.ref a, .int 0 0] }), (a, PySem.W.listOf its k)], s, B, J, rfl, rfl, hB, ?_, itr_list hh (Nat.ne_of_lt (Heap.lt_size na.1)), ⟨_, rfl, rfl, rfl⟩, ?_, h0, ?_, ?_⟩
  · refine ⟨X.W, X.F.push _, fun p hp => ?_⟩
    rcases List.mem_append.mp hp with hp | hp
    · exact ⟨Heap.get?_push_of_some _ (X.N p (List.mem_append_left _ hp)).1, (X.N p (List.mem_append_left _ hp)).2⟩
    · rcases List.mem_cons.mp hp with rfl | hp
      · exact ⟨Heap.get?_push_size _ rfl, Nat.ne_of_gt X.F.ns.lt, next_is_new X.F⟩
      · rcases List.mem_singleton.mp hp with rfl
        exact ⟨Heap.get?_push_of_some _ na.1, na.2⟩
  · intro p hp q hq
    rcases List.mem_cons.mp hq with rfl | hq
    · exact Nat.ne_of_lt (Heap.lt_size (X.N p (List.mem_append_left _ hp)).1)
    · rcases List.mem_singleton.mp hq with rfl
      exact hap p hp
  · rintro i v ow m nw s' h tk hi hv ⟨o, rfl, hc, hd⟩ hB hJ hap X
    exact turn i v _ o m nw s' h tk hv hB hJ hap hc hd X
  · rintro m nw s' h tk hB hJ X
    exact fin m nw s' h tk hB hJ X
theorem apart_left {nw nw' ow : List (Addr × Obj)} (ha : Apart nw ow) (e : nw'.map (·.1) = nw.map (·.1)) : Apart nw' ow := fun p hp q hq => by
  have : p.1 ∈ nw.map (·.1) := by rw [← e]; exact List.mem_map_of_mem hp
  obtain ⟨p', hp', e2⟩ := List.mem_map.mp this
  rw [← e2]; exact ha p' hp' q hq
theorem fe_next {B : Shared → Prop} {ow nw' : List (Addr × Obj)} {J : (Str → Option Value) → List (Addr × Obj) → Prop} {Q : Flow → Shared → Prop} (X : Cx w g L m (nw' ++ ow) h) (hB : B s) (ha : Apart nw' ow) (hJ : J m nw') : ForEnd w g L B ow J Q .next (st s h tk) :=
  ⟨s, h, tk, m, nw', rfl, hB, X, ha, hJ⟩
theorem fe_cont {B : Shared → Prop} {ow nw' : List (Addr × Obj)} {J : (Str → Option Value) → List (Addr × Obj) → Prop} {Q : Flow → Shared → Prop} (X : Cx w g L m (nw' ++ ow) h) (hB : B s) (ha : Apart nw' ow) (hJ : J m nw') : ForEnd w g L B ow J Q .cont (st s h tk) :=
  ⟨s, h, tk, m, nw', rfl, hB, X, ha, hJ⟩
end
end Mine
end
section
open PySem PySem.W PySem.Calls PyProof.Rows PyProof
set_option Elab.async false
set_option maxRecDepth 100000
set_option maxHeartbeats 2000000
set_option autoImplicit false
namespace Mine
def AllB (a : Array GenState) : Prop := ∀ y ∈ a, y.bare = true
/-- what a call may do beside the heap -/
def GR (s s' : Shared) : Prop := s'.os = s.os ∧ (AllB s.gens → AllB s'.gens)
theorem GR.refl (s : Shared) : GR s s := ⟨rfl, id⟩
theorem GR.trans {a b c : Shared} (x : GR a b) (y : GR b c) : GR a c := ⟨y.1.trans x.1, y.2 ∘ x.2⟩
theorem GR.st {s s' : Shared} {h : Heap} {tk : Nat} (x : GR s s') : GR s (st s' h tk) := x
theorem GR.of {s s' : Shared} {h h' : Heap} {tk tk' : Nat} (x : GR (Mine.st s h tk) (Mine.st s' h' tk')) : GR s s' := x
/-- where a generator's block looks -/
def fpG (n : Nat) : List Addr := (List.range n).filter fun b => b != 52 && b != 59
theorem mem_fpG {n b : Nat} : b ∈ fpG n ↔ b < n ∧ b ≠ 52 ∧ b ≠ 59 := by simp [fpG]
section
variable {w : World} {A : Around} {E : Value → Shared → Prop} {s : Shared} {h g : Heap} {tk : Nat} {L : Addr} {m : Str → Option Value} {nw : List (Addr × Obj)}
/-- a generator at hand -/
abbrev GenHere (w : World) (A : Around) (G C : Nat) (gn I : Nat) (N : Nat) (F : Nat → Value → Prop) (j : Nat) (s : Shared) : Prop := GenAt pg w A.in4 G gn C (fpG C) [I] (fun _ => true) N F j s
/-- one code made or found in table 59 -/
theorem gen_code {sc : Scope} {nm : Str} {f : Addr} {scope : Scope} {pos : Pos} {ps1 ps2 : Array Value} {Q : Value → Shared → Prop}
    (W : Wd w g) (k : g.StaysIn h) (h1 : h.get? 52 = some (tabObj ps1)) (h2 : h.get? 59 = some (tabObj ps2)) (hg : g.get? 59 = none) (t : TG g ps1 ps2)
    (hq : nm ++ ".<locals>." ++ "<genexpr>" = qGen) (hpos : pos.line = 57 ∧ pos.col = 51)
    (H : ∀ c' h' tk', (∀ b o, b ≠ 59 → h.get? b = some o → h'.get? b = some o) → Tb h' → h.objs.size ≤ h'.objs.size → (∀ P c, P = 52 ∨ P = 59 → Cod h' P c → Cod h P c ∨ (h.objs.size ≤ c ∧ c < h'.objs.size)) → Q (.ref c') (st s h' tk')) :
    wpAny (model pg w) A (genexprCode (envOf nm sc L f (.ref 61)) pos ((envOf nm sc L f (.ref 61)).qual ++ "<genexpr>") scope) Q E (st s h tk) := by
  show wpAny _ _ (genexprCode (envOf nm sc L f (.ref 61)) pos (nm ++ ".<locals>." ++ "<genexpr>") scope) _ _ _
  rw [hq]
  have C2 := W.C2.keeps k
  have hl : rawInt pos.line = rawInt (57 : Nat) := by rw [hpos.1]
  have hc : rawInt pos.col = rawInt (51 : Nat) := by rw [hpos.2]
  have t1 : ∀ h' : Heap, g.StaysIn h' → TOk (fun c' => h'.CodeRec (.ref c') qLam) 28 31 ps1 := fun h' k' => t.1.imp id fun ⟨c, a, b⟩ => ⟨c, a, b.keeps k'⟩
  rcases t.2 with rfl | ⟨c', rfl, hr⟩
  · refine wpAny_genexprCodeX (s := st s h tk) rfl (C2.code h2 trivial) (C2.tab h2) rfl fun c' h' tk' hx hge hlt hcode hrec htb _ => ?_
    have kk : ∀ b o, b ≠ 59 → h.get? b = some o → h'.get? b = some o := fun b o hb e => hx b o hb e
    have kg : g.StaysIn h' := fun b o e => kk b o (by rintro rfl; rw [hg] at e; cases e) (k _ _ e)
    refine H c' h' tk' kk ⟨⟨ps1, kk _ _ (by decide) h1, t1 h' kg⟩, ⟨_, htb.2, .inr ⟨c', by rw [hl, hc]; rfl, hrec⟩⟩⟩ (Nat.le_trans hge (Nat.le_of_lt hlt)) ?_
    rintro P c hP ⟨ps, e, hcm⟩
    rcases hP with rfl | rfl
    · rw [kk _ _ (by decide) h1] at e; cases e; exact .inl ⟨_, h1, hcm⟩
    · rw [htb.2] at e; cases e
      have : c = c' := by simpa [rawInt] using hcm
      rw [this]; exact .inr ⟨hge, hlt⟩
  · refine wpAny_genexprCode_hit (s := st s h tk) rfl (C2.code h2 trivial) (c' := .ref c') ?_ ?_
    · show (if _ then _ else _) = _; rw [hpos.1, hpos.2]; rfl
    · exact H c' h tk (fun _ _ _ e => e) ⟨⟨ps1, h1, t1 h k⟩, ⟨_, h2, .inr ⟨c', rfl, hr.keeps k⟩⟩⟩ (Nat.le_refl _) (fun _ _ _ q => .inl q)
theorem none_size (h : Heap) : h.get? h.objs.size = none := by
  cases e : h.get? h.objs.size with
  | none => rfl
  | some o => exact absurd (Heap.lt_size e) (Nat.lt_irrefl _)
/-- the making of a generator over a list, without tests -/
theorem r_genexp {sc : Scope} {nm : Str} {f a : Addr} {elt iter : Expr} {x : Str} {px pos : Pos} {scope : Scope} {ps1 ps2 : Array Value} {its : Array Value} {k : Nat} {F : Nat → Value → Prop} {Q : Value → Shared → Prop}
    (hh : A.handled = none) (hroom : A.depth < recursionLimit) (W : Wd w g) (kp : g.StaysIn h) (h1 : h.get? 52 = some (tabObj ps1)) (h2 : h.get? 59 = some (tabObj ps2)) (hg1 : g.get? 52 = none) (hg2 : g.get? 59 = none) (t : TG g ps1 ps2)
    (hl : h.get? a = some (PySem.W.listOf its k))
    (hq : nm ++ ".<locals>." ++ "<genexpr>" = qGen) (hpos : pos.line = 57 ∧ pos.col = 51)
    (hco : scope.isCoroutine = false) (hclos : closureFor scope (envOf nm sc L f (.ref 61)) = pure []) (hcell : ∀ y ∈ scope.names, y.2 ≠ .cell) (h0 : scope.names.lookup (".0" : Str) = some NameKind.local)
    (hx : scope.names.lookup x = some .local) (hkind : scope.kind = .function) (hs : ∀ x, genFold iter (envOf nm sc L f (.ref 61)) x = pure x)
    (hiter : ∀ Q' : Value → Shared → Prop, Q' (.ref a) (st s h tk) → wpAny (model pg w) A (eval iter (envOf nm sc L f (.ref 61))) Q' E (st s h tk))
    (helt : ∀ (A' : Around) (E' : Value → Shared → Prop) i v (s₂ : Shared) C c' m₂, A'.handled = none → its[i]? = some v → Ck w s₂.heap C m₂ s₂.heap → m₂ x = some v →
      wpAny (model pg w) A' (eval elt (genEnv scope [] C c' builtinsNs (envOf nm sc L f (.ref 61)))) (fun y s₃ => F i y ∧ Keeps s₂ s₃) E' s₂)
    (H : ∀ (G C gn I : Nat) s' h' tk', GR s s' → GenHere w A G C gn I its.size F 0 (st s' h' tk') → (∀ b o, b ≠ 59 → h.get? b = some o → h'.get? b = some o) → Tb h' → h.objs.size ≤ I → I < C → C < G → G < h'.objs.size → (∀ P c, P = 52 ∨ P = 59 → Cod h' P c → c ≠ C ∧ c ≠ I) →
      Q (.ref G) (st s' h' tk')) :
    wpAny (model pg w) A (eval (.GeneratorExp elt [⟨.Name x px, iter, [], 0⟩] scope pos) (envOf nm sc L f (.ref 61))) Q E (st s h tk) := by
  obtain ⟨loose, mean, mg, mb, T⟩ := W.T
  have up : ∀ (o : Obj) b o', h.get? b = some o' → (h.push o).get? b = some o' := fun o b o' e => Heap.get?_push_of_some _ e
  refine wpAny_GeneratorExp_make hco hclos hcell h0 hkind hroom (hiter _ (wpAny_pyIter_list (s := st s h tk) (items := its) ⟨_, hl, rfl, k, rfl⟩ ⟨?_, ?_⟩)) hs
  · exact (T.nolimit.keeps kp).keeps (up _)
  refine gen_code (h := h.push { cls := .type "list_iterator", data := .fields #[.ref a, .int 0 0] }) (tk := tk) W (fun b o e => up _ _ _ (kp _ _ e)) (up _ _ _ h1) (up _ _ _ h2) hg2 t hq hpos fun c' h3 tk3 k3 T3 hsz nw3 => ?_
  rw [Heap.size_push] at hsz
  have kg : g.StaysIn h3 := fun b o e => k3 b o (by rintro rfl; rw [hg2] at e; cases e) (up _ _ _ (kp _ _ e))
  have W3 := W.keeps kg
  have hgs := T.g.keeps kg
  obtain ⟨bm, ob, b1, b2, b3, b4, b5, b6⟩ := T.bmain
  refine wpAny_builtinsFor (s := st s h3 tk3) (globals := mainGlobals) hgs b1 b2 (kg _ _ b3) b4 b5 b6 ?_
  intro h' hn' hs'
  have hI : h3.get? h.objs.size = some { cls := .type "list_iterator", data := .fields #[.ref a, .int 0 0] } := k3 _ _ (Nat.ne_of_gt (Heap.lt_size h2)) (Heap.get?_push_size _ rfl)
  have ha59 : a ≠ 59 := fun q => by rw [q, h2] at hl; cases hl
  have ha52 : a ≠ 52 := fun q => by rw [q, h1] at hl; cases hl
  have hla : h3.get? a = some (PySem.W.listOf its k) := k3 _ _ ha59 (up _ _ _ hl)
  have hIC : h.objs.size < h3.objs.size := Heap.lt_size hI
  have hsz' : h'.objs.size = h3.objs.size + 1 := by rw [hs'.1, Heap.size_push]; rfl
  have keep' : ∀ b o, h3.get? b = some o → h'.get? b = some o := fun b o e => hs'.extBut b o (Nat.ne_of_lt (Heap.lt_size e)) (Heap.get?_push_of_some _ e)
  have keep5 : ∀ (o5 : Obj) b o, h3.get? b = some o → (h'.push o5).get? b = some o := fun o5 b o e => Heap.get?_push_of_some _ (keep' b o e)
  have hclt : cStatics < h3.objs.size := let ⟨_, hn, _⟩ := T.nolimit.keeps kg; hn.lt
  show Q (.ref h'.objs.size) (st { s with gens := s.gens.push (GenState.fresh _) } (h'.push _) (tk3 + 1 + 1 + 1))
  refine H h'.objs.size h3.objs.size s.gens.size h.objs.size _ _ _ ⟨?os, ?gens⟩ ?gen ?kp (T3.keeps (keep5 _)) (Nat.le_refl _) hIC (by rw [hsz']; exact Nat.lt_succ_self _) ?l2 ?nc
  case l2 => rw [Heap.size_push]; exact Nat.lt_succ_self _
  case os => rfl
  case nc =>
    intro P c hP hc
    have hc3 : Cod h3 P c := hc.back T3 (fun b o _ e => keep5 _ b o e) hP
    have hTb : Tb h := by
      refine ⟨⟨_, h1, t.1.imp id fun ⟨c, a, b⟩ => ⟨c, a, b.keeps kp⟩⟩, ⟨_, h2, t.2.imp id fun ⟨c, a, b⟩ => ⟨c, a, b.keeps kp⟩⟩⟩
    rcases nw3 P c hP hc3 with q | ⟨q1, q2⟩
    · have q2 : c < h.objs.size := (q.back hTb (fun b o _ e => up _ b o e) hP).lt hTb hP
      exact ⟨Nat.ne_of_lt (Nat.lt_trans q2 hIC), Nat.ne_of_lt q2⟩
    · rw [Heap.size_push] at q1
      exact ⟨Nat.ne_of_lt q2, Nat.ne_of_gt q1⟩
  case gens =>
    intro hb y hy
    rcases Array.mem_push.mp hy with hy | rfl
    · exact hb y hy
    · rfl
  case kp => exact fun b o hb e => keep5 _ b o (k3 b o hb (up _ _ _ e))
  case gen =>
    refine GenAt.fresh (A := A.in4) (cenv := genEnv scope [] h3.objs.size (.ref c') builtinsNs (envOf nm sc L f (.ref 61))) (m := fun y => if y = ".0" then some (.ref h.objs.size) else none) hh
      (W₀ := fun A' hA => (Walks.list hA h.objs.size a (Nat.ne_of_lt (Heap.lt_size hl)) its).mono_fp ?fp) (fun _ => true) F hx (by simp [genEnv, hkind]) hco
      (fun hm => Nat.lt_irrefl _ (mem_fpG.mp hm).1) ?quiet ⟨_, _, _, Heap.get?_push_size _ rfl, rfl, rfl, rfl⟩ (Array.getElem?_push_size ..) ?st0 (hn'.push _) ((T.nolimit.keeps kg).keeps (keep5 _))
    case fp =>
      intro b hb
      rcases List.mem_cons.mp hb with rfl | hb
      · exact mem_fpG.mpr ⟨hIC, Nat.ne_of_gt (Heap.lt_size h1), Nat.ne_of_gt (Heap.lt_size h2)⟩
      · rcases List.mem_singleton.mp hb with rfl
        exact mem_fpG.mpr ⟨Heap.lt_size hla, ha52, ha59⟩
    case st0 => exact ⟨⟨_, keep5 _ _ _ hI, rfl, rfl⟩, ⟨_, keep5 _ _ _ hla, rfl, k, rfl⟩⟩
    case quiet =>
      have hW : ∀ s₂ : Shared, (∀ b ∈ fpG h3.objs.size, b ∉ [h.objs.size] → ∀ o, (h'.push { cls := Value.type "generator", data := Data.fields #[.int (st s h3 tk3).gens.size 0, .str "<genexpr>" ((st s h3 tk3).toks + 1), .str ((envOf nm sc L f (.ref 61)).qual ++ "<genexpr>") ((st s h3 tk3).toks + 1 + 1)] }).get? b = some o → s₂.heap.get? b = some o) → Wd w s₂.heap := by
        intro s₂ hk
        refine W.keeps fun b o e => ?_
        have eh := kp _ _ e
        refine hk b (mem_fpG.mpr ⟨Nat.lt_trans (Heap.lt_size eh) hIC, ?_, ?_⟩) (fun hm => by rw [List.mem_singleton.mp hm] at eh; exact absurd (Heap.lt_size eh) (Nat.lt_irrefl _)) o (keep5 _ _ _ (kg _ _ e))
        · rintro rfl; rw [hg1] at e; cases e
        · rintro rfl; rw [hg2] at e; cases e
      refine ⟨?_, ?_⟩
      · intro A' E' i v s₂ m₂ hA hP hn hm hk
        exact wpAny_pure ⟨rfl, s₂.heap, s₂.toks, rfl, fun _ _ e => e⟩
      · intro A' E' i v s₂ m₂ hA hP _ hn hm hk
        exact helt A' E' i v s₂ h3.objs.size (.ref c') m₂ hA hP ⟨hW s₂ hk, hn, fun _ _ e => e⟩ hm

theorem gen_frame {G C gn I N j : Nat} {F : Nat → Value → Prop} {s : Shared} {h' : Heap} {tk' : Nat} (st : GenHere w A G C gn I N F j s) (hcs : cStatics ∈ fpG C) (hk : ∀ b ∈ G :: C :: fpG C, ∀ o, s.heap.get? b = some o → h'.get? b = some o) :
    GenHere w A G C gn I N F j { s with heap := h', toks := tk' } :=
  ⟨let ⟨o, nm, qn, ho, r⟩ := st.1; ⟨o, nm, qn, hk G (List.mem_cons_self ..) o ho, r⟩,
     (let ⟨mc, hns, hnn⟩ := st.2.1; ⟨mc, hns.at' fun o e => hk cStatics (List.mem_cons_of_mem _ (List.mem_cons_of_mem _ hcs)) o e, hnn⟩),
     let ⟨gs, hgs, hgo⟩ := st.2.2; ⟨gs, hgs, fun s'' hal => hgo s'' fun b hb o e => hal b hb o (hk b (List.mem_cons_of_mem _ hb) o e)⟩⟩
theorem passing_all (N : Nat) : passing (fun _ => true) N 0 = List.range N := by unfold passing; simp
/-- what the comprehension gives of the texts -/
def outL (ls : List (List Nat)) : List (List Nat) := (ls.filter fun l => !decide (l = [])).map readL
theorem outL_snoc (ls : List (List Nat)) (l : List Nat) : outL (ls ++ [l]) = outL ls ++ (if l = [] then [] else [readL l]) := by
  unfold outL
  rw [List.filter_append, List.map_append]
  congr 1
  by_cases h : l = [] <;> simp [h]
theorem comp_gen {sc : Scope} {nm : Str} {f : Addr} {elt iter : Expr} {x : Str} {px pos : Pos} {ifs : List Expr} {scope : Scope} {ls : List (List Nat)} {ps1 ps2 : Array Value} {Q : Value → Shared → Prop}
    (hh : A.handled = none) (hroom : A.depth < recursionLimit) (W : Wd w g) (kp : g.StaysIn h) (h1 : h.get? 52 = some (tabObj ps1)) (h2 : h.get? 59 = some (tabObj ps2)) (hg1 : g.get? 52 = none) (hg2 : g.get? 59 = none)
    (hclos : closureFor scope (envOf nm sc L f (.ref 61)) = pure []) (hcell : ∀ y ∈ scope.names, y.2 ≠ .cell) (hkind : scope.kind = .function)
    (hnames : ∀ y ∈ scope.names, y.2 = .local → scope.names.lookup y.1 = some .local) (hx : scope.names.lookup x = some .local)
    (hs : ∀ x, foldedSetIterable iter (envOf nm sc L f (.ref 61)) x = pure x) (hz : ls.length ≤ 100000)
    (hiter : ∀ Q' : Value → Shared → Prop, (∀ (G C gn I : Nat) s' h' tk', GR s s' → GenHere w A G C gn I ls.length (fun i y => ∃ l t, ls[i]? = some l ∧ y = .str (S l) t) 0 (st s' h' tk') →
        (∀ b o, b ≠ 59 → h.get? b = some o → h'.get? b = some o) → Tb h' → h.objs.size ≤ I → I < C → C < G → G < h'.objs.size → (∀ P c, P = 52 ∨ P = 59 → Cod h' P c → c ≠ C ∧ c ≠ I) → Q' (.ref G) (st s' h' tk')) →
      wpAny (model pg w) A (eval iter (envOf nm sc L f (.ref 61))) Q' E (st s h tk))
    (htest : ∀ (E' : Value → Shared → Prop) s' h tk C m₃ l t, l ∈ ls → Ck w h C m₃ h → m₃ x = some (.str (S l) t) →
      wpAny (model pg w) A (forIn ifs true fun c r => if r = true then do let ok ← isTrue c (compEnvC scope [] C (envOf nm sc L f (.ref 61))) (eval c (compEnvC scope [] C (envOf nm sc L f (.ref 61)))); pure (ForInStep.yield ok) else pure (ForInStep.yield r))
        (fun ok s₃ => ok = !decide (l = []) ∧ ∃ h' tk', s₃ = st s' h' tk' ∧ h.StaysIn h') E' (st s' h tk))
    (helt : ∀ (E' : Value → Shared → Prop) s' h tk C m₃ l t, l ∈ ls → Wd w (Gh h) → Tb h → Ck w h C m₃ h → m₃ x = some (.str (S l) t) →
      wpAny (model pg w) A (eval elt (compEnvC scope [] C (envOf nm sc L f (.ref 61)))) (fun y s₃ => ∃ h' tk' t', s₃ = st s' h' tk' ∧ y = .str (S (readL l)) t' ∧ Kp h h' ∧ Tb h' ∧ Nw h h') E' (st s' h tk))
    (H : ∀ D s' h' tk' ys k, GR s s' → Kp h h' → Tb h' → h.get? D = none → h'.get? D = some (PySem.W.listOf ys.toArray k) → StrsV ys (outL ls) → Q (.ref D) (st s' h' tk')) :
    wpAny (model pg w) A (eval (.ListComp elt [⟨.Name x px, iter, ifs, 0⟩] scope pos) (envOf nm sc L f (.ref 61))) Q E (st s h tk) := by
  obtain ⟨loose, mean, mg, mb, T⟩ := W.T
  rw [eval_ListComp]
  refine wpAny_comprehension_free (use := none) rfl hs hclos hkind hnames (hiter _ fun G C gn I s' h' tk' gr gen0 k0 T0 hI hIC hCG hGs nc0 => ?_)
  have lt_of : ∀ {hp : Heap} {b : Nat} {o : Obj}, hp.get? b = some o → b < hp.objs.size := fun e => Heap.lt_size e
  have hcs0 : @LT.lt Nat _ cStatics h.objs.size := let ⟨_, hn, _⟩ := T.nolimit.keeps kp; hn.lt
  have hcs : cStatics ∈ fpG C := mem_fpG.mpr ⟨by show @LT.lt Nat _ cStatics C; omega, by decide, by decide⟩
  have hGf : G ∉ fpG C := fun hm => by have : @LT.lt Nat _ G C := (mem_fpG.mp hm).1; omega
  have n52 : ∀ b : Nat, h.objs.size ≤ b → b ≠ 52 ∧ b ≠ 59 := fun b hb => ⟨fun q => by have : @LT.lt Nat _ 52 h.objs.size := Heap.lt_size h1; omega, fun q => by have : @LT.lt Nat _ 59 h.objs.size := Heap.lt_size h2; omega⟩
  have WS4 : WalksS pg w A.in4 G (G :: C :: fpG C) (C :: [I]) (GenOnlyQ gn) (passing (fun _ => true) ls.length 0).length _ (GenAt pg w A.in4 G gn C (fpG C) [I] (fun _ => true) ls.length (fun i y => ∃ l t, ls[i]? = some l ∧ y = .str (S l) t)) :=
    WalksS.genexpQ (A := A.in4) hh G gn C (fpG C) [I] (fun _ => true) ls.length _ (Nat.ne_of_gt hCG) hGf (fun b hb => by rcases List.mem_singleton.mp hb with rfl; exact mem_fpG.mpr ⟨hIC, n52 _ hI⟩) hroom hcs (by show @Ne Nat cStatics C; omega) (by
      intro hm; have : @Eq Nat cStatics I := List.mem_singleton.mp hm; omega)
  have WS := WalksS.of_in1 (WalksS.of_in1 (WalksS.of_in1 (WalksS.of_in1 (A := A.in1.in1.in1) WS4)))
  have hN : (passing (fun _ => true) ls.length 0).length = ls.length := by rw [passing_all, List.length_range]
  rw [hN] at WS
  refine wpAny_pyIter_gen gen0.1 ?_
  refine wpAny_newObj_type (wpAny_newFunctionEnv hcell (by intro y hy; simp at hy) (fun h₁ hns₁ hsb₁ => ?_) hkind)
  dsimp only at hns₁ hsb₁ ⊢
  generalize hH2 : (st s' h' tk').heap.push { cls := .type "list", dict := none, data := .seq ([] : List Value).toArray } = H2 at hns₁ hsb₁ ⊢
  change h'.push _ = H2 at hH2
  have hC : @Eq Nat H2.objs.size (h'.objs.size + 1) := by rw [← hH2, Heap.size_push]
  generalize hC2 : H2.objs.size = C2 at hns₁ hsb₁ hC ⊢
  obtain ⟨D, hD⟩ : ∃ D : Nat, D = h'.objs.size := ⟨_, rfl⟩
  change codeAny _ _ (.compStart _ _ _ (.ref h'.objs.size) _) (compPost _ _ _ _ _ (.ref h'.objs.size) _) _
  rw [← hD] at hC hGs ⊢
  have hDf : h'.get? D = none := by rw [hD]; exact none_size _
  have hDC : D ≠ C2 := by omega
  have old : h'.StaysIn h₁ := fun b o e => hsb₁.extBut b o (by have : @LT.lt Nat _ b h'.objs.size := Heap.lt_size e; show @Ne Nat b C2; omega) (Heap.get?_push_of_some _ (hH2 ▸ Heap.get?_push_of_some _ e))
  have hacc : h₁.get? D = some (PySem.W.listOf ([] : List Value).toArray 0) := hsb₁.extBut _ _ hDC (Heap.get?_push_of_some _ (by rw [hD, ← hH2]; exact Heap.get?_push_size _ rfl))
  have small : ∀ {b : Nat} {o : Obj}, h.get? b = some o → b < h.objs.size := fun e => Heap.lt_size e
  have fpn : ∀ b : Nat, b ∈ G :: C :: fpG C → b ≠ D ∧ b ≠ C2 ∧ b ≠ 52 ∧ b ≠ 59 := by
    intro b hb
    have q : b ≤ G ∧ b ≠ 52 ∧ b ≠ 59 := by
      rcases List.mem_cons.mp hb with rfl | hb
      · exact ⟨Nat.le_refl _, n52 _ (by omega)⟩
      · rcases List.mem_cons.mp hb with rfl | hb
        · exact ⟨by omega, n52 _ (by omega)⟩
        · have := mem_fpG.mp hb
          have q : @LT.lt Nat _ b C := this.1
          exact ⟨by omega, this.2⟩
    exact ⟨by omega, by omega, q.2⟩
  have dn := n52 D (by omega)
  have cn := n52 C2 (by omega)
  have loop : ∀ s₃ : Shared, s₃ = st s' h₁ (tk' + ([] : List (Str × Value)).length) →
      codeAny (model pg w) A (.compLoop (.ListComp elt [⟨.Name x px, iter, ifs, 0⟩] scope pos) 0 (.ref G) (.ref D) (compEnvC scope [] C2 (envOf nm sc L f (.ref 61))))
        (compPost (model pg w) A E none Q (.ref D) C2) s₃ := by
    rintro s₃ rfl
    refine codeAny_compLoop_tests (fun n s₃ => ∃ j s₃' h₃ tk₃ ys k m, n = ls.length - j ∧ j ≤ ls.length ∧ s₃ = st s₃' h₃ tk₃ ∧ GR s s₃' ∧ GenHere w A G C gn I ls.length (fun i y => ∃ l t, ls[i]? = some l ∧ y = .str (S l) t) j (st s₃' h₃ tk₃) ∧
      Kp h h₃ ∧ Tb h₃ ∧ (∀ P c, P = 52 ∨ P = 59 → Cod h₃ P c → c ≠ C ∧ c ≠ I) ∧ h₃.get? D = some (PySem.W.listOf ys.toArray k) ∧ h₃.Ns C2 m ∧ StrsV ys (outL (ls.take j))) ?_ ls.length
      ⟨0, s', h₁, _, [], 0, _, rfl, Nat.zero_le _, rfl, gr, gen_frame (s := st s' h' tk') gen0 hcs (fun b hb o e => old b o e), fun b o h1 h2 e => old b o (k0 b o h2 e), T0.keeps old, fun P c hP hc => nc0 P c hP (hc.back T0 (fun b o _ e => old b o e) hP), hacc, hns₁, .nil⟩
    rintro n _ ⟨j, s₃', h₃, tk₃, ys, k, m, rfl, hj, rfl, gr3, gen3, kp3, T3, nc3, hd3, hn3, hys⟩
    have moved : ∀ {s₄ : Shared}, Moved (C :: [I]) (GenOnlyQ gn) (st s₃' h₃ tk₃) s₄ → GR s s₄ ∧ Kp h s₄.heap ∧ Tb s₄.heap ∧ (∀ P c, P = 52 ∨ P = 59 → Cod s₄.heap P c → c ≠ C ∧ c ≠ I) ∧ s₄.heap.get? D = some (PySem.W.listOf ys.toArray k) ∧ s₄.heap.Ns C2 m := by
      intro s₄ mv
      have kk : ∀ (b : Nat) o, b ≠ C → b ≠ I → h₃.get? b = some o → s₄.heap.get? b = some o := fun b o h1 h2 e => mv.heap b o (by simp [h1, h2]) e
      have kt : ∀ b o, h.get? b = some o → s₄.heap.get? b = some o ∨ b = 52 ∨ b = 59 := fun b o e => by
        by_cases hb : b = 52 ∨ b = 59
        · exact .inr hb
        · have := small e
          exact .inl (kk b o (by omega) (by omega) (kp3 b o (fun q => hb (.inl q)) (fun q => hb (.inr q)) e))
      have ktab : ∀ b o, b = 52 ∨ b = 59 → h₃.get? b = some o → s₄.heap.get? b = some o := fun b o hb e => by
        have i1 := small h1
        have i2 := small h2
        rcases hb with rfl | rfl
        · exact kk _ o (by omega) (by omega) e
        · exact kk _ o (by omega) (by omega) e
      refine ⟨⟨mv.os.trans gr3.1, fun q => GenOnlyQ.bare mv.gens (gr3.2 q)⟩, fun b o h1 h2 e => (kt b o e).elim id fun q => absurd q (by simp [h1, h2]), ?_, fun P c hP hc => nc3 P c hP (hc.back T3 ktab hP), kk D _ (by omega) (by omega) hd3, hn3.at' fun o e => kk C2 o (by omega) (by omega) e⟩
      obtain ⟨⟨qs1, f1, u1⟩, ⟨qs2, f2, u2⟩⟩ := T3
      have cc : ∀ P ps c q, P = 52 ∨ P = 59 → h₃.get? P = some (tabObj ps) → Value.ref c ∈ ps.toList → h₃.CodeRec (.ref c) q → s₄.heap.CodeRec (.ref c) q := by
        intro P ps c q hP hp hc ⟨c', oc, vs, t, e0, e1, e2, e3⟩
        cases e0
        have := nc3 P c hP ⟨ps, hp, hc⟩
        exact ⟨c, oc, vs, t, rfl, kk c oc this.1 this.2 e1, e2, e3⟩
      exact ⟨⟨qs1, ktab _ _ (.inl rfl) f1, u1.imp id fun ⟨c, a, b⟩ => ⟨c, a, cc 52 qs1 c _ (.inl rfl) f1 (by rw [a]; simp) b⟩⟩, ⟨qs2, ktab _ _ (.inr rfl) f2, u2.imp id fun ⟨c, a, b⟩ => ⟨c, a, cc 59 qs2 c _ (.inr rfl) f2 (by rw [a]; simp) b⟩⟩⟩
    by_cases hlt : j < ls.length
    · refine WS.item j _ _ _ hlt gen3 fun v s₄ hP gen4 mv => ?_
      obtain ⟨gr4, kp4, T4, nc4, hd4, hn4⟩ := moved mv
      obtain ⟨i, hi, l, t, hl, rfl⟩ := hP
      rw [passing_all, List.getElem?_range hlt] at hi
      cases hi
      have hmem : l ∈ ls := List.mem_of_getElem? hl
      have hlz : j < ls.length := hlt
      have htake : ls.take (j + 1) = ls.take j ++ [l] := by rw [List.take_add_one, hl]; rfl
      have hyl : ys.length ≤ ls.length := by
        rw [hys.length]; unfold outL; rw [List.length_map]; exact Nat.le_trans (List.length_filter_le _ _) (by rw [List.length_take]; exact Nat.min_le_right _ _)
      refine wpAny_assign_Name (wpAny_storeName_local (s := s₄) (lookup_relabel_local hx) hn4 (fun h₅ hn₅ hs₅ => ?_) (by simp [compEnvC, relabel, hkind]))
      have k5 : ∀ (b : Nat) o, b ≠ C2 → s₄.heap.get? b = some o → h₅.get? b = some o := fun b o hb e => hs₅.extBut b o hb e
      have W5 : Wd w h₅ := W.keeps fun b o e => by
        have := small (kp _ _ e)
        exact k5 b o (by omega) (kp4 b o (by rintro rfl; rw [hg1] at e; cases e) (by rintro rfl; rw [hg2] at e; cases e) (kp _ _ e))
      have ktb : ∀ {b : Nat} {o : Obj}, h₅.get? b = some o → b < h₅.objs.size := fun e => Heap.lt_size e
      have i1 := small h1
      have i2 := small h2
      have T5 : Tb h₅ := by
        obtain ⟨⟨qs1, f1, u1⟩, ⟨qs2, f2, u2⟩⟩ := T4
        have cc : ∀ c q, s₄.heap.CodeRec (.ref c) q → h₅.CodeRec (.ref c) q := by
          intro c q ⟨c', oc, vs, t, e0, e1, e2, e3⟩
          cases e0
          refine ⟨c, oc, vs, t, rfl, k5 c oc ?_ e1, e2, e3⟩
          rintro rfl
          obtain ⟨o', es, ep, x1, x2, _⟩ := hn4
          rw [e1] at x1; cases x1; rw [e2] at x2; cases x2
        exact ⟨⟨qs1, k5 _ _ (by omega) f1, u1.imp id fun ⟨c, a, b⟩ => ⟨c, a, cc _ _ b⟩⟩, ⟨qs2, k5 _ _ (by omega) f2, u2.imp id fun ⟨c, a, b⟩ => ⟨c, a, cc _ _ b⟩⟩⟩
      have nc5 : ∀ P c, P = 52 ∨ P = 59 → Cod h₅ P c → c ≠ C ∧ c ≠ I := fun P c hP hc => nc4 P c hP (hc.back T4 (fun b o hb e => k5 b o (by rcases hb with rfl | rfl <;> omega) e) hP)
      have kp5 : Kp h h₅ := fun b o q1 q2 e => by
        have := small e
        exact k5 b o (by omega) (kp4 b o q1 q2 e)
      have hd5 : h₅.get? D = some (PySem.W.listOf ys.toArray k) := k5 D _ (by omega) hd4
      -- the turn's end
      have fin : ∀ (h₇ : Heap) (tk₇ : Nat) (zs : List Value) (k' : Nat), (∀ (b : Nat) o, b ≠ 52 → b ≠ 59 → b ≠ D → h₅.get? b = some o → h₇.get? b = some o) → Tb h₇ → (∀ P c, P = 52 ∨ P = 59 → Cod h₇ P c → c ≠ C ∧ c ≠ I) →
          h₇.get? D = some (PySem.W.listOf zs.toArray k') → StrsV zs (outL (ls.take (j + 1))) →
          ∃ n', n' < ls.length - j ∧ ∃ j s₃' h₃ tk₃ ys k m, n' = ls.length - j ∧ j ≤ ls.length ∧ st s₄ h₇ tk₇ = st s₃' h₃ tk₃ ∧ GR s s₃' ∧ GenHere w A G C gn I ls.length (fun i y => ∃ l t, ls[i]? = some l ∧ y = .str (S l) t) j (st s₃' h₃ tk₃) ∧
            Kp h h₃ ∧ Tb h₃ ∧ (∀ P c, P = 52 ∨ P = 59 → Cod h₃ P c → c ≠ C ∧ c ≠ I) ∧ h₃.get? D = some (PySem.W.listOf ys.toArray k) ∧ h₃.Ns C2 m ∧ StrsV ys (outL (ls.take j)) := by
        intro h₇ tk₇ zs k' k7 T7 nc7 hd7 hzs
        refine ⟨ls.length - (j + 1), by omega, j + 1, s₄, h₇, tk₇, zs, k', _, rfl, hlt, rfl, gr4, gen_frame gen4 hcs (fun b hb o e => ?_), fun b o q1 q2 e => ?_, T7, nc7, hd7, hn₅.at' fun o e => k7 C2 o cn.1 cn.2 (by omega) e, hzs⟩
        · have := fpn b hb
          exact k7 b o this.2.2.1 this.2.2.2 this.1 (k5 b o this.2.1 e)
        · have := small e
          exact k7 b o q1 q2 (by omega) (kp5 b o q1 q2 e)
      refine wpAny_mono (htest _ s₄ h₅ _ C2 _ l t hmem ⟨W5, hn₅, fun _ _ e => e⟩ (by simp)) (fun ok s₅ hok => ?_) fun _ _ e => e
      obtain ⟨rfl, h₆, tk₆, rfl, k6⟩ := hok
      have T6 := T5.keeps k6
      have nc6 : ∀ P c, P = 52 ∨ P = 59 → Cod h₆ P c → c ≠ C ∧ c ≠ I := fun P c hP hc => nc5 P c hP (hc.back T5 (fun b o _ e => k6 b o e) hP)
      by_cases hl0 : l = []
      · rw [if_neg (by simp [hl0])]
        refine fin h₆ tk₆ ys k (fun b o _ _ _ e => k6 b o e) T6 nc6 (k6 _ _ hd5) ?_
        rw [htake, outL_snoc, if_pos hl0, List.append_nil]; exact hys
      · rw [if_pos (by simp [hl0])]
        have W6 : Wd w (Gh h₆) := W.keeps fun b o e => by
          have := small (kp _ _ e)
          have b1 : b ≠ 52 := by rintro rfl; rw [hg1] at e; cases e
          have b2 : b ≠ 59 := by rintro rfl; rw [hg2] at e; cases e
          exact gh_get b1 b2 (k6 _ _ (kp5 b o b1 b2 (kp _ _ e)))
        refine wpAny_mono (helt _ s₄ h₆ tk₆ C2 _ l t hmem W6 T6 ⟨W5.keeps k6, hn₅.keeps k6, fun _ _ e => e⟩ (by simp)) (fun y s₆ hy => ?_) fun _ _ e => e
        obtain ⟨h₇, tk₇, t', rfl, rfl, kp7, T7, nw7⟩ := hy
        have hd7 := kp7 D _ dn.1 dn.2 (k6 _ _ hd5)
        refine append_at (s := st s₄ h₇ tk₇) hd7 (fun h₈ hs₈ hd8 => ?_) (by rw [sizeLine_eq]; simp; omega)
        have k8 : ∀ (b : Nat) o, b ≠ D → h₇.get? b = some o → h₈.get? b = some o := fun b o hb e => hs₈.extBut b o hb e
        have hD6 : @LT.lt Nat _ D h₆.objs.size := Heap.lt_size (k6 _ _ hd5)
        have nc7 : ∀ P c, P = 52 ∨ P = 59 → Cod h₇ P c → c ≠ C ∧ c ≠ I := fun P c hP hc => (nw7 P c hP hc).elim (nc6 P c hP) fun q => by
          have q' : @LE.le Nat _ h₆.objs.size c := q
          exact ⟨by show @Ne Nat c C; omega, by show @Ne Nat c I; omega⟩
        have T8 : Tb h₈ := by
          obtain ⟨⟨qs1, f1, u1⟩, ⟨qs2, f2, u2⟩⟩ := T7
          have cc : ∀ c q, h₇.CodeRec (.ref c) q → h₈.CodeRec (.ref c) q := by
            intro c q ⟨c', oc, vs, t, e0, e1, e2, e3⟩
            cases e0
            refine ⟨c, oc, vs, t, rfl, k8 c oc ?_ e1, e2, e3⟩
            rintro rfl
            rw [hd7] at e1; cases e1; cases e2
          exact ⟨⟨qs1, k8 _ _ (by omega) f1, u1.imp id fun ⟨c, a, b⟩ => ⟨c, a, cc _ _ b⟩⟩, ⟨qs2, k8 _ _ (by omega) f2, u2.imp id fun ⟨c, a, b⟩ => ⟨c, a, cc _ _ b⟩⟩⟩
        refine fin h₈ tk₇ (ys ++ [.str (S (readL l)) t']) (k + 1) (fun b o q1 q2 q3 e => k8 b o q3 (kp7 b o q1 q2 (k6 _ _ e))) T8 (fun P c hP hc => nc7 P c hP (hc.back T7 (fun b o hb e => k8 b o (by rcases hb with rfl | rfl <;> omega) e) hP)) (by rw [← push_arr]; exact hd8) ?_
        rw [htake, outL_snoc, if_neg hl0]
        exact Paired.snoc hys ⟨t', rfl⟩
    · have : j = ls.length := by omega
      subst this
      refine WS.done _ _ _ gen3 fun s₄ mv => ?_
      obtain ⟨gr4, kp4, T4, nc4, hd4, hn4⟩ := moved mv
      refine ⟨m, hn4, fun h₉ hs₉ => ?_⟩
      have k9 : ∀ (b : Nat) o, b ≠ C2 → s₄.heap.get? b = some o → h₉.get? b = some o := fun b o hb e => hs₉.extBut b o hb e
      have i1 := small h1
      have i2 := small h2
      have T9 : Tb h₉ := by
        obtain ⟨⟨qs1, f1, u1⟩, ⟨qs2, f2, u2⟩⟩ := T4
        have cc : ∀ c q, s₄.heap.CodeRec (.ref c) q → h₉.CodeRec (.ref c) q := by
          intro c q ⟨c', oc, vs, t, e0, e1, e2, e3⟩
          cases e0
          refine ⟨c, oc, vs, t, rfl, k9 c oc ?_ e1, e2, e3⟩
          rintro rfl
          obtain ⟨o', es, ep, x1, x2, _⟩ := hn4
          rw [e1] at x1; cases x1; rw [e2] at x2; cases x2
        exact ⟨⟨qs1, k9 _ _ (by omega) f1, u1.imp id fun ⟨c, a, b⟩ => ⟨c, a, cc _ _ b⟩⟩, ⟨qs2, k9 _ _ (by omega) f2, u2.imp id fun ⟨c, a, b⟩ => ⟨c, a, cc _ _ b⟩⟩⟩
      rw [List.take_length] at hys
      refine H D s₄ h₉ s₄.toks ys k gr4 (fun b o q1 q2 e => ?_) T9 ?_ (k9 D _ (by omega) hd4) hys
      · have := small e
        exact k9 b o (by omega) (kp4 b o q1 q2 e)
      · exact Heap.get?_none_of_le (by show @LE.le Nat _ h.objs.size D; omega)
  exact codeAny_compStart_list (loop _ rfl) (wpAny_pyIter_gen (gen_frame gen0 hcs (h' := h₁) (tk' := tk') (fun b hb o e => old b o e)).1 (loop _ rfl))
end
end Mine
end
section
open PySem PySem.W PySem.Calls PyProof.Rows PyProof
set_option Elab.async false
set_option maxRecDepth 100000
set_option autoImplicit false
namespace Mine
open Builtin.Str
theorem lit_blanks : lit " \t" = [32, 9] := by decide +kernel
theorem stp_split (l : List Nat) : ∃ p q, l = p ++ stp l ++ q ∧ (∀ c ∈ p, c = 32 ∨ c = 9) ∧ ∀ c ∈ q, c = 32 ∨ c = 9 := by
  have e0 := stripBy_eq (S (lit " \t")).cps.contains true true (S l)
  obtain ⟨a1, a2, a3⟩ := lo_facts (S (lit " \t")).cps.contains (S l)
  obtain ⟨b1, b2, b3, b4⟩ := hi_facts (S (lit " \t")).cps.contains (S l) _ a1
  generalize stripLo (S (lit " \t")).cps.contains true (S l) = lo at *
  generalize stripHi (S (lit " \t")).cps.contains true (S l) lo = hi at *
  rw [S_length] at *
  have e : stp l = (l.take hi).drop lo := by
    unfold stp Txt.stripChars
    rw [e0]
    unfold strSub
    simp [S, List.drop_take]
  have goes : ∀ c, (S (lit " \t")).cps.contains c = true → c = 32 ∨ c = 9 := by
    intro c hc
    rw [lit_blanks] at hc
    simpa [S] using hc
  have at_ : ∀ k, (S l).cps.getD k 0 = l.getD k 0 := fun k => by simp [S]
  refine ⟨l.take lo, l.drop hi, ?_, ?_, ?_⟩
  · rw [e]
    have : (l.take lo) = (l.take hi).take lo := by rw [List.take_take, Nat.min_eq_left b1]
    rw [this, List.take_append_drop, List.take_append_drop]
  · intro c hc
    obtain ⟨k, hk, rfl⟩ := List.mem_iff_getElem.mp hc
    rw [List.length_take] at hk
    have hk1 : k < l.length := by omega
    have := goes _ (a2 k (by omega))
    rw [at_] at this
    simpa [hk1] using this
  · intro c hc
    obtain ⟨k, hk, rfl⟩ := List.mem_iff_getElem.mp hc
    simp at hk
    have := goes _ (b3 (hi + k) (by omega) (by omega))
    rw [at_] at this
    simpa [show hi + k < l.length by omega] using this
theorem stp_mem {l : List Nat} {c : Nat} (h : c ∈ stp l) : c ∈ l := by
  obtain ⟨p, q, e, _⟩ := stp_split l
  rw [e]; simp [h]
theorem go_mem : ∀ (b : Bool) (cur r : List Nat) (ps : List (List Nat)), go b cur r = some ps → ∀ l ∈ ps, ∀ c ∈ l, c ∈ cur ∨ c ∈ r := by
  intro b cur r
  induction b, cur, r using go.induct with
  | case1 cur => intro ps h; simp [go] at h
  | case2 cur => intro ps h; rw [go_f_nil] at h; cases h; intro l hl c hc; rw [List.mem_singleton.mp hl] at hc; exact .inl hc
  | case3 cur c r ih => intro ps h; rw [go_t_bs] at h; intro l hl d hd; have := ih ps h l hl d hd; simp at this ⊢; grind
  | case4 cur r ih => intro ps h; rw [go_t_q] at h; intro l hl d hd; have := ih ps h l hl d hd; simp at this ⊢; grind
  | case5 cur c r h1 h2 ih =>
    intro ps h
    by_cases hc : c = 92
    · cases r with
      | nil => rw [hc, go_t_bs1] at h; cases h
      | cons d r => exact absurd rfl (h1 d r hc)
    · rw [go_t_o _ _ _ hc h2] at h; intro l hl d hd; have := ih ps h l hl d hd; simp at this ⊢; grind
  | case6 cur r ih =>
    intro ps h
    rw [go_f_c] at h
    cases e : go false [] r with
    | none => rw [e] at h; cases h
    | some qs =>
      rw [e] at h; cases h
      intro l hl d hd
      rcases List.mem_cons.mp hl with rfl | hl
      · exact .inl hd
      · have := ih qs e l hl d hd; simp at this ⊢; grind
  | case7 cur r ih => intro ps h; rw [go_f_q] at h; intro l hl d hd; have := ih ps h l hl d hd; simp at this ⊢; grind
  | case8 cur c r h1 h2 ih => intro ps h; rw [go_f_o _ _ _ h1 h2] at h; intro l hl d hd; have := ih ps h l hl d hd; simp at this ⊢; grind
end Mine
end
section
open PySem PySem.W PySem.Calls PyProof.Rows
set_option Elab.async false
set_option maxRecDepth 100000
set_option maxHeartbeats 4000000
namespace Mine
local macro_rules | `(tactic| walk_at "n") => `(tactic| first
  | (refine' r_name ?l ?k ?n ?v ?_ ?b; (case l => k_dflt rfl); (case k => k_dflt rfl); (case n => k_dflt (first | exact Cx.ns (by assumption) | exact Ck.ns (by assumption))); (case v => k_dflt (first | rfl | assumption)); (case b => k_dflt decide))
  | (refine' r_glob ?l ?k ?g ?e ?w ?_ ?b; (case l => k_dflt rfl); (case k => k_dflt rfl); (case g => k_dflt rfl); (case e => first | exact gl_read _ | exact gl_items _ | exact gl_decoded _ | exact gl_charset _ | exact gl_dict _ | exact gl_text _ | exact gl_unquote _ | exact gl_unslash _ | exact gl_uhv _ | exact gl_plh _ | exact gl_pdh _ | exact gl_cvre _ | exact gl_pieces _ | exact gl_stretches _ | exact gl_charsets _ | assumption); (case w => first | exact Cx.wd (by assumption) | exact Ck.wd (by assumption) | assumption); (case b => k_dflt decide))
  | (refine' r_bi ?l ?k ?g ?h (gl_len _) bb_len ?n ?w ?_ ?b; (case l => k_dflt rfl); (case k => k_dflt rfl); (case g => k_dflt rfl); (case h => k_dflt rfl); (case n => k_dflt decide); (case w => first | exact Cx.wd (by assumption) | exact Ck.wd (by assumption) | assumption); (case b => k_dflt decide))
  | (refine' r_bi ?l ?k ?g ?h (gl_ord _) bb_ord ?n ?w ?_ ?b; (case l => k_dflt rfl); (case k => k_dflt rfl); (case g => k_dflt rfl); (case h => k_dflt rfl); (case n => k_dflt decide); (case w => first | exact Cx.wd (by assumption) | exact Ck.wd (by assumption) | assumption); (case b => k_dflt decide))
  | (refine' r_bi ?l ?k ?g ?h (gl_int _) bb_int ?n ?w ?_ ?b; (case l => k_dflt rfl); (case k => k_dflt rfl); (case g => k_dflt rfl); (case h => k_dflt rfl); (case n => k_dflt decide); (case w => first | exact Cx.wd (by assumption) | exact Ck.wd (by assumption) | assumption); (case b => k_dflt decide))
  | (refine' r_bi ?l ?k ?g ?h (gl_bytes _) bb_bytes ?n ?w ?_ ?b; (case l => k_dflt rfl); (case k => k_dflt rfl); (case g => k_dflt rfl); (case h => k_dflt rfl); (case n => k_dflt decide); (case w => first | exact Cx.wd (by assumption) | exact Ck.wd (by assumption) | assumption); (case b => k_dflt decide))
  | (refine' r_bi ?l ?k ?g ?h (gl_list _) bb_list ?n ?w ?_ ?b; (case l => k_dflt rfl); (case k => k_dflt rfl); (case g => k_dflt rfl); (case h => k_dflt rfl); (case n => k_dflt decide); (case w => first | exact Cx.wd (by assumption) | exact Ck.wd (by assumption) | assumption); (case b => k_dflt decide)))
local macro_rules | `(tactic| walk_at "s") => `(tactic| (with_reducible first
  | (refine' r_cons ?_)
  | (refine' r_nil ?_)
  | (refine' r_assign ?_ ?a; (case a => k_dflt rfl))
  | (refine' r_if ?_)
  | (refine' r_ret ?_)
  | (refine' r_continue ?_)
  | (refine' r_aug ?_)
  | (refine' r_store ?x ?_ ?a ?b; (case x => assumption); (case a => k_dflt rfl); (case b => k_dflt rfl); intro _ _ _)
  | ((show wpAny _ _ (eval (Expr.Name _ _) _) _ _ _); walk_at "n")
  | (refine' r_load ?l ?k ?n ?v ?_; (case l => k_dflt rfl); (case k => k_dflt rfl); (case n => k_dflt (first | exact Cx.ns (by assumption) | exact Ck.ns (by assumption))); (case v => k_dflt (first | rfl | assumption)))
  | (refine' r_int ?_; intro _ _)
  | (refine' r_str ?_; intro _ _)
  | (refine' r_bool ?_)
  | (refine' r_none ?_)
  | (refine' r_expr ?_ ?a ?b; (case a => k_dflt rfl); (case b => k_dflt rfl))
  | (refine' and_none ?_)
  | (refine' r_list0 ?x ?_; (case x => assumption); intro _ _ _ _ _)
  | (refine' gm_append ?x ?_; (case x => assumption))
  | (refine' m_append ?x ?e ?z ?_; (case x => assumption); (case e => first | assumption | exact List.forall_mem_nil _); (case z => omega); intro _ _ _)
  | (refine' e_not ?_)
  | (refine' v_str ?z ?_; (case z => (try simp only [List.length_append, List.length_cons, List.length_nil, lit_nil, lit_dq, lit_sq]); omega); intro _)
  | (refine' gm_strip ?_)
  | (refine' m_strip ?z ?_; (case z => omega); intro _ _)
  | (refine' r_binop ?_)
  | (refine' r_cmp ?_ ?a; (case a => k_dflt rfl))
  | (refine' r_ifexp ?_)
  | (refine' t_cmp ?_ ?a; (case a => k_dflt rfl))
  | (refine' t_not ?_)
  | (refine' t_and0 ?_)
  | (refine' t_or0 ?_)
  | (refine' t_and ?_)
  | (refine' t_or ?_)
  | (refine' t_name ?_)
  | (refine' t_call ?_)
  | (refine' v_bool ?_)
  | (refine' r_call ?_ ?a; (case a => k_dflt rfl))
  | (refine' r_mcall ?_ ?a; (case a => exact ⟨_, by k_dflt rfl⟩); intro _)
  | (refine' c_fn ?_ ?a ?b; (case a => k_dflt rfl); (case b => k_dflt rfl))
  | (refine' c_me ?_ ?a ?b; (case a => k_dflt rfl); (case b => k_dflt rfl))
  | (refine' c_bi0 ?_)
  | (refine' sp_more ?_ ?a; (case a => k_dflt rfl))
  | (refine' sp_none ?_)
  | (refine' c_def ?w ?k ?_ ?a ?b; (case w => first | exact Cx.wd (by assumption) | exact Ck.wd (by assumption) | assumption); (case k => first | exact kp_38 _ | exact kp_45 _ | exact kp_57 _ | exact kp_62 _ | exact kp_69 _ | exact kp_82 _ | exact kp_89 _ | exact kp_96 _ | exact kp_101 _ | exact kp_106 _ | exact kp_111 _ | exact kp_118 _); (case a => k_dflt rfl); (case b => k_dflt rfl))
  | (refine' c_def0 ?w ?k ?_; (case w => first | exact Cx.wd (by assumption) | exact Ck.wd (by assumption) | assumption); (case k => first | exact kp_82 _ | exact kp_89 _))
  | (refine' in_K ?w ?_; (case w => first | exact Cx.wd (by assumption) | exact Ck.wd (by assumption) | assumption))
  | (refine' r_sub ?_)
  | (refine' s_slice ?_)
  | (refine' s_some ?_)
  | (refine' s_none ?_)
  | (refine' r_neg ?_; intro _ _)
  | (refine' gm_starts ?_)
  | (refine' gm_ends ?_)
  | (refine' m_starts ?c ?_; (case c => first | exact lit_dq | exact lit_star))
  | (refine' m_ends ?c ?_; (case c => first | exact lit_dq | exact lit_star))
  | (refine' r_or2 ?_)
  | (refine' gm_group ?x ?_; (case x => assumption))
  | (refine' m_group ?x ?k ?z ?_; (case x => assumption); (case k => assumption); (case z => omega); intro _ _)
  | (refine' gm_decode ?_)
  | (refine' gm_sub ?w ?_; (case w => first | exact Cx.wd (by assumption) | assumption))
  | (refine' b_addI ?_; intro _ _)
  | (refine' b_subI ?_; intro _ _)
  | (refine' q_ltI ?_)
  | (refine' q_gtI ?_)
  | (refine' q_geI ?_)
  | (refine' q_eqS ?_)
  | (refine' q_neS ?_)
  | (refine' b_iaddS ?_ ?z; (case z => (try simp only [List.length_append, List.length_cons, List.length_nil, lit_nil, lit_dq, lit_sq]); omega); intro _ _)
  | (refine' b_iaddI ?_; intro _ _)
  | (refine' p_len ?_ ?z; (case z => omega); intro _ _)
  | (refine' b_addS ?_ ?z; (case z => (try simp only [List.length_append, List.length_cons, List.length_nil, lit_nil, lit_dq, lit_sq]); omega); intro _ _)
  | (refine' x_item ?a ?b ?_ ?z ?c ?d; (case a => omega); (case b => omega); (case z => omega); (case c => k_dflt rfl); (case d => intro _; k_dflt rfl); intro _ _)
  | (refine' x_slice_ss ?x ?_ ?z ?c ?d; (case x => assumption); (case z => omega); (case c => intro _; k_dflt rfl); (case d => intro _; k_dflt rfl); intro _ _ _ _)
  | (refine' x_slice_sn ?x ?_ ?z ?c ?d; (case x => assumption); (case z => omega); (case c => intro _; k_dflt rfl); (case d => intro _; k_dflt rfl); intro _ _ _ _)
  | (refine' x_slice_ns ?x ?_ ?z ?c ?d; (case x => assumption); (case z => omega); (case c => intro _; k_dflt rfl); (case d => intro _; k_dflt rfl); intro _ _ _ _)
  | refine br_true ?_
  | refine br_false ?_
  | refine br_ntrue ?_
  | refine br_nfalse ?_
  | (refine br_dec ?_ ?_ <;> intro _)
  | (refine br_ndec ?_ ?_ <;> intro _)
  | (refine br_nndec ?_ ?_ <;> intro _)
  | (refine br_nb ?_ ?_ <;> intro _)
  | (refine br_b ?_ ?_ <;> intro _)
  | refine r_and0 ?_
  | refine r_out ?_
  | refine r_outc ?_
  | refine r_back ?_))



theorem readL_short {l : List Nat} (h : l.length < 2) : readL l = l := by
  unfold readL quoted; rw [if_neg]; simp; omega
theorem readL_first {l : List Nat} (h : l.getD 0 0 ≠ 34) : readL l = l := by
  unfold readL quoted; rw [if_neg]; simp only [Bool.and_eq_true, beq_iff_eq]; exact fun q => h q.1.2
theorem readL_last {l : List Nat} (h : l.getD (l.length - 1) 0 ≠ 34) : readL l = l := by
  unfold readL quoted; rw [if_neg]; simp only [Bool.and_eq_true, beq_iff_eq]; exact fun q => h q.2
theorem readL_quoted {l : List Nat} (h : 2 ≤ l.length) (h1 : l.getD 0 0 = 34) (h2 : l.getD (l.length - 1) 0 = 34) : readL l = readGo ((l.take (l.length - 1)).drop 1) := by
  unfold readL quoted; rw [if_pos]; simp only [Bool.and_eq_true, beq_iff_eq]; exact ⟨⟨by simpa using h, h1⟩, h2⟩
theorem cut_inner {l : List Nat} (h : 1 ≤ l.length) : cut l (some 1) (some (↑l.length - 1)) = (l.take (l.length - 1)).drop 1 := by
  unfold cut
  have e1 : clipN l.length (some (↑l.length - 1)) l.length = l.length - 1 := by unfold clipN; dsimp only; split <;> omega
  have e2 : clipN l.length (some 1) 0 = 1 := by unfold clipN; dsimp only; split <;> omega
  rw [e1, e2]
def LawReadI (y : List Nat) (n : Nat) (m : Str → Option Value) (news : List (Addr × Obj)) : Prop :=
  ∃ (i : Nat) (o : List Nat) (u t1 t2 : Tok), m "inner" = some (.str (S y) u) ∧ m "at" = some (.int i t1) ∧ m "out" = some (.str (S o) t2) ∧ i ≤ y.length ∧ n = y.length - i ∧ o.length ≤ i ∧ o ++ readGo (y.drop i) = readGo y ∧ news = []

theorem law_read_spec {w : World} {A : Around} {E : Value → Shared → Prop} {s : Shared} {h : Heap} {tk : Nat} {Q : Value → Shared → Prop} {x : List Nat} {t : Tok} (W : Wd w h) (hdp : A.depth + 2 < recursionLimit) (hx : x.length ≤ 1000)
   (H : ∀ h' tk' t', h.StaysIn h' → Q (.str (S (readL x)) t') (st s h' tk')) :
   wpAny (model pg w) A (call (.ref 96) [.str (S x) t]) Q E (st s h tk) := by
  refine call_pure1 W (p := "text") (by rfl) (by rfl) (by omega) (by rfl) (by rfl) fun L h₁ tk₁ X => ?_
  have MARK : True := trivial
  repeat' (walk_at "s")
  all_goals (try simp only [lit_dq, lit_nil, List.cons.injEq, and_true, tn_0, tn_sub1] at *)
  · exact out_str (readL_short (by omega)).symm (H _ _ _ X.F.keep)
  · exact out_str (readL_first (by assumption)).symm (H _ _ _ X.F.keep)
  · exact out_str (readL_last (by assumption)).symm (H _ _ _ X.F.keep)
  · rename_i X1
    have hr : readL x = readGo (cut x (some 1) (some (↑x.length - 1))) := by
      rw [cut_inner (by omega)]; exact readL_quoted (by omega) (by assumption) (by assumption)
    obtain ⟨y, hy⟩ : ∃ y, cut x (some 1) (some (↑x.length - 1)) = y := ⟨_, rfl⟩
    rw [hy] at X1 hr
    have hyl : y.length ≤ 1000 := by rw [← hy]; exact Nat.le_trans (cut_le _ _ _) hx
    refine r_while (LawReadI y) X1 y.length ⟨0, [], _, _, _, rfl, rfl, rfl, by omega, by omega, by simp, by simp, rfl⟩ ?_
    rintro n m news h tk X ⟨i, o, u, t1, t2, hm1, hm2, hm3, hi, rfl, ho, hg, rfl⟩
    clear MARK
    have MARK : True := trivial
    repeat' (walk_at "s")
    all_goals (try simp only [lit_bs, List.cons.injEq, and_true, tn_n, tn_add1] at *)
    · refine turn_ex ⟨_, _, by assumption, y.length - (i + 2), by omega, ?_⟩; refine ⟨i + 2, _, _, _, _, hm1, rfl, rfl, by omega, rfl, by simp; omega, ?_, rfl⟩
      rw [← hg, readGo_bs2 (i := i) (by omega) (by assumption)]; simp
    · refine turn_ex ⟨_, _, by assumption, y.length - (i + 1), by omega, ?_⟩; refine ⟨i + 1, _, _, _, _, hm1, rfl, rfl, by omega, rfl, by simp; omega, ?_, rfl⟩
      rw [← hg, readGo_bs1 (i := i) (by omega)]; rw [List.drop_eq_nil_of_le (by omega)]; simp [readGo]
    · refine turn_ex ⟨_, _, by assumption, y.length - (i + 1), by omega, ?_⟩; refine ⟨i + 1, _, _, _, _, hm1, rfl, rfl, by omega, rfl, by simp; omega, ?_, rfl⟩
      rw [← hg, readGo_other (i := i) (by omega) (by assumption)]; simp
    · refine out_str ?_ (H _ _ _ X.F.keep)
      rw [hr, ← hg, List.drop_eq_nil_of_le (by omega)]; simp [readGo]
end Mine
end
section
open PySem PySem.W PySem.Calls PyProof.Rows PyProof
set_option Elab.async false
set_option maxRecDepth 100000
set_option maxHeartbeats 4000000
set_option autoImplicit false
namespace Mine
local macro_rules | `(tactic| walk_at "n") => `(tactic| first
  | (refine' r_name ?l ?k ?n ?v ?_ ?b; (case l => k_dflt rfl); (case k => k_dflt rfl); (case n => k_dflt (first | exact Cx.ns (by assumption) | exact Ck.ns (by assumption))); (case v => k_dflt (first | rfl | assumption)); (case b => k_dflt decide))
  | (refine' r_glob ?l ?k ?g ?e ?w ?_ ?b; (case l => k_dflt rfl); (case k => k_dflt rfl); (case g => k_dflt rfl); (case e => first | exact gl_read _ | exact gl_items _ | exact gl_decoded _ | exact gl_charset _ | exact gl_dict _ | exact gl_text _ | exact gl_unquote _ | exact gl_unslash _ | exact gl_uhv _ | exact gl_plh _ | exact gl_pdh _ | exact gl_cvre _ | exact gl_pieces _ | exact gl_stretches _ | exact gl_charsets _ | assumption); (case w => first | exact Cx.wd (by assumption) | exact Ck.wd (by assumption) | assumption); (case b => k_dflt decide))
  | (refine' r_bi ?l ?k ?g ?h (gl_len _) bb_len ?n ?w ?_ ?b; (case l => k_dflt rfl); (case k => k_dflt rfl); (case g => k_dflt rfl); (case h => k_dflt rfl); (case n => k_dflt decide); (case w => first | exact Cx.wd (by assumption) | exact Ck.wd (by assumption) | assumption); (case b => k_dflt decide))
  | (refine' r_bi ?l ?k ?g ?h (gl_ord _) bb_ord ?n ?w ?_ ?b; (case l => k_dflt rfl); (case k => k_dflt rfl); (case g => k_dflt rfl); (case h => k_dflt rfl); (case n => k_dflt decide); (case w => first | exact Cx.wd (by assumption) | exact Ck.wd (by assumption) | assumption); (case b => k_dflt decide))
  | (refine' r_bi ?l ?k ?g ?h (gl_int _) bb_int ?n ?w ?_ ?b; (case l => k_dflt rfl); (case k => k_dflt rfl); (case g => k_dflt rfl); (case h => k_dflt rfl); (case n => k_dflt decide); (case w => first | exact Cx.wd (by assumption) | exact Ck.wd (by assumption) | assumption); (case b => k_dflt decide))
  | (refine' r_bi ?l ?k ?g ?h (gl_bytes _) bb_bytes ?n ?w ?_ ?b; (case l => k_dflt rfl); (case k => k_dflt rfl); (case g => k_dflt rfl); (case h => k_dflt rfl); (case n => k_dflt decide); (case w => first | exact Cx.wd (by assumption) | exact Ck.wd (by assumption) | assumption); (case b => k_dflt decide))
  | (refine' r_bi ?l ?k ?g ?h (gl_list _) bb_list ?n ?w ?_ ?b; (case l => k_dflt rfl); (case k => k_dflt rfl); (case g => k_dflt rfl); (case h => k_dflt rfl); (case n => k_dflt decide); (case w => first | exact Cx.wd (by assumption) | exact Ck.wd (by assumption) | assumption); (case b => k_dflt decide)))
local macro_rules | `(tactic| walk_at "s") => `(tactic| (with_reducible first
  | (refine' r_cons ?_)
  | (refine' r_nil ?_)
  | (refine' r_assign ?_ ?a; (case a => k_dflt rfl))
  | (refine' r_if ?_)
  | (refine' r_ret ?_)
  | (refine' r_continue ?_)
  | (refine' r_aug ?_)
  | (refine' r_store ?x ?_ ?a ?b; (case x => assumption); (case a => k_dflt rfl); (case b => k_dflt rfl); intro _ _ _)
  | ((show wpAny _ _ (eval (Expr.Name _ _) _) _ _ _); walk_at "n")
  | (refine' r_load ?l ?k ?n ?v ?_; (case l => k_dflt rfl); (case k => k_dflt rfl); (case n => k_dflt (first | exact Cx.ns (by assumption) | exact Ck.ns (by assumption))); (case v => k_dflt (first | rfl | assumption)))
  | (refine' r_int ?_; intro _ _)
  | (refine' r_str ?_; intro _ _)
  | (refine' r_bool ?_)
  | (refine' r_none ?_)
  | (refine' r_expr ?_ ?a ?b; (case a => k_dflt rfl); (case b => k_dflt rfl))
  | (refine' and_none ?_)
  | (refine' r_list0 ?x ?_; (case x => assumption); intro _ _ _ _ _)
  | (refine' gm_append ?x ?_; (case x => assumption))
  | (refine' m_append ?x ?e ?z ?_; (case x => assumption); (case e => first | assumption | exact List.forall_mem_nil _); (case z => omega); intro _ _ _)
  | (refine' e_not ?_)
  | (refine' v_str ?z ?_; (case z => (try simp only [List.length_append, List.length_cons, List.length_nil, lit_nil, lit_dq, lit_sq]); omega); intro _)
  | (refine' gm_strip ?_)
  | (refine' m_strip ?z ?_; (case z => omega); intro _ _)
  | (refine' r_binop ?_)
  | (refine' r_cmp ?_ ?a; (case a => k_dflt rfl))
  | (refine' r_ifexp ?_)
  | (refine' t_cmp ?_ ?a; (case a => k_dflt rfl))
  | (refine' t_not ?_)
  | (refine' t_and0 ?_)
  | (refine' t_or0 ?_)
  | (refine' t_and ?_)
  | (refine' t_or ?_)
  | (refine' t_name ?_)
  | (refine' t_call ?_)
  | (refine' v_bool ?_)
  | (refine' r_call ?_ ?a; (case a => k_dflt rfl))
  | (refine' r_mcall ?_ ?a; (case a => exact ⟨_, by k_dflt rfl⟩); intro _)
  | (refine' c_fn ?_ ?a ?b; (case a => k_dflt rfl); (case b => k_dflt rfl))
  | (refine' c_me ?_ ?a ?b; (case a => k_dflt rfl); (case b => k_dflt rfl))
  | (refine' c_bi0 ?_)
  | (refine' sp_more ?_ ?a; (case a => k_dflt rfl))
  | (refine' sp_none ?_)
  | (refine' c_def ?w ?k ?_ ?a ?b; (case w => first | exact Cx.wd (by assumption) | exact Ck.wd (by assumption) | assumption); (case k => first | exact kp_38 _ | exact kp_45 _ | exact kp_57 _ | exact kp_62 _ | exact kp_69 _ | exact kp_82 _ | exact kp_89 _ | exact kp_96 _ | exact kp_101 _ | exact kp_106 _ | exact kp_111 _ | exact kp_118 _); (case a => k_dflt rfl); (case b => k_dflt rfl))
  | (refine' c_def0 ?w ?k ?_; (case w => first | exact Cx.wd (by assumption) | exact Ck.wd (by assumption) | assumption); (case k => first | exact kp_82 _ | exact kp_89 _))
  | (refine' in_K ?w ?_; (case w => first | exact Cx.wd (by assumption) | exact Ck.wd (by assumption) | assumption))
  | (refine' r_sub ?_)
  | (refine' s_slice ?_)
  | (refine' s_some ?_)
  | (refine' s_none ?_)
  | (refine' r_neg ?_; intro _ _)
  | (refine' gm_starts ?_)
  | (refine' gm_ends ?_)
  | (refine' m_starts ?c ?_; (case c => first | exact lit_dq | exact lit_star))
  | (refine' m_ends ?c ?_; (case c => first | exact lit_dq | exact lit_star))
  | (refine' r_or2 ?_)
  | (refine' gm_group ?x ?_; (case x => assumption))
  | (refine' m_group ?x ?k ?z ?_; (case x => assumption); (case k => assumption); (case z => omega); intro _ _)
  | (refine' gm_decode ?_)
  | (refine' gm_sub ?w ?_; (case w => first | exact Cx.wd (by assumption) | assumption))
  | (refine' b_addI ?_; intro _ _)
  | (refine' b_subI ?_; intro _ _)
  | (refine' q_ltI ?_)
  | (refine' q_gtI ?_)
  | (refine' q_geI ?_)
  | (refine' q_eqS ?_)
  | (refine' q_neS ?_)
  | (refine' b_iaddS ?_ ?z; (case z => (try simp only [List.length_append, List.length_cons, List.length_nil, lit_nil, lit_dq, lit_sq]); omega); intro _ _)
  | (refine' b_iaddI ?_; intro _ _)
  | (refine' p_len ?_ ?z; (case z => omega); intro _ _)
  | (refine' b_addS ?_ ?z; (case z => (try simp only [List.length_append, List.length_cons, List.length_nil, lit_nil, lit_dq, lit_sq]); omega); intro _ _)
  | (refine' x_item ?a ?b ?_ ?z ?c ?d; (case a => omega); (case b => omega); (case z => omega); (case c => k_dflt rfl); (case d => intro _; k_dflt rfl); intro _ _)
  | (refine' x_slice_ss ?x ?_ ?z ?c ?d; (case x => assumption); (case z => omega); (case c => intro _; k_dflt rfl); (case d => intro _; k_dflt rfl); intro _ _ _ _)
  | (refine' x_slice_sn ?x ?_ ?z ?c ?d; (case x => assumption); (case z => omega); (case c => intro _; k_dflt rfl); (case d => intro _; k_dflt rfl); intro _ _ _ _)
  | (refine' x_slice_ns ?x ?_ ?z ?c ?d; (case x => assumption); (case z => omega); (case c => intro _; k_dflt rfl); (case d => intro _; k_dflt rfl); intro _ _ _ _)
  | refine br_true ?_
  | refine br_false ?_
  | refine br_ntrue ?_
  | refine br_nfalse ?_
  | (refine br_dec ?_ ?_ <;> intro _)
  | (refine br_ndec ?_ ?_ <;> intro _)
  | (refine br_nndec ?_ ?_ <;> intro _)
  | (refine br_nb ?_ ?_ <;> intro _)
  | (refine br_b ?_ ?_ <;> intro _)
  | refine r_and0 ?_
  | refine r_out ?_
  | refine r_outc ?_
  | refine r_back ?_))


def itemsL (x : List Nat) : List (List Nat) := match go false [] x with
  | none => []
  | some cs => (cs.filter fun c => !decide (stp c = [])).map fun c => readL (stp c)

def LawItemsI (x : List Nat) (n : Nat) (m : Str → Option Value) (nw : List (Addr × Obj)) : Prop :=
  ∃ (a : Addr) (i b : Nat) (ins : Bool) (vs : List Value) (ls : List (List Nat)) (k : Nat) (t t1 t2 : Tok), m "text" = some (.str (S x) t) ∧ m "cuts" = some (.ref a) ∧ m "begin" = some (.int b t1) ∧ m "inside" = some (.bool ins) ∧ m "at" = some (.int i t2) ∧
    nw = [(a, PySem.W.listOf vs.toArray k)] ∧ StrsV vs ls ∧ n = x.length + 1 - i ∧ i ≤ x.length + 1 ∧ (ins = false → i ≤ x.length) ∧ b ≤ i ∧ ls.length ≤ b ∧ b ≤ x.length ∧
    (go ins ((x.take i).drop b) (x.drop i)).map (ls ++ ·) = go false [] x ∧ ∀ l ∈ ls, l.length ≤ 1000

theorem law_items_spec {w : World} {A : Around} {E : Value → Shared → Prop} {s : Shared} {h : Heap} {tk : Nat} {Q : Value → Shared → Prop} {x : List Nat} {t : Tok} (W : Wd w h) (hh : A.handled = none) (hdp : A.depth + 4 < recursionLimit) (hx : x.length ≤ 1000)
   (H : ∀ h' tk' a vs k, h.StaysIn h' → h.get? a = none → h'.get? a = some (PySem.W.listOf vs.toArray k) → StrsV vs (itemsL x) → Q (.ref a) (st s h' tk')) :
   wpAny (model pg w) A (call (.ref 101) [.str (S x) t]) Q E (st s h tk) := by
  refine call_pure1 W (p := "text") (by rfl) (by rfl) (by omega) (by rfl) (by rfl) fun L h₁ tk₁ X => ?_
  have MARK : True := trivial
  repeat' (walk_at "s")
  rename_i X2
  refine r_while (LawItemsI x) X2 (x.length + 1) ⟨_, 0, 0, false, [], [], 0, _, _, _, rfl, rfl, rfl, rfl, rfl, rfl, .nil, by omega, by omega, by omega, by omega, by simp, by omega, by simp, by simp⟩ ?_
  rintro n m nw h2 tk2 X ⟨a, i, b, ins, vs, ls, k, t, t1, t2, hm1, hm2, hm3, hm4, hm5, rfl, hvs, rfl, hi, hin, hbi, hlb, hbl, hgo, hll⟩
  clear X2
  have hvl := hvs.length
  clear MARK
  have MARK : True := trivial
  cases ins
  all_goals repeat' (walk_at "s")
  all_goals (try simp only [lit_bs, lit_dq, lit_comma, List.cons.injEq, and_true, tn_n, tn_add1] at *)
  · -- outside: a quote
    refine turn_ex ⟨_, _, by assumption, x.length + 1 - (i + 1), by omega, ?_⟩
    refine ⟨a, i + 1, b, true, vs, ls, k, _, _, _, hm1, hm2, hm3, rfl, rfl, rfl, hvs, rfl, by omega, by simp, by omega, hlb, hbl, ?_, hll⟩
    rw [← hgo, drop_cons (i := i) (by omega), seg_succ (by omega) hbi, ‹x.getD i 0 = 34›, go_f_q]
  · -- a comma
    refine turn_ex ⟨_, _, by assumption, x.length + 1 - (i + 1), by omega, ?_⟩
    have hc : cut x (some ↑b) (some ↑i) = (x.take i).drop b := cut_nn hbl (by omega)
    refine ⟨a, i + 1, i + 1, false, _, ls ++ [(x.take i).drop b], _, _, _, _, hm1, hm2, rfl, hm4, rfl, rfl, ?_, rfl, by omega, by intro; omega, by omega, by simp; omega, by omega, ?_, ?_⟩
    · exact Paired.snoc hvs ⟨_, by rw [hc]⟩
    · rw [← hgo, drop_cons (i := i) (by omega), ‹x.getD i 0 = 44›, go_f_c, seg_self]
      cases go false [] (x.drop (i + 1)) <;> simp
    · intro l hl
      rcases List.mem_append.mp hl with hl | hl
      · exact hll l hl
      · rw [List.mem_singleton.mp hl]; simp; omega
  · -- another sign
    refine turn_ex ⟨_, _, by assumption, x.length + 1 - (i + 1), by omega, ?_⟩
    refine ⟨a, i + 1, b, false, vs, ls, k, _, _, _, hm1, hm2, hm3, hm4, rfl, rfl, hvs, rfl, by omega, by intro; omega, by omega, hlb, hbl, ?_, hll⟩
    rw [← hgo, drop_cons (i := i) (by omega), seg_succ (by omega) hbi, go_f_o _ _ _ (by assumption) (by assumption)]
  · -- the end, outside
    rename_i X3
    have ei : i = x.length := by have := hin trivial; omega
    have hc : cut x (some ↑b) none = (x.take i).drop b := by rw [cut_n hbl, ei]; simp
    rw [hc] at X3
    have hvs' : ∀ u, StrsV (vs ++ [Value.str (S ((x.take i).drop b)) u]) (ls ++ [(x.take i).drop b]) := fun u => Paired.snoc hvs ⟨_, rfl⟩
    have hll' : ∀ l ∈ ls ++ [(x.take i).drop b], l.length ≤ 1000 := by
      intro l hl
      rcases List.mem_append.mp hl with hl | hl
      · exact hll l hl
      · rw [List.mem_singleton.mp hl]; simp; omega
    have eI : itemsL x = ((ls ++ [(x.take i).drop b]).filter fun c => !decide (stp c = [])).map fun c => readL (stp c) := by
      have : go false [] x = some (ls ++ [(x.take i).drop b]) := by rw [← hgo, List.drop_eq_nil_of_le (i := i) (by omega), go_f_nil]; rfl
      unfold itemsL; rw [this]
    refine r_comp hh rfl (by decide) rfl (by decide) rfl (by intro _; rfl) ?_
    walk_at "s"
    refine ⟨_, _, _, _, _, (fun v => match v with | .str y _ => !decide (stp y.cps.toList = []) | _ => false), (fun v y => ∀ l t, v = .str (S l) t → ∃ t', y = .str (S (readL (stp l))) t'), rfl, rfl, (X3.N _ (.head _)).1, by simp; omega, X3.wd, ?_, ?_, ?_⟩
    · intro v hv s' C g m₃ tk E' Xk hk hm
      obtain ⟨l, hl, t', rfl⟩ := (hvs' _).get hv
      have hl1 := hll' l hl
      have hl2 := stp_le l
      refine wpAny_tests_one ?_
      clear MARK
      have MARK : True := trivial
      repeat' (walk_at "s")
      exact bk_end (by assumption) (ndec (by rw [lit_nil, cps_S]))
    · intro v hv _ s' C g m₃ tk E' Xk hk hm
      obtain ⟨l, hl, t', rfl⟩ := (hvs' _).get hv
      have hl1 := hll' l hl
      have hl2 := stp_le l
      clear MARK
      have MARK : True := trivial
      repeat' (walk_at "s")
      refine law_read_spec (Ck.wd (by assumption)) (by rw [dd]; omega) (by omega) fun h' tk' t2 k' => ?_
      exact bk_end (Ck.more (by assumption) k') (fun l0 t0 e => by cases e; exact ⟨_, rfl⟩)
    · intro D h' tk' ys n' k hD hD' hP
      refine H h' tk' D ys n' (fun b o e => k b o (X3.F.keep b o e)) ?_ hD' ?_
      · cases q : h.get? D with
        | none => rfl
        | some o => rw [X3.F.keep _ _ q] at hD; cases hD
      · rw [eI]
        exact (hvs' _).comp (fun l t => ndec (by rw [cps_S])) hP
  · -- inside: a backslash
    refine turn_exc ⟨_, _, by assumption, x.length + 1 - (i + 2), by omega, ?_⟩
    refine ⟨a, i + 2, b, true, vs, ls, k, _, _, _, hm1, hm2, hm3, hm4, rfl, rfl, hvs, rfl, by omega, by simp, by omega, hlb, hbl, ?_, hll⟩
    rw [← hgo]
    by_cases hl : i + 1 < x.length
    · rw [drop_cons (i := i) (by omega), drop_cons (i := i + 1) hl, seg_succ (i := i + 1) hl (by omega), seg_succ (i := i) (by omega) hbi, ‹x.getD i 0 = 92›, go_t_bs]
      simp
    · rw [drop_cons (i := i) (by omega), List.drop_eq_nil_of_le (i := i + 1) (by omega), List.drop_eq_nil_of_le (i := i + 2) (by omega), ‹x.getD i 0 = 92›, go_t_bs1, go_t_nil]
  · -- a quote closes
    refine turn_ex ⟨_, _, by assumption, x.length + 1 - (i + 1), by omega, ?_⟩
    refine ⟨a, i + 1, b, false, vs, ls, k, _, _, _, hm1, hm2, hm3, rfl, rfl, rfl, hvs, rfl, by omega, by intro; omega, by omega, hlb, hbl, ?_, hll⟩
    rw [← hgo, drop_cons (i := i) (by omega), seg_succ (by omega) hbi, ‹x.getD i 0 = 34›, go_t_q]
  · refine turn_ex ⟨_, _, by assumption, x.length + 1 - (i + 1), by omega, ?_⟩
    refine ⟨a, i + 1, b, true, vs, ls, k, _, _, _, hm1, hm2, hm3, hm4, rfl, rfl, hvs, rfl, by omega, by simp, by omega, hlb, hbl, ?_, hll⟩
    rw [← hgo, drop_cons (i := i) (by omega), seg_succ (by omega) hbi, go_t_o _ _ _ (by assumption) (by assumption)]
  · refine turn_ex ⟨_, _, by assumption, x.length + 1 - (i + 1), by omega, ?_⟩
    refine ⟨a, i + 1, b, true, vs, ls, k, _, _, _, hm1, hm2, hm3, hm4, rfl, rfl, hvs, rfl, by omega, by simp, by omega, hlb, hbl, ?_, hll⟩
    rw [← hgo, drop_cons (i := i) (by omega), seg_succ (by omega) hbi, go_t_o _ _ _ (by assumption) (by assumption)]
  · -- the end, inside
    rename_i X3 _
    have e : itemsL x = [] := by
      have : go false [] x = none := by rw [← hgo, List.drop_eq_nil_of_le (i := i) (by omega), go_t_nil]; rfl
      unfold itemsL; rw [this]
    refine H _ _ _ [] 0 X3.F.keep ?_ (X3.N _ (.head _)).1 (by rw [e]; exact .nil)
    exact (X3.N _ (.head _)).2.2
end Mine
end
section
open PySem PySem.W PySem.Calls PyProof.Rows PyProof
set_option Elab.async false
set_option maxRecDepth 100000
set_option maxHeartbeats 4000000
set_option autoImplicit false
namespace Mine
local macro_rules | `(tactic| walk_at "n") => `(tactic| first
  | (refine' r_name ?l ?k ?n ?v ?_ ?b; (case l => k_dflt rfl); (case k => k_dflt rfl); (case n => k_dflt (first | exact Cx.ns (by assumption) | exact Ck.ns (by assumption))); (case v => k_dflt (first | rfl | assumption)); (case b => k_dflt decide))
  | (refine' r_glob ?l ?k ?g ?e ?w ?_ ?b; (case l => k_dflt rfl); (case k => k_dflt rfl); (case g => k_dflt rfl); (case e => first | exact gl_read _ | exact gl_items _ | exact gl_decoded _ | exact gl_charset _ | exact gl_dict _ | exact gl_text _ | exact gl_unquote _ | exact gl_unslash _ | exact gl_uhv _ | exact gl_plh _ | exact gl_pdh _ | exact gl_cvre _ | exact gl_pieces _ | exact gl_stretches _ | exact gl_charsets _ | assumption); (case w => first | exact Cx.wd (by assumption) | exact Ck.wd (by assumption) | assumption); (case b => k_dflt decide))
  | (refine' r_bi ?l ?k ?g ?h (gl_len _) bb_len ?n ?w ?_ ?b; (case l => k_dflt rfl); (case k => k_dflt rfl); (case g => k_dflt rfl); (case h => k_dflt rfl); (case n => k_dflt decide); (case w => first | exact Cx.wd (by assumption) | exact Ck.wd (by assumption) | assumption); (case b => k_dflt decide))
  | (refine' r_bi ?l ?k ?g ?h (gl_ord _) bb_ord ?n ?w ?_ ?b; (case l => k_dflt rfl); (case k => k_dflt rfl); (case g => k_dflt rfl); (case h => k_dflt rfl); (case n => k_dflt decide); (case w => first | exact Cx.wd (by assumption) | exact Ck.wd (by assumption) | assumption); (case b => k_dflt decide))
  | (refine' r_bi ?l ?k ?g ?h (gl_int _) bb_int ?n ?w ?_ ?b; (case l => k_dflt rfl); (case k => k_dflt rfl); (case g => k_dflt rfl); (case h => k_dflt rfl); (case n => k_dflt decide); (case w => first | exact Cx.wd (by assumption) | exact Ck.wd (by assumption) | assumption); (case b => k_dflt decide))
  | (refine' r_bi ?l ?k ?g ?h (gl_bytes _) bb_bytes ?n ?w ?_ ?b; (case l => k_dflt rfl); (case k => k_dflt rfl); (case g => k_dflt rfl); (case h => k_dflt rfl); (case n => k_dflt decide); (case w => first | exact Cx.wd (by assumption) | exact Ck.wd (by assumption) | assumption); (case b => k_dflt decide))
  | (refine' r_bi ?l ?k ?g ?h (gl_list _) bb_list ?n ?w ?_ ?b; (case l => k_dflt rfl); (case k => k_dflt rfl); (case g => k_dflt rfl); (case h => k_dflt rfl); (case n => k_dflt decide); (case w => first | exact Cx.wd (by assumption) | exact Ck.wd (by assumption) | assumption); (case b => k_dflt decide)))
local macro_rules | `(tactic| walk_at "s") => `(tactic| (with_reducible first
  | (refine' r_cons ?_)
  | (refine' r_nil ?_)
  | (refine' r_assign ?_ ?a; (case a => k_dflt rfl))
  | (refine' r_if ?_)
  | (refine' r_ret ?_)
  | (refine' r_continue ?_)
  | (refine' r_aug ?_)
  | (refine' r_store ?x ?_ ?a ?b; (case x => assumption); (case a => k_dflt rfl); (case b => k_dflt rfl); intro _ _ _)
  | ((show wpAny _ _ (eval (Expr.Name _ _) _) _ _ _); walk_at "n")
  | (refine' r_load ?l ?k ?n ?v ?_; (case l => k_dflt rfl); (case k => k_dflt rfl); (case n => k_dflt (first | exact Cx.ns (by assumption) | exact Ck.ns (by assumption))); (case v => k_dflt (first | rfl | assumption)))
  | (refine' r_int ?_; intro _ _)
  | (refine' r_str ?_; intro _ _)
  | (refine' r_bool ?_)
  | (refine' r_none ?_)
  | (refine' r_expr ?_ ?a ?b; (case a => k_dflt rfl); (case b => k_dflt rfl))
  | (refine' and_none ?_)
  | (refine' r_list0 ?x ?_; (case x => assumption); intro _ _ _ _ _)
  | (refine' gm_append ?x ?_; (case x => assumption))
  | (refine' m_append ?x ?e ?z ?_; (case x => assumption); (case e => first | assumption | exact List.forall_mem_nil _); (case z => omega); intro _ _ _)
  | (refine' e_not ?_)
  | (refine' v_str ?z ?_; (case z => (try simp only [List.length_append, List.length_cons, List.length_nil, lit_nil, lit_dq, lit_sq]); omega); intro _)
  | (refine' gm_strip ?_)
  | (refine' m_strip ?z ?_; (case z => omega); intro _ _)
  | (refine' r_binop ?_)
  | (refine' r_cmp ?_ ?a; (case a => k_dflt rfl))
  | (refine' r_ifexp ?_)
  | (refine' t_cmp ?_ ?a; (case a => k_dflt rfl))
  | (refine' t_not ?_)
  | (refine' t_and0 ?_)
  | (refine' t_or0 ?_)
  | (refine' t_and ?_)
  | (refine' t_or ?_)
  | (refine' t_name ?_)
  | (refine' t_call ?_)
  | (refine' v_bool ?_)
  | (refine' r_call ?_ ?a; (case a => k_dflt rfl))
  | (refine' r_mcall ?_ ?a; (case a => exact ⟨_, by k_dflt rfl⟩); intro _)
  | (refine' c_fn ?_ ?a ?b; (case a => k_dflt rfl); (case b => k_dflt rfl))
  | (refine' c_me ?_ ?a ?b; (case a => k_dflt rfl); (case b => k_dflt rfl))
  | (refine' c_bi0 ?_)
  | (refine' sp_more ?_ ?a; (case a => k_dflt rfl))
  | (refine' sp_none ?_)
  | (refine' c_def ?w ?k ?_ ?a ?b; (case w => first | exact Cx.wd (by assumption) | exact Ck.wd (by assumption) | assumption); (case k => first | exact kp_38 _ | exact kp_45 _ | exact kp_57 _ | exact kp_62 _ | exact kp_69 _ | exact kp_82 _ | exact kp_89 _ | exact kp_96 _ | exact kp_101 _ | exact kp_106 _ | exact kp_111 _ | exact kp_118 _); (case a => k_dflt rfl); (case b => k_dflt rfl))
  | (refine' c_def0 ?w ?k ?_; (case w => first | exact Cx.wd (by assumption) | exact Ck.wd (by assumption) | assumption); (case k => first | exact kp_82 _ | exact kp_89 _))
  | (refine' in_K ?w ?_; (case w => first | exact Cx.wd (by assumption) | exact Ck.wd (by assumption) | assumption))
  | (refine' r_sub ?_)
  | (refine' s_slice ?_)
  | (refine' s_some ?_)
  | (refine' s_none ?_)
  | (refine' r_neg ?_; intro _ _)
  | (refine' gm_starts ?_)
  | (refine' gm_ends ?_)
  | (refine' m_starts ?c ?_; (case c => first | exact lit_dq | exact lit_star))
  | (refine' m_ends ?c ?_; (case c => first | exact lit_dq | exact lit_star))
  | (refine' r_or2 ?_)
  | (refine' gm_group ?x ?_; (case x => assumption))
  | (refine' m_group ?x ?k ?z ?_; (case x => assumption); (case k => assumption); (case z => omega); intro _ _)
  | (refine' gm_decode ?_)
  | (refine' gm_sub ?w ?_; (case w => first | exact Cx.wd (by assumption) | assumption))
  | (refine' b_addI ?_; intro _ _)
  | (refine' b_subI ?_; intro _ _)
  | (refine' q_ltI ?_)
  | (refine' q_gtI ?_)
  | (refine' q_geI ?_)
  | (refine' q_eqS ?_)
  | (refine' q_neS ?_)
  | (refine' b_iaddS ?_ ?z; (case z => (try simp only [List.length_append, List.length_cons, List.length_nil, lit_nil, lit_dq, lit_sq]); omega); intro _ _)
  | (refine' b_iaddI ?_; intro _ _)
  | (refine' p_len ?_ ?z; (case z => omega); intro _ _)
  | (refine' b_addS ?_ ?z; (case z => (try simp only [List.length_append, List.length_cons, List.length_nil, lit_nil, lit_dq, lit_sq]); omega); intro _ _)
  | (refine' x_item ?a ?b ?_ ?z ?c ?d; (case a => omega); (case b => omega); (case z => omega); (case c => k_dflt rfl); (case d => intro _; k_dflt rfl); intro _ _)
  | (refine' x_slice_ss ?x ?_ ?z ?c ?d; (case x => assumption); (case z => omega); (case c => intro _; k_dflt rfl); (case d => intro _; k_dflt rfl); intro _ _ _ _)
  | (refine' x_slice_sn ?x ?_ ?z ?c ?d; (case x => assumption); (case z => omega); (case c => intro _; k_dflt rfl); (case d => intro _; k_dflt rfl); intro _ _ _ _)
  | (refine' x_slice_ns ?x ?_ ?z ?c ?d; (case x => assumption); (case z => omega); (case c => intro _; k_dflt rfl); (case d => intro _; k_dflt rfl); intro _ _ _ _)
  | refine br_true ?_
  | refine br_false ?_
  | refine br_ntrue ?_
  | refine br_nfalse ?_
  | (refine br_dec ?_ ?_ <;> intro _)
  | (refine br_ndec ?_ ?_ <;> intro _)
  | (refine br_nndec ?_ ?_ <;> intro _)
  | (refine br_nb ?_ ?_ <;> intro _)
  | (refine br_b ?_ ?_ <;> intro _)
  | refine r_and0 ?_
  | refine r_out ?_
  | refine r_outc ?_
  | refine r_back ?_))


theorem cut_in2 {l : List Nat} (h : 1 ≤ l.length) : cut l (some 1) (some (-1)) = (l.take (l.length - 1)).drop 1 := by
  unfold cut
  have e1 : clipN l.length (some (-1)) l.length = l.length - 1 := by unfold clipN; dsimp only; split <;> omega
  have e2 : clipN l.length (some 1) 0 = 1 := by unfold clipN; dsimp only; split <;> omega
  rw [e1, e2]
theorem MatU.keeps {h h' : Heap} {y : List Nat} {t : Tok} {k : Nat} {a : Addr} (M : MatU h y t k a) (q : h.StaysIn h') : MatU h' y t k a := let ⟨b, e, r⟩ := M; ⟨b, q _ _ e, q _ _ r⟩
theorem uhv_spec {w : World} {A : Around} {E : Value → Shared → Prop} {s : Shared} {h : Heap} {tk : Nat} {Q : Value → Shared → Prop} {x : List Nat} {t : Tok} (W : Wd w (Gh h)) (T : Tb h) (hdp : A.depth + 4 < recursionLimit) (hx : x.length ≤ 1000)
   (hn : ∀ c ∈ x, c ≠ 10) (H : ∀ h' tk' t', Kp h h' → Tb h' → Nw h h' → Q (.str (S (readL x)) t') (st s h' tk')) :
   wpAny (model pg w) A (call (.ref 57) [.str (S x) t]) Q E (st s h tk) := by
  refine call_imp1 W T (p := "value") (by rfl) (by rfl) (by omega) (by rfl) (by rfl) fun L h₁ tk₁ ps1 ps2 X tg ⟨e1, e2, eL⟩ => ?_
  have MARK : True := trivial
  repeat' (walk_at "s")
  · refine r_lambda X tg rfl rfl rfl ⟨rfl, rfl⟩ fun fa c' pm ctv h2 tk2 C ps1' X2 hC hnw => ?_
    clear MARK
    have MARK : True := trivial
    repeat' (walk_at "s")
    rename_i X3
    have hcl := cut_le x (some 1) (some (-1))
    have ecut : cut x (some 1) (some (-1)) = (x.take (x.length - 1)).drop 1 := cut_in2 (by omega)
    have hmem : ∀ c ∈ cut x (some 1) (some (-1)), c ≠ 10 := fun c hc => hn c (by rw [ecut] at hc; exact List.mem_of_mem_take (List.mem_of_mem_drop hc))
    obtain ⟨y, hy⟩ : ∃ y, cut x (some 1) (some (-1)) = y := ⟨_, rfl⟩
    rw [hy] at hcl ecut hmem
    rw [hy]
    refine call_sub X3.wd (X3.N _ (.head _)).1 rfl hmem (by omega) ?_ fun h4 tk4 t4 k4 => ?_
    · intro A' s' h' tk' a k Q' E' hA hst M hk1 HQ
      refine call_lam (p := "_m") (X3.wd.keeps hst) (hst _ _ (X3.N _ (.head _)).1) (hC h' (fun b o e => hst _ _ (X3.F.keep _ _ e)) fun p hp => hst _ _ (X3.N _ (.tail _ (List.mem_append_left _ hp))).1).1 (by rw [hA, dd]; omega) rfl rfl fun L h1 tk1 Y => ?_
      have M' := M.keeps Y.F.keep
      clear MARK
      have MARK : True := trivial
      repeat' (walk_at "s")
      · refine out_str ?_ (HQ _ _ _ Y.F.keep)
        rw [lit_nil]; rfl
      · exact absurd ‹[y.getD (k + 1) 0] = []› (List.cons_ne_nil _ _)
    · have X4 := X3.more k4
      refine out_str ?_ (H _ _ _ (gh_kp X4.F.keep) ?_ (Nw.of e1 e2 (X4.N (52, tabObj ps1') (.tail _ (List.mem_append_right _ (.head _)))).1 (X4.N (59, tabObj ps2) (.tail _ (List.mem_append_right _ (.tail _ (.head _))))).1 (fun c q => by rw [← eL]; exact hnw c q) fun _ q => .inl q))
      · rw [ecut]; exact (readL_quoted (by omega) (by omega) (by omega)).symm
      · exact ⟨⟨_, (X4.N (52, tabObj ps1') (.tail _ (List.mem_append_right _ (.head _)))).1, (hC h4 X4.F.keep fun p hp => (X4.N _ (.tail _ (List.mem_append_left _ hp))).1).2⟩,
          ⟨_, (X4.N (59, tabObj ps2) (.tail _ (List.mem_append_right _ (.tail _ (.head _))))).1, tg.2.imp id fun ⟨c, a, b⟩ => ⟨c, a, b.keeps X4.F.keep⟩⟩⟩
  · exact out_str (readL_last (by omega)).symm (H _ _ _ (gh_kp X.F.keep) (Cx.tb (pre := []) X (TabL.of tg)) (Nw.of e1 e2 (X.N _ (.head _)).1 (X.N _ (.tail _ (.head _))).1 (fun _ q => .inl q) fun _ q => .inl q))
  · exact out_str (readL_first (by omega)).symm (H _ _ _ (gh_kp X.F.keep) (Cx.tb (pre := []) X (TabL.of tg)) (Nw.of e1 e2 (X.N _ (.head _)).1 (X.N _ (.tail _ (.head _))).1 (fun _ q => .inl q) fun _ q => .inl q))
  · exact out_str (readL_short (by omega)).symm (H _ _ _ (gh_kp X.F.keep) (Cx.tb (pre := []) X (TabL.of tg)) (Nw.of e1 e2 (X.N _ (.head _)).1 (X.N _ (.tail _ (.head _))).1 (fun _ q => .inl q) fun _ q => .inl q))
end Mine
end
section
open PySem PySem.W PySem.Calls PyProof.Rows PyProof
set_option Elab.async false
set_option maxRecDepth 100000
set_option maxHeartbeats 4000000
set_option autoImplicit false
namespace Mine
local macro_rules | `(tactic| walk_at "n") => `(tactic| first
  | (refine' r_name ?l ?k ?n ?v ?_ ?b; (case l => k_dflt rfl); (case k => k_dflt rfl); (case n => k_dflt (first | exact Cx.ns (by assumption) | exact Ck.ns (by assumption))); (case v => k_dflt (first | rfl | assumption)); (case b => k_dflt decide))
  | (refine' r_glob ?l ?k ?g ?e ?w ?_ ?b; (case l => k_dflt rfl); (case k => k_dflt rfl); (case g => k_dflt rfl); (case e => first | exact gl_read _ | exact gl_items _ | exact gl_decoded _ | exact gl_charset _ | exact gl_dict _ | exact gl_text _ | exact gl_unquote _ | exact gl_unslash _ | exact gl_uhv _ | exact gl_plh _ | exact gl_pdh _ | exact gl_cvre _ | exact gl_pieces _ | exact gl_stretches _ | exact gl_charsets _ | assumption); (case w => first | exact Cx.wd (by assumption) | exact Ck.wd (by assumption) | assumption); (case b => k_dflt decide))
  | (refine' r_bi ?l ?k ?g ?h (gl_len _) bb_len ?n ?w ?_ ?b; (case l => k_dflt rfl); (case k => k_dflt rfl); (case g => k_dflt rfl); (case h => k_dflt rfl); (case n => k_dflt decide); (case w => first | exact Cx.wd (by assumption) | exact Ck.wd (by assumption) | assumption); (case b => k_dflt decide))
  | (refine' r_bi ?l ?k ?g ?h (gl_ord _) bb_ord ?n ?w ?_ ?b; (case l => k_dflt rfl); (case k => k_dflt rfl); (case g => k_dflt rfl); (case h => k_dflt rfl); (case n => k_dflt decide); (case w => first | exact Cx.wd (by assumption) | exact Ck.wd (by assumption) | assumption); (case b => k_dflt decide))
  | (refine' r_bi ?l ?k ?g ?h (gl_int _) bb_int ?n ?w ?_ ?b; (case l => k_dflt rfl); (case k => k_dflt rfl); (case g => k_dflt rfl); (case h => k_dflt rfl); (case n => k_dflt decide); (case w => first | exact Cx.wd (by assumption) | exact Ck.wd (by assumption) | assumption); (case b => k_dflt decide))
  | (refine' r_bi ?l ?k ?g ?h (gl_bytes _) bb_bytes ?n ?w ?_ ?b; (case l => k_dflt rfl); (case k => k_dflt rfl); (case g => k_dflt rfl); (case h => k_dflt rfl); (case n => k_dflt decide); (case w => first | exact Cx.wd (by assumption) | exact Ck.wd (by assumption) | assumption); (case b => k_dflt decide))
  | (refine' r_bi ?l ?k ?g ?h (gl_list _) bb_list ?n ?w ?_ ?b; (case l => k_dflt rfl); (case k => k_dflt rfl); (case g => k_dflt rfl); (case h => k_dflt rfl); (case n => k_dflt decide); (case w => first | exact Cx.wd (by assumption) | exact Ck.wd (by assumption) | assumption); (case b => k_dflt decide)))
local macro_rules | `(tactic| walk_at "s") => `(tactic| (with_reducible first
  | (refine' r_cons ?_)
  | (refine' r_nil ?_)
  | (refine' r_assign ?_ ?a; (case a => k_dflt rfl))
  | (refine' r_if ?_)
  | (refine' r_ret ?_)
  | (refine' r_continue ?_)
  | (refine' r_aug ?_)
  | (refine' r_store ?x ?_ ?a ?b; (case x => assumption); (case a => k_dflt rfl); (case b => k_dflt rfl); intro _ _ _)
  | ((show wpAny _ _ (eval (Expr.Name _ _) _) _ _ _); walk_at "n")
  | (refine' r_load ?l ?k ?n ?v ?_; (case l => k_dflt rfl); (case k => k_dflt rfl); (case n => k_dflt (first | exact Cx.ns (by assumption) | exact Ck.ns (by assumption))); (case v => k_dflt (first | rfl | assumption)))
  | (refine' r_int ?_; intro _ _)
  | (refine' r_str ?_; intro _ _)
  | (refine' r_bool ?_)
  | (refine' r_none ?_)
  | (refine' r_expr ?_ ?a ?b; (case a => k_dflt rfl); (case b => k_dflt rfl))
  | (refine' and_none ?_)
  | (refine' r_list0 ?x ?_; (case x => assumption); intro _ _ _ _ _)
  | (refine' gm_append ?x ?_; (case x => assumption))
  | (refine' m_append ?x ?e ?z ?_; (case x => assumption); (case e => first | assumption | exact List.forall_mem_nil _); (case z => omega); intro _ _ _)
  | (refine' e_not ?_)
  | (refine' v_str ?z ?_; (case z => (try simp only [List.length_append, List.length_cons, List.length_nil, lit_nil, lit_dq, lit_sq]); omega); intro _)
  | (refine' gm_strip ?_)
  | (refine' m_strip ?z ?_; (case z => omega); intro _ _)
  | (refine' r_binop ?_)
  | (refine' r_cmp ?_ ?a; (case a => k_dflt rfl))
  | (refine' r_ifexp ?_)
  | (refine' t_cmp ?_ ?a; (case a => k_dflt rfl))
  | (refine' t_not ?_)
  | (refine' t_and0 ?_)
  | (refine' t_or0 ?_)
  | (refine' t_and ?_)
  | (refine' t_or ?_)
  | (refine' t_name ?_)
  | (refine' t_call ?_)
  | (refine' v_bool ?_)
  | (refine' r_call ?_ ?a; (case a => k_dflt rfl))
  | (refine' r_mcall ?_ ?a; (case a => exact ⟨_, by k_dflt rfl⟩); intro _)
  | (refine' c_fn ?_ ?a ?b; (case a => k_dflt rfl); (case b => k_dflt rfl))
  | (refine' c_me ?_ ?a ?b; (case a => k_dflt rfl); (case b => k_dflt rfl))
  | (refine' c_bi0 ?_)
  | (refine' sp_more ?_ ?a; (case a => k_dflt rfl))
  | (refine' sp_none ?_)
  | (refine' c_def ?w ?k ?_ ?a ?b; (case w => first | exact Cx.wd (by assumption) | exact Ck.wd (by assumption) | assumption); (case k => first | exact kp_38 _ | exact kp_45 _ | exact kp_57 _ | exact kp_62 _ | exact kp_69 _ | exact kp_82 _ | exact kp_89 _ | exact kp_96 _ | exact kp_101 _ | exact kp_106 _ | exact kp_111 _ | exact kp_118 _); (case a => k_dflt rfl); (case b => k_dflt rfl))
  | (refine' c_def0 ?w ?k ?_; (case w => first | exact Cx.wd (by assumption) | exact Ck.wd (by assumption) | assumption); (case k => first | exact kp_82 _ | exact kp_89 _))
  | (refine' in_K ?w ?_; (case w => first | exact Cx.wd (by assumption) | exact Ck.wd (by assumption) | assumption))
  | (refine' r_sub ?_)
  | (refine' s_slice ?_)
  | (refine' s_some ?_)
  | (refine' s_none ?_)
  | (refine' r_neg ?_; intro _ _)
  | (refine' gm_starts ?_)
  | (refine' gm_ends ?_)
  | (refine' m_starts ?c ?_; (case c => first | exact lit_dq | exact lit_star))
  | (refine' m_ends ?c ?_; (case c => first | exact lit_dq | exact lit_star))
  | (refine' r_or2 ?_)
  | (refine' gm_group ?x ?_; (case x => assumption))
  | (refine' m_group ?x ?k ?z ?_; (case x => assumption); (case k => assumption); (case z => omega); intro _ _)
  | (refine' gm_decode ?_)
  | (refine' gm_sub ?w ?_; (case w => first | exact Cx.wd (by assumption) | assumption))
  | (refine' b_addI ?_; intro _ _)
  | (refine' b_subI ?_; intro _ _)
  | (refine' q_ltI ?_)
  | (refine' q_gtI ?_)
  | (refine' q_geI ?_)
  | (refine' q_eqS ?_)
  | (refine' q_neS ?_)
  | (refine' b_iaddS ?_ ?z; (case z => (try simp only [List.length_append, List.length_cons, List.length_nil, lit_nil, lit_dq, lit_sq]); omega); intro _ _)
  | (refine' b_iaddI ?_; intro _ _)
  | (refine' p_len ?_ ?z; (case z => omega); intro _ _)
  | (refine' b_addS ?_ ?z; (case z => (try simp only [List.length_append, List.length_cons, List.length_nil, lit_nil, lit_dq, lit_sq]); omega); intro _ _)
  | (refine' x_item ?a ?b ?_ ?z ?c ?d; (case a => omega); (case b => omega); (case z => omega); (case c => k_dflt rfl); (case d => intro _; k_dflt rfl); intro _ _)
  | (refine' x_slice_ss ?x ?_ ?z ?c ?d; (case x => assumption); (case z => omega); (case c => intro _; k_dflt rfl); (case d => intro _; k_dflt rfl); intro _ _ _ _)
  | (refine' x_slice_sn ?x ?_ ?z ?c ?d; (case x => assumption); (case z => omega); (case c => intro _; k_dflt rfl); (case d => intro _; k_dflt rfl); intro _ _ _ _)
  | (refine' x_slice_ns ?x ?_ ?z ?c ?d; (case x => assumption); (case z => omega); (case c => intro _; k_dflt rfl); (case d => intro _; k_dflt rfl); intro _ _ _ _)
  | refine br_true ?_
  | refine br_false ?_
  | refine br_ntrue ?_
  | refine br_nfalse ?_
  | (refine br_dec ?_ ?_ <;> intro _)
  | (refine br_ndec ?_ ?_ <;> intro _)
  | (refine br_nndec ?_ ?_ <;> intro _)
  | (refine br_nb ?_ ?_ <;> intro _)
  | (refine br_b ?_ ?_ <;> intro _)
  | refine r_and0 ?_
  | refine r_out ?_
  | refine r_outc ?_
  | refine r_back ?_))


/-- behind a backslash the next sign does not count -/
def goE (e q : Bool) (cur r : List Nat) : Option (List (List Nat)) := if e then (match r with
  | [] => none
  | c :: r' => go q (cur ++ [c]) r') else go q cur r
def PlhJ (x : List Nat) (a : Addr) (T : List (Addr × Obj)) (i : Nat) (m : Str → Option Value) (nw : List (Addr × Obj)) : Prop :=
  ∃ (cur : List Nat) (esc q : Bool) (vs : List Value) (ls : List (List Nat)) (k : Nat) (t : Tok), m "items" = some (.ref a) ∧ m "item" = some (.str (S cur) t) ∧ m "escape" = some (.bool esc) ∧ m "quote" = some (.bool q) ∧
    nw = (a, PySem.W.listOf vs.toArray k) :: T ∧ StrsV vs ls ∧ (esc = true → q = true) ∧ (goE esc q cur (x.drop i)).map (ls ++ ·) = go false [] x ∧ cur.length ≤ i ∧ ls.length ≤ i ∧ ∀ l ∈ ls, l.length ≤ 1000

theorem itemsL_outL {x : List Nat} {cs : List (List Nat)} (h : go false [] x = some cs) : itemsL x = outL (cs.map stp) := by
  unfold itemsL outL
  rw [h, List.filter_map, List.map_map]
  rfl
theorem plh_spec {w : World} {A : Around} {E : Value → Shared → Prop} {s : Shared} {h : Heap} {tk : Nat} {Q : Value → Shared → Prop} {x : List Nat} {t : Tok} (W : Wd w (Gh h)) (T : Tb h) (hh : A.handled = none) (hdp : A.depth + 10 < recursionLimit) (hx : x.length ≤ 1000)
   (hn : ∀ c ∈ x, c ≠ 10) (H : ∀ s' h' tk' a vs k, GR s s' → Kp h h' → Tb h' → h.get? a = none → h'.get? a = some (PySem.W.listOf vs.toArray k) → StrsV vs (itemsL x) → Q (.ref a) (st s' h' tk')) :
   wpAny (model pg w) A (call (.ref 62) [.str (S x) t]) Q E (st s h tk) := by
  refine call_imp1 W T (p := "value") (by rfl) (by rfl) (by omega) (by rfl) (by rfl) fun L h₁ tk₁ ps1 ps2 X tg ⟨e1, e2, eL⟩ => ?_
  have MARK : True := trivial
  repeat' (walk_at "s")
  refine r_for (g := Gh h) rfl rfl (by intro _; rfl) ?_
  walk_at "s"
  rename_i a _ _ _ hne _ _ _ _ _ _ _ _ _ _ _ _ _ X1
  refine it_str hh X1 (PlhJ x a [(52, tabObj ps1), (59, tabObj ps2)]) ⟨[], false, false, [], [], 0, _, rfl, rfl, rfl, rfl, rfl, .nil, by simp, by simp [goE], by simp, by simp, by simp⟩ ?_ ?_
  · rintro i tc I o m nw h tk hi ⟨cur, esc, q, vs, ls, k, t', hm1, hm2, hm3, hm4, rfl, hvs, heq, hgo, hcl, hll, hls⟩ hap X2
    have hne2 : ∀ p ∈ [(52, tabObj ps1), (59, tabObj ps2), (I, o)], p.1 ≠ a := by
      intro p hp
      rcases List.mem_cons.mp hp with rfl | hp
      · exact hne _ (.head _)
      · rcases List.mem_cons.mp hp with rfl | hp
        · exact hne _ (.tail _ (.head _))
        · rcases List.mem_singleton.mp hp with rfl
          exact (hap _ (.head _) _ (.head _)).symm
    simp only [List.cons_append, List.nil_append] at X2
    have hvl := hvs.length
    clear MARK
    have MARK : True := trivial
    cases esc <;> cases q
    all_goals repeat' (walk_at "s")
    all_goals (try simp only [lit_bs, lit_dq, lit_comma, lit_nil, List.cons.injEq, and_true] at *)
    · -- a comma
      refine fe_cont (nw' := [(a, _), (52, tabObj ps1), (59, tabObj ps2)]) (by assumption) rfl (apart_left hap (by rfl)) ?_
      refine ⟨[], false, false, _, ls ++ [cur], _, _, hm1, rfl, hm3, hm4, rfl, Paired.snoc hvs ⟨_, rfl⟩, by simp, ?_, by simp, by simp; omega, ?_⟩
      · rw [← hgo, drop_cons (i := i) hi, ‹x.getD i 0 = 44›]
        simp only [goE, Bool.false_eq_true, if_false]
        rw [go_f_c]
        cases go false [] (x.drop (i + 1)) <;> simp
      · intro l hl
        rcases List.mem_append.mp hl with hl | hl
        · exact hls l hl
        · rw [List.mem_singleton.mp hl]; omega
    · -- a quote opens
      refine fe_next (nw' := [(a, _), (52, tabObj ps1), (59, tabObj ps2)]) (by assumption) rfl (apart_left hap (by rfl)) ?_
      refine ⟨cur ++ [34], false, true, vs, ls, k, _, hm1, by rw [‹x.getD i 0 = 34›]; rfl, hm3, rfl, rfl, hvs, by simp, ?_, by simp; omega, by omega, hls⟩
      rw [← hgo, drop_cons (i := i) hi, ‹x.getD i 0 = 34›]
      simp only [goE, Bool.false_eq_true, if_false]
      rw [go_f_q]
    · refine fe_next (nw' := [(a, _), (52, tabObj ps1), (59, tabObj ps2)]) (by assumption) rfl (apart_left hap (by rfl)) ?_
      refine ⟨cur ++ [x.getD i 0], false, false, vs, ls, k, _, hm1, rfl, hm3, hm4, rfl, hvs, by simp, ?_, by simp; omega, by omega, hls⟩
      rw [← hgo, drop_cons (i := i) hi]
      simp only [goE, Bool.false_eq_true, if_false]
      rw [go_f_o _ _ _ (by assumption) (by assumption)]
    · -- a backslash
      refine fe_cont (nw' := [(a, _), (52, tabObj ps1), (59, tabObj ps2)]) (by assumption) rfl (apart_left hap (by rfl)) ?_
      refine ⟨cur ++ [92], true, true, vs, ls, k, _, hm1, by rw [‹x.getD i 0 = 92›]; rfl, rfl, hm4, rfl, hvs, by simp, ?_, by simp; omega, by omega, hls⟩
      rw [← hgo, drop_cons (i := i) hi, ‹x.getD i 0 = 92›]
      simp only [goE, Bool.false_eq_true, if_false, if_true]
      cases x.drop (i + 1) with
      | nil => rw [go_t_bs1]
      | cons c r => simp only []; rw [go_t_bs]; simp
    · -- a quote closes
      refine fe_cont (nw' := [(a, _), (52, tabObj ps1), (59, tabObj ps2)]) (by assumption) rfl (apart_left hap (by rfl)) ?_
      refine ⟨cur ++ [34], false, false, vs, ls, k, _, hm1, by rw [‹x.getD i 0 = 34›]; rfl, hm3, rfl, rfl, hvs, by simp, ?_, by simp; omega, by omega, hls⟩
      rw [← hgo, drop_cons (i := i) hi, ‹x.getD i 0 = 34›]
      simp only [goE, Bool.false_eq_true, if_false]
      rw [go_t_q]
    · refine fe_cont (nw' := [(a, _), (52, tabObj ps1), (59, tabObj ps2)]) (by assumption) rfl (apart_left hap (by rfl)) ?_
      refine ⟨cur ++ [x.getD i 0], false, true, vs, ls, k, _, hm1, rfl, hm3, hm4, rfl, hvs, by simp, ?_, by simp; omega, by omega, hls⟩
      rw [← hgo, drop_cons (i := i) hi]
      simp only [goE, Bool.false_eq_true, if_false]
      rw [go_t_o _ _ _ (by assumption) (by assumption)]
    · exact absurd (heq trivial) (by decide)
    · refine fe_cont (nw' := [(a, _), (52, tabObj ps1), (59, tabObj ps2)]) (by assumption) rfl (apart_left hap (by rfl)) ?_
      refine ⟨cur ++ [x.getD i 0], false, true, vs, ls, k, _, hm1, rfl, rfl, hm4, rfl, hvs, by simp, ?_, by simp; omega, by omega, hls⟩
      rw [← hgo, drop_cons (i := i) hi]
      simp only [goE, Bool.false_eq_true, if_false, if_true]
  · rintro m nw h3 tk3 ⟨cur, esc, q, vs, ls, k, t', hm1, hm2, hm3, hm4, rfl, hvs, heq, hgo, hcl, hll, hls⟩ X2
    have hvl := hvs.length
    clear MARK
    have MARK : True := trivial
    cases q
    all_goals repeat' (walk_at "s")
    · -- the list
      rename_i X3
      have hesc : esc = false := by cases esc; · rfl
                                    · exact absurd (heq rfl) (by decide)
      subst hesc
      have hgo' : go false [] x = some (ls ++ [cur]) := by
        rw [← hgo, List.drop_eq_nil_of_le (Nat.le_refl _)]
        simp only [goE, Bool.false_eq_true, if_false]
        rw [go_f_nil]; rfl
      have hvs' : StrsV (vs ++ [Value.str (S cur) t']) (ls ++ [cur]) := Paired.snoc hvs ⟨_, rfl⟩
      have hll' : ∀ l ∈ ls ++ [cur], l.length ≤ 1000 := by
        intro l hl
        rcases List.mem_append.mp hl with hl | hl
        · exact hls l hl
        · rw [List.mem_singleton.mp hl]; omega
      have hnl : ∀ l ∈ ls ++ [cur], ∀ c ∈ l, c ≠ 10 := fun l hl c hc => hn c ((go_mem _ _ _ _ hgo' l hl c hc).elim (fun q => by cases q) id)
      have n1 := X3.N (52, tabObj ps1) (.tail _ (.head _))
      have n2 := X3.N (59, tabObj ps2) (.tail _ (.tail _ (.head _)))
      refine comp_gen (ls := (ls ++ [cur]).map stp) (g := Gh h) hh (by rw [dd]; omega) X3.W X3.F.keep n1.1 n2.1 n1.2.2 n2.2.2 rfl (by decide) rfl (by decide) rfl (by intro _; rfl) (by simp; omega) ?_ ?_ ?_ ?_
      · intro Q' HQ
        have hsz : (vs ++ [Value.str (S cur) t']).toArray.size = ((ls ++ [cur]).map stp).length := by simp [hvl]
        refine r_genexp (g := Gh h) (k := k + 1) (F := fun i y => ∃ l t, ((ls ++ [cur]).map stp)[i]? = some l ∧ y = Value.str (S l) t) hh (by rw [dd]; omega) X3.W X3.F.keep n1.1 n2.1 n1.2.2 n2.2.2 tg (X3.N _ (.head _)).1 rfl ⟨rfl, rfl⟩ rfl rfl (by decide) rfl rfl rfl (by intro _; rfl) ?_ ?_ ?_
        · intro Q'' hq
          clear MARK
          have MARK : True := trivial
          repeat' (walk_at "s")
          exact hq
        · intro A' E' i v s₂ C c' m₂ hA hi Xk hm
          obtain ⟨l, t1, hl, rfl⟩ := hvs'.idx (by simpa using hi)
          have hl1 := hll' l (List.mem_of_getElem? hl)
          show wpAny _ _ _ _ _ (st s₂ s₂.heap s₂.toks)
          clear MARK
          have MARK : True := trivial
          repeat' (walk_at "s")
          exact ⟨⟨stp l, _, by rw [List.getElem?_map, hl]; rfl, rfl⟩, s₂.heap, _, rfl, fun _ _ e => e⟩
        · intro G C gn I s' h' tk' gr gen k0 T0 q1 q2 q3 q4 q5
          rw [hsz] at gen
          exact HQ G C gn I s' h' tk' gr gen k0 T0 q1 q2 q3 q4 q5
      · intro E' s' h4 tk4 C m₃ l t1 hl Xk hm
        obtain ⟨l0, hl0, rfl⟩ := List.mem_map.mp hl
        have hl1 := hll' l0 hl0
        have hl2 := stp_le l0
        refine wpAny_tests_one ?_
        clear MARK
        have MARK : True := trivial
        repeat' (walk_at "s")
        exact ⟨rfl, _, _, rfl, fun _ _ e => e⟩
      · intro E' s' h4 tk4 C m₃ l t1 hl W6 T6 Xk hm
        obtain ⟨l0, hl0, rfl⟩ := List.mem_map.mp hl
        have hl1 := hll' l0 hl0
        have hl2 := stp_le l0
        clear MARK
        have MARK : True := trivial
        repeat' (walk_at "s")
        exact uhv_spec W6 T6 (by rw [dd]; omega) (by omega) (fun c hc => hnl l0 hl0 c (stp_mem hc)) fun h5 tk5 t5 k5 T5 n5 => ⟨h5, tk5, t5, rfl, rfl, k5, T5, n5⟩
      · intro D s' h5 tk5 ys k5 gr kp T5 hD hd hys
        refine H s' h5 tk5 D ys k5 gr ((gh_kp X3.F.keep).trans kp) T5 ?_ hd (by rw [itemsL_outL hgo']; exact hys)
        cases e : h.get? D with
        | none => rfl
        | some o =>
          exfalso
          by_cases hb : D = 52 ∨ D = 59
          · rcases hb with rfl | rfl
            · rw [n1.1] at hD; cases hD
            · rw [n2.1] at hD; cases hD
          · have := gh_kp X3.F.keep D o (fun q => hb (.inl q)) (fun q => hb (.inr q)) e
            rw [hD] at this; cases this
    · -- a quote stays open
      rename_i X3 _
      have e : itemsL x = [] := by
        have : go false [] x = none := by
          rw [← hgo, List.drop_eq_nil_of_le (Nat.le_refl _)]
          cases esc <;> simp [goE, go_t_nil]
        unfold itemsL; rw [this]
      have nD := X3.N _ (.head _)
      refine H s _ _ _ [] 0 (GR.refl s) (gh_kp X3.F.keep) (Cx.tb (pre := [_, _]) X3 (TabL.of tg)) ?_ nD.1 (by rw [e]; exact .nil)
      cases q : h.get? _ with
      | none => rfl
      | some o =>
        have n1 := X3.N (52, tabObj ps1) (.tail _ (.tail _ (.head _)))
        have n2 := X3.N (59, tabObj ps2) (.tail _ (.tail _ (.tail _ (.head _))))
        exfalso
        have := nD.2.2
        rw [gh_get (by rintro rfl; rw [n1.1] at nD; cases nD.1) (by rintro rfl; rw [n2.1] at nD; cases nD.1) q] at this
        cases this
end Mine
end
section
open PySem PySem.W PySem.Calls PyProof.Rows PyProof
set_option Elab.async false
set_option maxRecDepth 100000
set_option maxHeartbeats 2000000
set_option autoImplicit false
namespace Mine
open PySem.Sre
/-- the code of _charset_value_re -/
def cV : Array Nat := #[14, 4, 0, 3, 4294967295, 17, 0, 24, 18, 0, 4294967295, 13, 13, 9, 0, 27770, 1073741824, 1342177281, 0, 0, 0, 0, 8, 4, 0, 1, 17, 1, 16, 39, 24, 18, 0, 4294967295, 13, 13, 9, 0, 27770, 1073741824, 1342177281, 0, 0, 0, 0, 8, 4, 0, 1, 16, 39, 17, 2, 24, 18, 1, 4294967295, 13, 13, 9, 0, 27898, 1073741824, 1342177281, 0, 0, 0, 0, 8, 4, 0, 1, 17, 3, 6, 5, 1]
def bitOf (base c : Nat) : Bool := c < 256 && (cV.getD (base + c / 32) 0).testBit (c % 32)
/-- the signs of the set that begins at base -/
def tokAt (base c : Nat) : Bool := bitOf base c || isWord c
/-- n steps at the most -/
def Stp (K : Nat) (m m' : M) : Prop := ∃ n, n ≤ K ∧ M.runFor n m = m'
theorem Stp.refl (m : M) : Stp 0 m m := ⟨0, Nat.le_refl _, rfl⟩
theorem Stp.trans {a b : Nat} {m₁ m₂ m₃ : M} (x : Stp a m₁ m₂) (y : Stp b m₂ m₃) : Stp (a + b) m₁ m₃ := by
  obtain ⟨n, hn, e⟩ := x
  obtain ⟨k, hk, e'⟩ := y
  exact ⟨n + k, by omega, by rw [runFor_add, e, e']⟩
theorem Stp.one {m m' : M} (ho : m.outcome = none) (h : m.step = m') : Stp 1 m m' := ⟨1, Nat.le_refl _, by
  unfold M.runFor; rw [ho]; simp only [Option.isSome_none, Bool.false_eq_true, if_false]; rw [h]; rfl⟩
theorem Stp.mono {a b : Nat} {m m' : M} (x : Stp a m m') (h : a ≤ b) : Stp b m m' := let ⟨n, hn, e⟩ := x; ⟨n, by omega, e⟩
section
variable {x : Array Nat} {lim : Nat}
abbrev vM (x : Array Nat) (lim : Nat) (pc pos handed : Nat) (om : Bool) (marks : Array (Option Nat)) (lm li : Int) (frames : List Sre.Frame) (wt : Nat) (ans : Option Bool) (seen : Sre.Seen) (oc : Option Sre.Outcome) : M :=
  { code := cV, text := x, lim, start := 0, pc, pos, handed, outermost := om, marks, lastmark := lm, lastindex := li, frames, weight := wt, answer := ans, seen, outcome := oc }
theorem cV_size : cV.size = 77 := by decide +kernel
theorem cat4 (c : Nat) : category 4 c = .ok (isWord c) := by
  unfold category
  show Except.map _ (Except.ok (isWord c)) = _
  cases isWord c <;> rfl
theorem set_at (base c fuel : Nat) (seen : Sre.Seen) (h1 : cV.getD (base - 1) 0 = 9) (h2 : cV.getD (base + 8) 0 = 8) (h3 : cV.getD (base + 9) 0 = 4) (h4 : cV.getD (base + 10) 0 = 0) (hb : 1 ≤ base) :
    ∃ seen', inSet cV c (fuel + 3) (base - 1) true seen = .ok (tokAt base c, seen') := by
  have e1 : base - 1 + 9 = base + 8 := by omega
  have e2 : base - 1 + (1 + c / 32) = base + c / 32 := by omega
  unfold inSet
  simp only [Nat.add_zero, h1, show ops[9]? = some .CHARSET from rfl, e2, e1]
  by_cases hb : bitOf base c = true
  · have hb' := hb
    unfold bitOf at hb
    rw [if_pos hb]
    exact ⟨_, by rw [tokAt, hb']; rfl⟩
  · have hb' := hb
    unfold bitOf at hb
    rw [if_neg hb]
    unfold inSet
    simp only [Nat.add_zero, h2, show ops[8]? = some .CATEGORY from rfl, show base + 8 + 1 = base + 9 from rfl, h3, cat4]
    have ht : tokAt base c = isWord c := by unfold tokAt; simp [Bool.not_eq_true] at hb'; rw [hb']; rfl
    rw [ht]
    cases hw : isWord c
    · simp only [bind, Except.bind, Bool.false_eq_true, if_false]
      unfold inSet
      simp only [Nat.add_zero, show base + 8 + 2 = base + 10 from rfl, h4, show ops[0]? = some .FAILURE from rfl]
      exact ⟨_, rfl⟩
    · exact ⟨_, rfl⟩
theorem acc_at (i c : Nat) (seen : Sre.Seen) (h : i = 11 ∨ i = 34 ∨ i = 57) : ∃ seen', accepts cV i c seen = .ok (tokAt (i + 3) c, seen') := by
  have hs : cV.size = 74 + 3 := by decide +kernel
  rcases h with rfl | rfl | rfl
  · unfold accepts; rw [hs]; exact set_at 14 c 74 seen (by decide +kernel) (by decide +kernel) (by decide +kernel) (by decide +kernel) (by decide)
  · unfold accepts; rw [hs]; exact set_at 37 c 74 seen (by decide +kernel) (by decide +kernel) (by decide +kernel) (by decide +kernel) (by decide)
  · unfold accepts; rw [hs]; exact set_at 60 c 74 seen (by decide +kernel) (by decide +kernel) (by decide +kernel) (by decide +kernel) (by decide)
/-- how far the set goes -/
def runN (P : Nat → Bool) (x : Array Nat) : Nat → Nat → Nat
  | 0, _ => 0
  | n + 1, p => if P (x.getD p 0) then runN P x n (p + 1) + 1 else 0
theorem run_at (i : Nat) (h : i = 11 ∨ i = 34 ∨ i = 57) (x : Array Nat) : ∀ (n p found : Nat) (seen : Sre.Seen), ∃ seen', Sre.run cV x i n p found seen = .ok (found + runN (tokAt (i + 3)) x n p, seen')
  | 0, p, found, seen => ⟨_, rfl⟩
  | n + 1, p, found, seen => by
    unfold Sre.run runN
    obtain ⟨s1, e1⟩ := acc_at i (x.getD p 0) seen h
    rw [e1]
    cases hp : tokAt (i + 3) (x.getD p 0)
    · exact ⟨_, rfl⟩
    · obtain ⟨s2, e2⟩ := run_at i h x n (p + 1) (found + 1) s1
      refine ⟨s2, ?_⟩
      show Sre.run cV x i n (p + 1) (found + 1) s1 = _
      rw [e2]; simp; omega
theorem runN_le (P : Nat → Bool) (x : Array Nat) : ∀ n p, runN P x n p ≤ n
  | 0, _ => Nat.le_refl _
  | n + 1, p => by unfold runN; split; · have := runN_le P x n (p + 1); omega
                   · omega
theorem runN_yes (P : Nat → Bool) (x : Array Nat) : ∀ n p j, j < runN P x n p → P (x.getD (p + j) 0) = true
  | 0, p, j, h => by simp [runN] at h
  | n + 1, p, j, h => by
    unfold runN at h
    split at h
    · rename_i hp
      cases j with
      | zero => exact hp
      | succ j => have := runN_yes P x n (p + 1) j (by omega); rwa [show p + 1 + j = p + (j + 1) by omega] at this
    · omega
theorem runN_no (P : Nat → Bool) (x : Array Nat) : ∀ n p, runN P x n p < n → P (x.getD (p + runN P x n p) 0) = false
  | 0, p, h => by omega
  | n + 1, p, h => by
    unfold runN at h ⊢
    split at h
    · rename_i hp
      rw [if_pos hp]
      have := runN_no P x n (p + 1) (by omega)
      rwa [show p + 1 + runN P x n (p + 1) = p + (runN P x n (p + 1) + 1) by omega] at this
    · rename_i hp
      rw [if_neg hp]
      simpa using hp
theorem v_lit {pc s h wt : Nat} {om : Bool} {marks lm li fr seen} (hpc : pc = 28 ∨ pc = 49) (hs : s < lim) (hx : x.getD s 0 = 39) :
    ∃ seen', (vM x lim pc s h om marks lm li fr wt none seen none).step = vM x lim (pc + 2) (s + 1) h om marks lm li fr wt none seen' none := by
  rcases hpc with rfl | rfl
  all_goals
    refine ⟨?_, ?_⟩
    rotate_left
    · unfold M.step M.exec
      simp only [Option.isSome_none, Bool.false_eq_true, if_false, M.word]
      simp [cV, ops, accepts, hx, itemWidth, Nat.not_le.mpr hs]
      rfl
theorem v_lit_no {pc s h wt : Nat} {om : Bool} {marks lm li fr seen} (hpc : pc = 28 ∨ pc = 49) (hs : lim ≤ s ∨ x.getD s 0 ≠ 39) :
    ∃ seen', (vM x lim pc s h om marks lm li fr wt none seen none).step = vM x lim pc s h om marks lm li fr wt (some false) seen' none := by
  rcases hpc with rfl | rfl
  all_goals
    refine ⟨?_, ?_⟩
    rotate_left
    · unfold M.step M.exec
      simp only [Option.isSome_none, Bool.false_eq_true, if_false, M.word]
      by_cases h0 : lim ≤ s
      · simp [cV, ops, h0, M.say]
        rfl
      · have hx : (x[s]?.getD 0 == 39) = false := by simpa using hs.resolve_left h0
        simp [cV, ops, accepts, hx, h0, M.say]
theorem v_mark {pc s h wt : Nat} {om : Bool} {marks lm li fr seen} (hpc : pc = 5 ∨ pc = 26 ∨ pc = 51 ∨ pc = 72) :
    ∃ seen' marks' lm' li', (vM x lim pc s h om marks lm li fr wt none seen none).step = vM x lim (pc + 2) s h om marks' lm' li' fr wt none seen' none := by
  rcases hpc with rfl | rfl | rfl | rfl <;> exact ⟨_, _, _, _, rfl⟩
theorem v_at_no {s h wt : Nat} {om : Bool} {marks lm li fr seen} (hs : s ≠ lim) (hx : x.getD s 0 ≠ 10) :
    ∃ seen', (vM x lim 74 s h om marks lm li fr wt none seen none).step = vM x lim 74 s h om marks lm li fr wt (some false) seen' none := by
  refine ⟨?_, ?_⟩
  rotate_left
  · unfold M.step M.exec
    simp only [Option.isSome_none, Bool.false_eq_true, if_false, M.word]
    have hx2 : (x[s]?.getD 0 == 10) = false := by simpa using hx
    simp [cV, ops, M.isAt, hs, hx2, M.say]
    rfl
theorem v_at {h wt : Nat} {om : Bool} {marks lm li fr seen} :
    ∃ seen', (vM x lim 74 lim h om marks lm li fr wt none seen none).step = vM x lim 76 lim h om marks lm li fr wt none seen' none := by
  refine ⟨?_, ?_⟩
  rotate_left
  · unfold M.step M.exec
    simp only [Option.isSome_none, Bool.false_eq_true, if_false, M.word]
    simp [cV, ops, M.isAt]
    rfl
theorem v_succ {s h wt : Nat} {om : Bool} {marks lm li fr seen} :
    ∃ seen', (vM x lim 76 s h om marks lm li fr wt none seen none).step = vM x lim 76 s s om marks lm li fr wt (some true) seen' none := by
  refine ⟨?_, ?_⟩
  rotate_left
  · unfold M.step M.exec
    simp only [Option.isSome_none, Bool.false_eq_true, if_false, M.word]
    simp [cV, ops, M.say]
    rfl
abbrev gbF (pc pos : Nat) (om : Bool) (c lm li : Int) : Sre.Frame := { wait := .giveBack, pc, pos, outermost := om, count := c, kept := { lastmark := lm, lastindex := li, whole := false, marks := #[] } }
/-- the sets' places and least counts -/
def leastOf (pc : Nat) : Nat := if pc = 53 then 1 else 0
theorem v_rep {pc s h wt : Nat} {om : Bool} {marks lm li fr seen} (hpc : pc = 7 ∨ pc = 30 ∨ pc = 53) (hs : s ≤ lim) (hz : lim ≤ 1000) (hw : wt ≤ 100) (hl : leastOf pc ≤ runN (tokAt (pc + 7)) x (lim - s) s) :
    ∃ seen', (vM x lim pc s h om marks lm li fr wt none seen none).step = vM x lim (pc + 19) (s + runN (tokAt (pc + 7)) x (lim - s) s) (s + runN (tokAt (pc + 7)) x (lim - s) s) om marks lm li
      (gbF pc (s + runN (tokAt (pc + 7)) x (lim - s) s) om (runN (tokAt (pc + 7)) x (lim - s) s) lm li :: fr) (wt + 1) none seen' none := by
  have hle := runN_le (tokAt (pc + 7)) x (lim - s) s
  have hmin : min 4294967295 ((lim : Int) - s).toNat = lim - s := by omega
  have hw2 : ¬ wt + 1 + 0 > 16777216 := by omega
  have go : ∀ (lst : Nat), (pc = 7 ∨ pc = 30 ∨ pc = 53) → cV.getD (pc + 0) 0 = 24 → cV.getD (pc + 1) 0 = 18 → cV.getD (pc + 2) 0 = lst → cV.getD (pc + 3) 0 = 4294967295 → cV.getD (pc + 4) 0 = 13 → lst ≤ runN (tokAt (pc + 7)) x (lim - s) s →
      ∃ seen', (vM x lim pc s h om marks lm li fr wt none seen none).step = vM x lim (pc + 19) (s + runN (tokAt (pc + 7)) x (lim - s) s) (s + runN (tokAt (pc + 7)) x (lim - s) s) om marks lm li
      (gbF pc (s + runN (tokAt (pc + 7)) x (lim - s) s) om (runN (tokAt (pc + 7)) x (lim - s) s) lm li :: fr) (wt + 1) none seen' none := by
    intro lst hpc w0 w1 w2 w3 w4 hl
    obtain ⟨s', e⟩ := run_at (pc + 4) (by omega) x (lim - s) s 0 (Sre.Seen.add (Sre.Seen.add seen 24) 13)
    rw [show pc + 4 + 3 = pc + 7 from rfl, Nat.zero_add] at e
    refine ⟨s', ?_⟩
    have hsz : pc < cV.size := by rw [cV_size]; omega
    unfold M.step M.exec
    simp only [Option.isSome_none, Bool.false_eq_true, if_false, M.word, w0, w1, w2, w3, w4, show ops[24]? = some Op.REPEAT_ONE from rfl, hsz, if_true]
    rw [if_neg (by omega), hmin, e]
    simp only []
    rw [if_neg (by omega)]
    unfold M.afterRun M.attempt
    simp only [M.word, w1, M.keep, M.frame, Option.isSome_none, Bool.false_eq_true, if_false]
    rw [if_neg (by exact hw2)]
    simp only [Nat.add_zero, show pc + 1 + 18 = pc + 19 from rfl]
    rfl
  rcases hpc with rfl | rfl | rfl
  · exact go 0 (by decide) (by decide +kernel) (by decide +kernel) (by decide +kernel) (by decide +kernel) (by decide +kernel) (Nat.zero_le _)
  · exact go 0 (by decide) (by decide +kernel) (by decide +kernel) (by decide +kernel) (by decide +kernel) (by decide +kernel) (Nat.zero_le _)
  · exact go 1 (by decide) (by decide +kernel) (by decide +kernel) (by decide +kernel) (by decide +kernel) (by decide +kernel) hl
theorem v_rep_few {s h wt : Nat} {om : Bool} {marks lm li fr seen} (hs : s ≤ lim) (hz : lim ≤ 1000) (hl : runN (tokAt 60) x (lim - s) s = 0) :
    ∃ seen', (vM x lim 53 s h om marks lm li fr wt none seen none).step = vM x lim 53 s h om marks lm li fr wt (some false) seen' none := by
  have hmin : min 4294967295 ((lim : Int) - s).toNat = lim - s := by omega
  have w0 : cV.getD (53 + 0) 0 = 24 := by decide +kernel
  have w2 : cV.getD (53 + 2) 0 = 1 := by decide +kernel
  have w3 : cV.getD (53 + 3) 0 = 4294967295 := by decide +kernel
  have w4 : cV.getD (53 + 4) 0 = 13 := by decide +kernel
  have hsz : 53 < cV.size := by rw [cV_size]; omega
  obtain ⟨s', e⟩ := run_at 57 (by omega) x (lim - s) s 0 (Sre.Seen.add (Sre.Seen.add seen 24) 13)
  rw [Nat.zero_add, hl] at e
  by_cases hr : ((1 : Nat) : Int) > (lim : Int) - s
  · refine ⟨Sre.Seen.add seen 24, ?_⟩
    unfold M.step M.exec
    simp only [Option.isSome_none, Bool.false_eq_true, if_false, M.word, w0, w2, show ops[24]? = some Op.REPEAT_ONE from rfl, hsz, if_true]
    rw [if_pos hr]
    rfl
  · refine ⟨s', ?_⟩
    unfold M.step M.exec
    simp only [Option.isSome_none, Bool.false_eq_true, if_false, M.word, w0, w2, w3, w4, show ops[24]? = some Op.REPEAT_ONE from rfl, hsz, if_true]
    rw [if_neg hr, hmin, e]
    rfl
theorem gb_yes {pc s pc0 s0 h wt : Nat} {om om0 : Bool} {marks lm li fr seen c lm' li'} :
    (vM x lim pc0 s0 h om0 marks lm li (gbF pc s om c lm' li' :: fr) (wt + 1) (some true) seen none).step = vM x lim pc s h om marks lm li fr wt (some true) seen none := rfl
theorem gb_end {pc s pc0 s0 h wt : Nat} {om om0 : Bool} {marks lm li fr seen lm' li'} {c : Int} (hpc : pc = 7 ∨ pc = 30 ∨ pc = 53) (hc : c - 1 < (leastOf pc : Int)) :
    (vM x lim pc0 s0 h om0 marks lm li (gbF pc s om c lm' li' :: fr) (wt + 1) (some false) seen none).step = vM x lim pc s h om marks lm' li' fr wt (some false) seen none := by
  have w2 : cV.getD (pc + 2) 0 = leastOf pc := by rcases hpc with rfl | rfl | rfl <;> decide +kernel
  unfold M.step M.resume
  simp only [Option.isSome_none, Bool.false_eq_true, if_false, M.word, w2]
  rw [if_pos hc]
  rfl
theorem gb_more {pc s pc0 s0 h wt : Nat} {om om0 : Bool} {marks lm li fr seen lm' li'} {c : Int} (hpc : pc = 7 ∨ pc = 30 ∨ pc = 53) (hc : ¬ c - 1 < (leastOf pc : Int)) (hw : wt ≤ 100) :
    (vM x lim pc0 s0 h om0 marks lm li (gbF pc s om c lm' li' :: fr) (wt + 1) (some false) seen none).step = vM x lim (pc + 19) (s - 1) (s - 1) om marks lm' li' (gbF pc (s - 1) om (c - 1) lm' li' :: fr) (wt + 1) none seen none := by
  have w2 : cV.getD (pc + 2) 0 = leastOf pc := by rcases hpc with rfl | rfl | rfl <;> decide +kernel
  have w1 : cV.getD (pc + 1) 0 = 18 := by rcases hpc with rfl | rfl | rfl <;> decide +kernel
  have hw2 : ¬ wt + 1 + 0 > 16777216 := by omega
  unfold M.step M.resume
  simp only [Option.isSome_none, Bool.false_eq_true, if_false, M.word, w2]
  rw [if_neg hc]
  unfold M.afterRun M.attempt
  simp only [M.word, w1, M.putBack, M.frame, Bool.false_eq_true, if_false]
  rw [if_neg (by exact hw2)]
  rfl
theorem v_fin {pc s h wt : Nat} {om : Bool} {marks lm li seen b} :
    (vM x lim pc s h om marks lm li [] wt (some b) seen none).step = vM x lim pc s h om marks lm li [] wt (some b) seen (some (if b then .matched else .failed)) := rfl
/-- at any weight below W -/
def FailsW (W K : Nat) (x : Array Nat) (lim pc pos : Nat) : Prop := ∀ h om marks lm li fr wt seen, wt ≤ W → ∃ pc' pos' h' om' marks' lm' li' seen',
  Stp K (vM x lim pc pos h om marks lm li fr wt none seen none) (vM x lim pc' pos' h' om' marks' lm' li' fr wt (some false) seen' none)
theorem lit_fails {W pc s : Nat} (hpc : pc = 28 ∨ pc = 49) (hs : lim ≤ s ∨ x.getD s 0 ≠ 39) : FailsW W 1 x lim pc s := fun h om marks lm li fr wt seen _ => by
  obtain ⟨s', e⟩ := v_lit_no (h := h) (wt := wt) (om := om) (marks := marks) (lm := lm) (li := li) (fr := fr) (seen := seen) hpc hs
  exact ⟨_, _, _, _, _, _, _, _, Stp.one rfl e⟩
theorem lit_then {W K pc s : Nat} (hpc : pc = 28 ∨ pc = 49) (hs : s < lim) (hx : x.getD s 0 = 39) (H : FailsW W K x lim (pc + 2) (s + 1)) : FailsW W (1 + K) x lim pc s := fun h om marks lm li fr wt seen hw => by
  obtain ⟨s', e⟩ := v_lit (h := h) (wt := wt) (om := om) (marks := marks) (lm := lm) (li := li) (fr := fr) (seen := seen) hpc hs hx
  obtain ⟨a, b, c, d, f, i, j, k, t⟩ := H h om marks lm li fr wt s' hw
  exact ⟨a, b, c, d, f, i, j, k, (Stp.one rfl e).trans t⟩
theorem mark_then {W K pc s : Nat} (hpc : pc = 5 ∨ pc = 26 ∨ pc = 51 ∨ pc = 72) (H : FailsW W K x lim (pc + 2) s) : FailsW W (1 + K) x lim pc s := fun h om marks lm li fr wt seen hw => by
  obtain ⟨s', m1, m2, m3, e⟩ := v_mark (s := s) (h := h) (wt := wt) (om := om) (marks := marks) (lm := lm) (li := li) (fr := fr) (seen := seen) (x := x) (lim := lim) hpc
  obtain ⟨a, b, c, d, f, i, j, k, t⟩ := H h om m1 m2 m3 fr wt s' hw
  exact ⟨a, b, c, d, f, i, j, k, (Stp.one rfl e).trans t⟩
theorem at_fails {W s : Nat} (hs : s ≠ lim) (hx : x.getD s 0 ≠ 10) : FailsW W 1 x lim 74 s := fun h om marks lm li fr wt seen _ => by
  obtain ⟨s', e⟩ := v_at_no (h := h) (wt := wt) (om := om) (marks := marks) (lm := lm) (li := li) (fr := fr) (seen := seen) hs hx
  exact ⟨_, _, _, _, _, _, _, _, Stp.one rfl e⟩
theorem few_fails {W s : Nat} (hs : s ≤ lim) (hz : lim ≤ 1000) (hl : runN (tokAt 60) x (lim - s) s = 0) : FailsW W 1 x lim 53 s := fun h om marks lm li fr wt seen _ => by
  obtain ⟨s', e⟩ := v_rep_few (h := h) (wt := wt) (om := om) (marks := marks) (lm := lm) (li := li) (fr := fr) (seen := seen) hs hz hl
  exact ⟨_, _, _, _, _, _, _, _, Stp.one rfl e⟩
theorem back_fails {W K pc s : Nat} (hpc : pc = 7 ∨ pc = 30 ∨ pc = 53) (hW : W ≤ 50) : ∀ (c : Nat), leastOf pc ≤ c → (∀ j, leastOf pc ≤ j → j ≤ c → FailsW (W + 1) K x lim (pc + 19) (s + j)) →
    ∀ h om marks lm li fr wt seen om' lm' li', wt ≤ W → ∃ pc' pos' h' om'' marks' lm'' li'' seen',
      Stp ((K + 1) * (c + 1)) (vM x lim (pc + 19) (s + c) h om marks lm li (gbF pc (s + c) om' c lm' li' :: fr) (wt + 1) none seen none) (vM x lim pc' pos' h' om'' marks' lm'' li'' fr wt (some false) seen' none) := by
  intro c
  induction c with
  | zero =>
    intro hc H h om marks lm li fr wt seen om' lm' li' hw
    obtain ⟨a, b, c, d, f, i, j, k, t⟩ := H 0 hc (Nat.le_refl _) h om marks lm li (gbF pc (s + 0) om' (0 : Nat) lm' li' :: fr) (wt + 1) seen (by omega)
    exact ⟨_, _, _, _, _, _, _, _, (t.trans (Stp.one rfl (gb_end hpc (by omega)))).mono (by omega)⟩
  | succ c ih =>
    intro hc H h om marks lm li fr wt seen om' lm' li' hw
    obtain ⟨a, b, c', d, f, i, j, k, t⟩ := H (c + 1) hc (Nat.le_refl _) h om marks lm li (gbF pc (s + (c + 1)) om' (c + 1 : Nat) lm' li' :: fr) (wt + 1) seen (by omega)
    by_cases hl : (((c + 1 : Nat) : Int)) - 1 < (leastOf pc : Int)
    · refine ⟨_, _, _, _, _, _, _, _, (t.trans (Stp.one rfl (gb_end hpc hl))).mono ?_⟩
      have : (K + 1) * (c + 1 + 1) = (K + 1) * (c + 1) + (K + 1) := by rw [Nat.mul_add (K + 1) (c + 1) 1, Nat.mul_one]
      omega
    · obtain ⟨a2, b2, c2, d2, f2, i2, j2, k2, t2⟩ := ih (by omega) (fun j h1 h2 => H j h1 (by omega)) (s + c) om' f lm' li' fr wt k om' lm' li' hw
      have e := gb_more (x := x) (lim := lim) (pc := pc) (s := s + (c + 1)) (pc0 := a) (s0 := b) (h := c') (wt := wt) (om := om') (om0 := d) (marks := f) (lm := i) (li := j) (fr := fr) (seen := k) (lm' := lm') (li' := li') hpc hl (by omega)
      rw [show s + (c + 1) - 1 = s + c by omega, show ((c + 1 : Nat) : Int) - 1 = (c : Int) by omega] at e
      refine ⟨_, _, _, _, _, _, _, _, ((t.trans (Stp.one rfl e)).trans t2).mono ?_⟩
      have : (K + 1) * (c + 1 + 1) = (K + 1) * (c + 1) + (K + 1) := by rw [Nat.mul_add (K + 1) (c + 1) 1, Nat.mul_one]
      omega
theorem rep_fails {W K pc s : Nat} (hpc : pc = 7 ∨ pc = 30 ∨ pc = 53) (hW : W ≤ 50) (hs : s ≤ lim) (hz : lim ≤ 1000) (hl : leastOf pc ≤ runN (tokAt (pc + 7)) x (lim - s) s)
    (H : ∀ j, leastOf pc ≤ j → j ≤ runN (tokAt (pc + 7)) x (lim - s) s → FailsW (W + 1) K x lim (pc + 19) (s + j)) : FailsW W ((K + 1) * 1001 + 1) x lim pc s := fun h om marks lm li fr wt seen hw => by
  obtain ⟨s', e⟩ := v_rep (h := h) (wt := wt) (om := om) (marks := marks) (lm := lm) (li := li) (fr := fr) (seen := seen) hpc hs hz (by omega) hl
  obtain ⟨a, b, c, d, f, i, j, k, t⟩ := back_fails hpc hW _ hl H (s + runN (tokAt (pc + 7)) x (lim - s) s) om marks lm li fr wt s' om lm li hw
  refine ⟨a, b, c, d, f, i, j, k, ((Stp.one rfl e).trans t).mono ?_⟩
  have h1 := runN_le (tokAt (pc + 7)) x (lim - s) s
  have h2 : (K + 1) * (runN (tokAt (pc + 7)) x (lim - s) s + 1) ≤ (K + 1) * 1001 := Nat.mul_le_mul_left _ (by omega)
  omega
theorem runN_eq (P : Nat → Bool) (x : Array Nat) : ∀ (n p a : Nat), a ≤ n → (∀ j, j < a → P (x.getD (p + j) 0) = true) → (a = n ∨ P (x.getD (p + a) 0) = false) → runN P x n p = a
  | 0, p, a, h, _, _ => by have : a = 0 := by omega
                           subst this; rfl
  | n + 1, p, 0, h, _, hn => by
    unfold runN
    rcases hn with hn | hn
    · omega
    · rw [Nat.add_zero] at hn; rw [hn]; rfl
  | n + 1, p, a + 1, h, hy, hn => by
    unfold runN
    rw [if_pos (by have := hy 0 (by omega); simpa using this)]
    rw [runN_eq P x n (p + 1) a (by omega) (fun j hj => by have := hy (j + 1) (by omega); rwa [show p + 1 + j = p + (j + 1) by omega]) (by
      rcases hn with hn | hn
      · left; omega
      · right; rwa [show p + 1 + a = p + (a + 1) by omega])]
theorem tok37 (c : Nat) : tokAt 37 c = tokAt 14 c := by
  unfold tokAt bitOf
  congr 1
  by_cases h : c < 256
  · have : c / 32 < 8 := by omega
    have key : ∀ k, k < 8 → cV.getD (37 + k) 0 = cV.getD (14 + k) 0 := by decide +kernel
    rw [key _ this]
  · simp [h]
theorem tok_sq : tokAt 14 39 = false := by decide +kernel
/-- the two quotes' places, and what stands about them -/
structure Cond (x : Array Nat) (lim a b : Nat) : Prop where
  ab : a < b
  bl : b + 1 < lim
  xa : x.getD a 0 = 39
  xb : x.getD b 0 = 39
  t1 : ∀ j, j < a → tokAt 14 (x.getD j 0) = true
  t2 : ∀ j, a < j → j < b → tokAt 14 (x.getD j 0) = true
  t3 : ∀ j, b < j → j < lim → tokAt 60 (x.getD j 0) = true
structure HitV (m' : M) (lim a b : Nat) : Prop where
  o : m'.outcome = some .matched
  st : m'.start = 0
  h : m'.handed = lim
  mks : m'.marks = #[some 0, some a, some (b + 1), some lim]
  lm : m'.lastmark = 3
  li : m'.lastindex = 2
theorem v_mark0 {s h wt : Nat} {om : Bool} {a b c d li fr seen} : ∃ seen', (vM x lim 5 s h om #[a, b, c, d] (-1) li fr wt none seen none).step = vM x lim 7 s h om #[some s, b, c, d] 0 li fr wt none seen' none := ⟨_, rfl⟩
theorem v_mark1 {s h wt : Nat} {om : Bool} {a b c d li fr seen} : ∃ seen', (vM x lim 26 s h om #[a, b, c, d] 0 li fr wt none seen none).step = vM x lim 28 s h om #[a, some s, c, d] 1 1 fr wt none seen' none := by
  refine ⟨seen.add 17, ?_⟩
  unfold M.step M.exec
  simp [cV, ops, M.word, M.mark]
  try decide
theorem v_mark2 {s h wt : Nat} {om : Bool} {a b c d li fr seen} : ∃ seen', (vM x lim 51 s h om #[a, b, c, d] 1 li fr wt none seen none).step = vM x lim 53 s h om #[a, b, some s, d] 2 li fr wt none seen' none := by
  refine ⟨seen.add 17, ?_⟩
  unfold M.step M.exec
  simp [cV, ops, M.word, M.mark]
  try decide
theorem v_mark3 {s h wt : Nat} {om : Bool} {a b c d li fr seen} : ∃ seen', (vM x lim 72 s h om #[a, b, c, d] 2 li fr wt none seen none).step = vM x lim 74 s h om #[a, b, c, some s] 3 2 fr wt none seen' none := by
  refine ⟨seen.add 17, ?_⟩
  unfold M.step M.exec
  simp [cV, ops, M.word, M.mark]
  try decide
theorem Ends.of {n : Nat} {m m₁ m' : M} (x : Stp n m m₁) (y : Ends 1 m₁ m') : Ends (n + 1) m m' := by
  obtain ⟨k, hk, e⟩ := x
  refine Ends.more (n := k + 1) ⟨?_, y.2⟩ (by omega)
  rw [runFor_add, e]; exact y.1
theorem v_hit {a b : Nat} (C : Cond x lim a b) (hz : lim ≤ 1000) (seen) : ∃ m', Ends 40 (vM x lim 5 0 0 true #[none, none, none, none] (-1) (-1) [] 0 none seen none) m' ∧ HitV m' lim a b := by
  have hab := C.ab
  have hbl := C.bl
  have r1 : runN (tokAt (7 + 7)) x (lim - 0) 0 = a := runN_eq _ _ _ _ _ (by omega) (fun j hj => by rw [Nat.zero_add]; exact C.t1 j hj) (.inr (by rw [Nat.zero_add, C.xa]; exact tok_sq))
  have r2 : runN (tokAt (30 + 7)) x (lim - (a + 1)) (a + 1) = b - (a + 1) := runN_eq _ _ _ _ _ (by omega) (fun j hj => by rw [show (30 + 7) = 37 from rfl, tok37]; exact C.t2 _ (by omega) (by omega))
    (.inr (by rw [show a + 1 + (b - (a + 1)) = b by omega, C.xb, show (30 + 7) = 37 from rfl, tok37]; exact tok_sq))
  have r3 : runN (tokAt (53 + 7)) x (lim - (b + 1)) (b + 1) = lim - (b + 1) := runN_eq _ _ _ _ _ (by omega) (fun j hj => C.t3 _ (by omega) (by omega)) (.inl rfl)
  obtain ⟨s1, e1⟩ := v_mark0 (x := x) (lim := lim) (s := 0) (h := 0) (wt := 0) (om := true) (a := none) (b := none) (c := none) (d := none) (li := -1) (fr := []) (seen := seen)
  obtain ⟨s2, e2⟩ := v_rep (x := x) (lim := lim) (pc := 7) (s := 0) (h := 0) (wt := 0) (om := true) (marks := #[some 0, none, none, none]) (lm := 0) (li := -1) (fr := []) (seen := s1) (.inl rfl) (by omega) hz (by omega) (Nat.zero_le _)
  rw [r1] at e2
  obtain ⟨s3, e3⟩ := v_mark1 (x := x) (lim := lim) (s := 0 + a) (h := 0 + a) (wt := 0 + 1) (om := true) (a := some 0) (b := none) (c := none) (d := none) (li := -1) (fr := [gbF 7 (0 + a) true a 0 (-1)]) (seen := s2)
  obtain ⟨s4, e4⟩ := v_lit (x := x) (lim := lim) (pc := 28) (s := 0 + a) (h := 0 + a) (wt := 0 + 1) (om := true) (marks := #[some 0, some (0 + a), none, none]) (lm := 1) (li := 1) (fr := [gbF 7 (0 + a) true a 0 (-1)]) (seen := s3) (.inl rfl) (by omega) (by rw [Nat.zero_add]; exact C.xa)
  obtain ⟨s5, e5⟩ := v_rep (x := x) (lim := lim) (pc := 30) (s := 0 + a + 1) (h := 0 + a) (wt := 0 + 1) (om := true) (marks := #[some 0, some (0 + a), none, none]) (lm := 1) (li := 1) (fr := [gbF 7 (0 + a) true a 0 (-1)]) (seen := s4) (.inr (.inl rfl)) (by omega) hz (by omega) (Nat.zero_le _)
  simp only [Nat.zero_add] at e3 e4 e5 e2
  rw [r2, show a + 1 + (b - (a + 1)) = b by omega] at e5
  obtain ⟨s6, e6⟩ := v_lit (x := x) (lim := lim) (pc := 49) (s := b) (h := b) (wt := 1 + 1) (om := true) (marks := #[some 0, some a, none, none]) (lm := 1) (li := 1) (fr := [gbF 30 b true (b - (a + 1) : Nat) 1 1, gbF 7 a true a 0 (-1)]) (seen := s5) (.inr rfl) (by omega) C.xb
  obtain ⟨s7, e7⟩ := v_mark2 (x := x) (lim := lim) (s := b + 1) (h := b) (wt := 1 + 1) (om := true) (a := some 0) (b := some a) (c := none) (d := none) (li := 1) (fr := [gbF 30 b true (b - (a + 1) : Nat) 1 1, gbF 7 a true a 0 (-1)]) (seen := s6)
  obtain ⟨s8, e8⟩ := v_rep (x := x) (lim := lim) (pc := 53) (s := b + 1) (h := b) (wt := 1 + 1) (om := true) (marks := #[some 0, some a, some (b + 1), none]) (lm := 2) (li := 1) (fr := [gbF 30 b true (b - (a + 1) : Nat) 1 1, gbF 7 a true a 0 (-1)]) (seen := s7) (.inr (.inr rfl)) (by omega) hz (by omega) (by rw [r3]; show 1 ≤ _; omega)
  rw [r3, show b + 1 + (lim - (b + 1)) = lim by omega] at e8
  obtain ⟨s9, e9⟩ := v_mark3 (x := x) (lim := lim) (s := lim) (h := lim) (wt := 1 + 1 + 1) (om := true) (a := some 0) (b := some a) (c := some (b + 1)) (d := none) (li := 1) (fr := [gbF 53 lim true (lim - (b + 1) : Nat) 2 1, gbF 30 b true (b - (a + 1) : Nat) 1 1, gbF 7 a true a 0 (-1)]) (seen := s8)
  obtain ⟨s10, e10⟩ := v_at (x := x) (lim := lim) (h := lim) (wt := 1 + 1 + 1) (om := true) (marks := #[some 0, some a, some (b + 1), some lim]) (lm := 3) (li := 2) (fr := [gbF 53 lim true (lim - (b + 1) : Nat) 2 1, gbF 30 b true (b - (a + 1) : Nat) 1 1, gbF 7 a true a 0 (-1)]) (seen := s9)
  obtain ⟨s11, e11⟩ := v_succ (x := x) (lim := lim) (s := lim) (h := lim) (wt := 1 + 1 + 1) (om := true) (marks := #[some 0, some a, some (b + 1), some lim]) (lm := 3) (li := 2) (fr := [gbF 53 lim true (lim - (b + 1) : Nat) 2 1, gbF 30 b true (b - (a + 1) : Nat) 1 1, gbF 7 a true a 0 (-1)]) (seen := s10)
  refine ⟨_, (Ends.of ((((((((((((((Stp.one rfl e1).trans (Stp.one rfl e2)).trans (Stp.one rfl e3)).trans (Stp.one rfl e4)).trans (Stp.one rfl e5)).trans (Stp.one rfl e6)).trans (Stp.one rfl e7)).trans (Stp.one rfl e8)).trans (Stp.one rfl e9)).trans (Stp.one rfl e10)).trans (Stp.one rfl e11)).trans (Stp.one rfl gb_yes)).trans (Stp.one rfl gb_yes)).trans (Stp.one rfl gb_yes))
    (Ends.step v_fin ⟨rfl, rfl⟩ rfl)).more (by omega), ⟨rfl, rfl, rfl, rfl, rfl, rfl⟩⟩
theorem big_fails {W K K' pc s : Nat} (H : FailsW W K x lim pc s) (hK : K ≤ K') : FailsW W K' x lim pc s := fun h om marks lm li fr wt seen hw => by
  obtain ⟨a, b, c, d, f, i, j, k, t⟩ := H h om marks lm li fr wt seen hw
  exact ⟨a, b, c, d, f, i, j, k, t.mono hK⟩
theorem lit_out {W pc s K : Nat} (hpc : pc = 28 ∨ pc = 49) (hK : 1 ≤ K) (hs : ¬ (s < lim ∧ x.getD s 0 = 39)) : FailsW W K x lim pc s :=
  big_fails (lit_fails hpc (by
    by_cases hl : lim ≤ s
    · exact .inl hl
    · exact .inr fun q => hs ⟨by omega, q⟩)) hK
theorem v_miss (hz : lim ≤ 1000) (hn : ∀ j, j < lim → x.getD j 0 ≠ 10) (h : ∀ a b, ¬ Cond x lim a b) : FailsW 0 10000000000 x lim 5 0 := by
  have n1 := runN_le (tokAt 14) x (lim - 0) 0
  refine big_fails (mark_then (K := 9000000000) (.inl rfl) (big_fails (rep_fails (K := 4000000) (.inl rfl) (by omega) (Nat.zero_le _) hz (Nat.zero_le _) fun j _ hj => ?_) (by omega))) (by omega)
  rw [show 0 + j = j from Nat.zero_add j]
  refine big_fails (mark_then (K := 3900000) (.inr (.inl rfl)) ?_) (by omega)
  have t1 : ∀ i, i < j → tokAt 14 (x.getD i 0) = true := fun i hi => by have := runN_yes (tokAt 14) x (lim - 0) 0 i (Nat.lt_of_lt_of_le hi hj); rwa [Nat.zero_add] at this
  by_cases hq : j < lim ∧ x.getD j 0 = 39
  · refine big_fails (lit_then (K := 3800000) (.inl rfl) hq.1 hq.2 ?_) (by omega)
    refine big_fails (rep_fails (K := 3700) (.inr (.inl rfl)) (by omega) (by omega) hz (Nat.zero_le _) fun j2 _ hj2 => ?_) (by omega)
    have t2 : ∀ i, i < j2 → tokAt 14 (x.getD (j + 1 + i) 0) = true := fun i hi => by have := runN_yes (tokAt 37) x (lim - (j + 1)) (j + 1) i (Nat.lt_of_lt_of_le hi hj2); rwa [tok37] at this
    by_cases hq2 : j + 1 + j2 < lim ∧ x.getD (j + 1 + j2) 0 = 39
    · refine big_fails (lit_then (K := 3600) (.inr rfl) hq2.1 hq2.2 ?_) (by omega)
      refine big_fails (mark_then (K := 3500) (.inr (.inr (.inl rfl))) ?_) (by omega)
      by_cases h0 : runN (tokAt 60) x (lim - (j + 1 + j2 + 1)) (j + 1 + j2 + 1) = 0
      · exact big_fails (few_fails (by omega) hz h0) (by omega)
      · refine big_fails (rep_fails (K := 2) (.inr (.inr rfl)) (by omega) (by omega) hz (by show 1 ≤ _; exact Nat.pos_of_ne_zero h0) fun j3 h3 hj3 => ?_) (by omega)
        refine mark_then (K := 1) (.inr (.inr (.inr rfl))) ?_
        have h3' : 1 ≤ j3 := h3
        have n3 := runN_le (tokAt 60) x (lim - (j + 1 + j2 + 1)) (j + 1 + j2 + 1)
        have hj3' : j3 ≤ runN (tokAt 60) x (lim - (j + 1 + j2 + 1)) (j + 1 + j2 + 1) := hj3
        have t3 : ∀ i, i < j3 → tokAt 60 (x.getD (j + 1 + j2 + 1 + i) 0) = true := fun i hi => runN_yes _ _ _ _ _ (Nat.lt_of_lt_of_le hi hj3)
        by_cases hend : j + 1 + j2 + 1 + j3 = lim
        · exfalso
          refine h j (j + 1 + j2) ⟨by omega, by omega, hq.2, hq2.2, t1, fun i h1 h2 => ?_, fun i h1 h2 => ?_⟩
          · have := t2 (i - (j + 1)) (by omega); rwa [show j + 1 + (i - (j + 1)) = i by omega] at this
          · have := t3 (i - (j + 1 + j2 + 1)) (by omega); rwa [show j + 1 + j2 + 1 + (i - (j + 1 + j2 + 1)) = i by omega] at this
        · exact at_fails hend (hn _ (by omega))
    · exact lit_out (.inr rfl) (by omega) hq2
  · exact lit_out (.inl rfl) (by omega) hq
theorem v_match {lim : Nat} (hz : lim ≤ 1000) (hn : ∀ j, j < lim → x.getD j 0 ≠ 10) :
    (∃ a b m', Cond x lim a b ∧ Ends 1000000000000 (forMatch cV x 2 0 lim false false) m' ∧ HitV m' lim a b) ∨ ((∀ a b, ¬ Cond x lim a b) ∧ ∃ m', Ends 1000000000000 (forMatch cV x 2 0 lim false false) m' ∧ m'.outcome = some .failed) := by
  have start : ¬ lim < 3 → forMatch cV x 2 0 lim false false = vM x lim 5 0 0 true #[none, none, none, none] (-1) (-1) [] 0 none (Sre.Seen.add {} 14) none := by
    intro h
    simp only [forMatch]
    rw [if_neg (by simp; intro _; show 3 ≤ lim; omega)]
    rfl
  by_cases hc : ∃ a b, Cond x lim a b
  · obtain ⟨a, b, C⟩ := hc
    obtain ⟨m', E, H⟩ := v_hit C hz (Sre.Seen.add {} 14)
    refine .inl ⟨a, b, m', C, ?_, H⟩
    rw [start (by have := C.ab; have := C.bl; omega)]
    exact E.more (by omega)
  · have hc' : ∀ a b, ¬ Cond x lim a b := fun a b q => hc ⟨a, b, q⟩
    refine .inr ⟨hc', ?_⟩
    by_cases h : lim < 3
    · refine ⟨_, (Ends.step (m₁ := { forMatch cV x 2 0 lim false false with outcome := some .failed }) ?_ ⟨rfl, rfl⟩ ?_ : Ends 1 _ _).more (by omega), rfl⟩
      · simp only [forMatch]; rw [if_pos (by simp; exact ⟨by show (3 : Nat) ≠ 0; omega, by show lim < 3; omega⟩)]; rfl
      · simp only [forMatch]; rw [if_pos (by simp; exact ⟨by show (3 : Nat) ≠ 0; omega, by show lim < 3; omega⟩)]; rfl
    · rw [start h]
      obtain ⟨a, b, c, d, f, i, j, k, t⟩ := v_miss hz hn hc' 0 true #[none, none, none, none] (-1) (-1) [] 0 (Sre.Seen.add {} 14) (Nat.le_refl _)
      exact ⟨_, (Ends.of t (Ends.step v_fin ⟨rfl, rfl⟩ rfl)).more (by omega), rfl⟩
end
end Mine
end
section
open PySem PySem.W PySem.Calls PyProof.Rows PyProof
set_option Elab.async false
set_option maxRecDepth 100000
set_option maxHeartbeats 2000000
set_option autoImplicit false
namespace Mine
open PySem.Builtin PySem.Builtin.Re
section
variable {w : World} {A : Around} {E : Value → Shared → Prop} {s : Shared} {h : Heap} {tk : Nat}
theorem cV_is : Array.map (fun (x : Int) => x.toNat) (Array.map reRawOf ((some #[Value.int 14 0, Value.int 4 0, Value.int 0 0, Value.int 3 0, Value.int 4294967295 0, Value.int 17 0, Value.int 0 0, Value.int 24 0, Value.int 18 0, Value.int 0 0, Value.int 4294967295 0, Value.int 13 0,
    Value.int 13 0, Value.int 9 0, Value.int 0 0, Value.int 27770 0, Value.int 1073741824 0, Value.int 1342177281 0, Value.int 0 0, Value.int 0 0, Value.int 0 0, Value.int 0 0, Value.int 8 0,
    Value.int 4 0, Value.int 0 0, Value.int 1 0, Value.int 17 0, Value.int 1 0, Value.int 16 0, Value.int 39 0, Value.int 24 0, Value.int 18 0, Value.int 0 0, Value.int 4294967295 0, Value.int 13 0,
    Value.int 13 0, Value.int 9 0, Value.int 0 0, Value.int 27770 0, Value.int 1073741824 0, Value.int 1342177281 0, Value.int 0 0, Value.int 0 0, Value.int 0 0, Value.int 0 0, Value.int 8 0,
    Value.int 4 0, Value.int 0 0, Value.int 1 0, Value.int 16 0, Value.int 39 0, Value.int 17 0, Value.int 2 0, Value.int 24 0, Value.int 18 0, Value.int 1 0, Value.int 4294967295 0, Value.int 13 0,
    Value.int 13 0, Value.int 9 0, Value.int 0 0, Value.int 27898 0, Value.int 1073741824 0, Value.int 1342177281 0, Value.int 0 0, Value.int 0 0, Value.int 0 0, Value.int 0 0, Value.int 8 0,
    Value.int 4 0, Value.int 0 0, Value.int 1 0, Value.int 17 0, Value.int 3 0, Value.int 6 0, Value.int 5 0, Value.int 1 0]).getD #[])) = cV := by decide +kernel
def MatB (h : Heap) (y : List Nat) (t : Tok) (p q : Nat) (a b : Addr) : Prop := h.get? a = some { cls := .type "re.Match", data := .fields #[.str (S y) t, .ref 74, rawInt 0, rawInt y.length, rawInt 2, .ref b] } ∧
  h.get? b = some { cls := .type "tuple", data := .seq #[rawInt 0, rawInt y.length, rawInt 0, rawInt p, rawInt (q + 1), rawInt y.length] }
def MatV (h : Heap) (y : List Nat) (t : Tok) (p q : Nat) (a : Addr) : Prop := ∃ b, MatB h y t p q a b
theorem newMatch_V {y : List Nat} {t : Tok} {p q : Nat} {m : Sre.M} (hq : q + 1 < y.length) (hm : HitV m y.length p q) {Q : Value → Shared → Prop}
    (H : ∀ a b h', h.StaysIn h' → h.get? a = none → h.get? b = none → MatB h' y t p q a b → Q (.ref a) (st s h' tk)) :
    wpAny (model pg w) A (reNewMatch (.ref 74) (.str (S y) t) 2 0 y.length m) Q E (st s h tk) := by
  unfold reNewMatch
  obtain ⟨h1, h2, h3, h4, h5, h6⟩ := hm
  rw [h2, h3, h4, h5, h6]
  simp only [List.range, List.range.loop, List.flatMap_cons, List.flatMap_nil, List.any_cons, List.any_nil]
  rw [if_neg (by simp; omega)]
  refine wpAny_bind (wpAny_newTuple ?_ (by show 6 ≤ sizeLine; decide))
  refine wpAny_newObj_type ?_
  refine H _ h.objs.size _ (fun b o e => Heap.get?_push_of_some _ (Heap.get?_push_of_some _ e)) ?_ (Heap.get?_none_of_le (Nat.le_refl _)) ⟨Heap.get?_push_size _ rfl, Heap.get?_push_of_some _ (Heap.get?_push_size _ rfl)⟩
  exact Heap.get?_none_of_le (by rw [Heap.size_push]; exact Nat.le_succ _)
theorem call_match {y : List Nat} {t : Tok} {Q : Value → Shared → Prop} (W : Wd w h) (hz : y.length ≤ 1000) (hn : ∀ c ∈ y, c ≠ 10)
    (H1 : ∀ p q a b h' tk', Cond y.toArray y.length p q → h.StaysIn h' → h.get? a = none → h.get? b = none → MatB h' y t p q a b → Q (.ref a) (st s h' tk')) (H2 : (∀ p q, ¬ Cond y.toArray y.length p q) → ∀ tk', Q .none (st s h tk')) :
    wpAny (model pg w) A (call (.builtin "re.Pattern.match") [.ref 74, .str (S y) t]) Q E (st s h tk) := by
  refine wpAny_call_entry slot_pat_match ⟨_, W.K 74 _ rfl, rfl⟩ entry_pat_match ?_ (args_pat_match _ _)
  unfold Builtin.«re.Pattern.match» reTarget
  refine wpAny_bind ?_
  refine wpAny_bind (wpAny_of_eq (a := [some (.str (S y) t), none, none]) (by rfl) ?_)
  dsimp only
  refine wpAny_bind (wpAny_pure (wpAny_bind (wpAny_pure ?_)))
  refine wpAny_bind (wpAny_fieldsOf (s := st s h tk) (o := ⟨.type "re.Pattern", none, .fields _, _⟩) (W.K 74 _ rfl) rfl ?_)
  refine wpAny_bind (wpAny_of_eq (a := (y.toArray, 0)) (by rfl) ?_)
  dsimp only
  rw [if_neg (by decide), if_neg (by decide)]
  refine wpAny_bind (wpAny_of_eq (a := ()) (by rfl) ?_)
  refine wpAny_bind (wpAny_bind (wpAny_seqItems (s := st s h tk) (W.K 73 _ rfl) rfl ?_))
  refine wpAny_pure (wpAny_pure ?_)
  show wpAny _ _ (reAnswer ⟨.ref 74, .str (S y) t, Array.map (fun (x : Int) => x.toNat) (Array.map reRawOf _), y.toArray, 0, 2, min (Int.toNat 0) y.length, min (Int.toNat (2 ^ 63 - 1)) y.length⟩ _) _ _ _
  have e1 : min (Int.toNat 0) y.length = 0 := by simp
  have e2 : min (Int.toNat (2 ^ 63 - 1)) y.length = y.length := by simp; omega
  rw [e1, e2]
  show wpAny _ _ (reAnswer ⟨.ref 74, .str (S y) t, Array.map (fun (x : Int) => x.toNat) (Array.map reRawOf _), y.toArray, 0, 2, 0, y.length⟩ (Sre.forMatch (Array.map (fun (x : Int) => x.toNat) (Array.map reRawOf _)) y.toArray 2 (min (Int.toNat 0) y.length) (min (Int.toNat (2 ^ 63 - 1)) y.length) false false)) _ _ _
  rw [e1, e2, cV_is]
  unfold reAnswer
  dsimp only
  have hn' : ∀ j, j < y.length → y.toArray.getD j 0 ≠ 10 := fun j hj => by
    have := hn y[j] (List.getElem_mem hj)
    simpa [hj] using this
  rcases v_match (x := y.toArray) hz hn' with ⟨p, q, m', C, En, Hv⟩ | ⟨hno, m', En, ho⟩
  · refine wpAny_bind (reRun_some En (by omega) Hv.o ?_)
    refine wpAny_bind (newMatch_V C.bl Hv fun a b h' k hnone hnb M => ?_)
    exact wpAny_pure ⟨_, rfl, H1 p q a b h' tk C k hnone hnb M⟩
  · refine wpAny_bind (reRun_none En (by omega) ho ?_)
    exact wpAny_pure ⟨_, rfl, H2 hno tk⟩
theorem gm_match {pl} {Q : Value × List Value → Shared → Prop} (W : Wd w h) (H : Q (.builtin "re.Pattern.match", [.ref 74]) (st s h tk)) : wpAny (model pg w) A (getMethod (.ref 74) (Str.ofString "match") pl) Q E (st s h tk) :=
  getMethod_builtin (s := st s h tk) (T := "re.Pattern") ⟨_, W.K 74 _ rfl, rfl⟩ plainAttrs_pat slot_pat_match type_pat_match (fun a e => by cases e; exact ⟨_, W.K 74 _ rfl, rfl⟩) H
variable {y : List Nat} {t : Tok} {p q a : Nat}
theorem MatV.keeps {h' : Heap} (M : MatV h y t p q a) (k : h.StaysIn h') : MatV h' y t p q a := let ⟨b, e, r⟩ := M; ⟨b, k _ _ e, k _ _ r⟩
theorem gm_groups {pl} {Q : Value × List Value → Shared → Prop} (M : MatV h y t p q a) (H : Q (.builtin "re.Match.groups", [.ref a]) (st s h tk)) : wpAny (model pg w) A (getMethod (.ref a) (Str.ofString "groups") pl) Q E (st s h tk) := by
  obtain ⟨b, e, _⟩ := M
  exact getMethod_builtin (s := st s h tk) (T := "re.Match") ⟨_, e, rfl⟩ plainAttrs_mat slot_mat_groups type_mat_groups (fun a q => by cases q; exact ⟨_, e, rfl⟩) H
theorem group_V {xf : ReFound} {g b e : Nat} {d : Value} {Q : Value → Shared → Prop} (hz : y.length ≤ 1000) (h1 : xf.spans.getD (2 * g) (-1) = (b : Int)) (h2 : xf.spans.getD (2 * g + 1) (-1) = (e : Int)) (h3 : xf.fields.getD 0 .none = .str (S y) t)
    (H : ∀ t' tk', Q (.str (S ((y.take e).drop b)) t') (st s h tk')) : wpAny (model pg w) A (reGroupText xf g d) Q E (st s h tk) := by
  unfold reGroupText
  rw [h1, h2, h3]
  show wpAny _ _ (if (decide ((b : Int) < 0) || decide ((e : Int) < 0)) = true then pure d else (do let (text, kind) ← reTextOf (.str (S y) t); reSlice text kind (b : Int).toNat (e : Int).toNat)) _ _ _
  rw [if_neg (by simp)]
  show wpAny _ _ (reSlice y.toArray 0 b e) _ _ _
  exact slice_U (by omega) H
theorem m_groups {Q : Value → Shared → Prop} (M : MatV h y t p q a) (hpq : p < q) (hq : q + 1 < y.length) (hz : y.length ≤ 1000)
    (H : ∀ b t1 t2 h' tk', h.StaysIn h' → h.get? b = none → h'.get? b = some { cls := .type "tuple", data := .seq #[.str (S (y.take p)) t1, .str (S (y.drop (q + 1))) t2] } → Q (.ref b) (st s h' tk')) :
    wpAny (model pg w) A (call (.builtin "re.Match.groups") [.ref a]) Q E (st s h tk) := by
  obtain ⟨b, e1, e2⟩ := M
  refine wpAny_call_entry slot_mat_groups ⟨_, e1, rfl⟩ entry_mat_groups ?_ (args_mat_groups _)
  unfold Builtin.«re.Match.groups» reWithDefault
  refine wpAny_bind ?_
  refine wpAny_bind (wpAny_of_eq (a := [none]) (by rfl) ?_)
  dsimp only
  refine wpAny_bind (wpAny_bind (wpAny_fieldsOf (s := st s h tk) e1 rfl (wpAny_bind (wpAny_bind (wpAny_seqItems (s := st s h tk) e2 rfl (wpAny_pure (wpAny_pure (wpAny_pure ?_))))))))
  have e : Array.map reRawOf ((some #[rawInt 0, rawInt ↑y.length, rawInt 0, rawInt ↑p, rawInt (↑q + 1), rawInt ↑y.length]).getD #[]) = #[0, (y.length : Int), 0, (p : Int), (q : Int) + 1, (y.length : Int)] := by simp [reRawOf, rawInt]
  rw [e]
  dsimp only
  have e3 : (#[0, (y.length : Int), 0, (p : Int), (q : Int) + 1, (y.length : Int)] : Array Int).size / 2 - 1 = 2 := by simp
  rw [e3, show List.range 2 = [0, 1] from rfl, List.mapM_cons, List.mapM_cons, List.mapM_nil]
  refine wpAny_bind (wpAny_bind (group_V (y := y) (t := t) (b := 0) (e := p) hz rfl rfl rfl fun t1 tk1 => ?_))
  refine wpAny_bind (wpAny_bind (group_V (y := y) (t := t) (b := q + 1) (e := y.length) hz rfl rfl rfl fun t2 tk2 => ?_))
  refine wpAny_bind (wpAny_pure (wpAny_pure (wpAny_pure (wpAny_bind (wpAny_newTuple ?_ (by show 2 ≤ sizeLine; decide))))))
  refine wpAny_pure ⟨_, rfl, ?_⟩
  refine H h.objs.size t1 t2 _ tk2 (fun b o e => Heap.get?_push_of_some _ e) ?_ ?_
  · exact Heap.get?_none_of_le (Nat.le_refl _)
  · rw [List.take_of_length_le (Nat.le_refl y.length)]
    exact Heap.get?_push_size _ rfl
end
end Mine
end
section
open PySem PySem.W PySem.Calls PyProof.Rows PyProof
set_option Elab.async false
set_option maxRecDepth 100000
set_option maxHeartbeats 2000000
set_option autoImplicit false
namespace Mine
theorem ude_new : ExcNewFacts "UnicodeDecodeError" "UnicodeDecodeError.__new__" where
  ends := by decide +kernel
  owner := by decide +kernel
  entry := entryFor_alias (id' := "BaseException.__new__") (by rw [fastTable_eq_tree]; kernel_rfl) (by first | rfl | decide +kernel) (by decide +kernel) (by rw [fastTable_eq_tree]; kernel_rfl)
  sub := by rw [isSubtype_type]; kernel_rfl
  notAttr := by rw [isSubtype_type]; kernel_rfl
  notName := by rw [isSubtype_type]; kernel_rfl
  made := by kernel_rfl
theorem ude_notType : (Value.type "UnicodeDecodeError" == Value.type "type") = false := by decide +kernel
theorem ude_canMake : ((Manifest.find? "UnicodeDecodeError").bind fun x => List.findSome? (fun t => (Manifest.find? t).bind fun b =>
    if b.noNew = true then some true else if (b.attrs.any fun x => x.fst == "__new__") = true then some false else none) x.mro).getD false = false := by kernel_rfl
theorem ude_noVector (args) : checkTypeCall "UnicodeDecodeError" args = pure () := by kernel_rfl
theorem ude_mro : mroOf (.type "UnicodeDecodeError") = pure [.type "UnicodeDecodeError", .type "UnicodeError", .type "ValueError", .type "Exception", .type "BaseException", .type "object"] := by rw [mroOf_type]; kernel_rfl
theorem ude_madeBy : Bind.madeBy (.type "UnicodeDecodeError") = pure (some "UnicodeDecodeError.__new__") := by kernel_rfl
theorem ude_quiet : "UnicodeDecodeError.__new__".startsWith "lifetime." = false := by decide +kernel
theorem ude_newOk (rest) : checkBuiltinCall "UnicodeDecodeError.__new__" ⟨.type "UnicodeDecodeError" :: rest, []⟩ = pure () := by kernel_rfl
theorem ude_init : Slot "UnicodeDecodeError" "__init__" "UnicodeDecodeError.__init__" := .of (owner := "UnicodeDecodeError") (n := "__init__") (by rw [typeLookup_type, builtinLookup_eq_fast]; kernel_rfl) (by decide +kernel) (by decide +kernel) (by decide +kernel)
    (by first | exact .inl (by decide +kernel) | exact .inr (by decide +kernel)) (by rw [isSubtype_type]; kernel_rfl)
theorem ude_initEntry : entryFor table "UnicodeDecodeError.__init__" = some Builtin.«UnicodeDecodeError.__init__» := entryFor_of_tree (by kernel_rfl)
theorem ude_args (a b c d e f : Value) : argsOk "UnicodeDecodeError.__init__" ⟨[a, b, c, d, e, f], []⟩ := by unfold argsOk; kernel_rfl
open PySem.Builtin PySem.Builtin.UnicodeEncodeError
section
variable {w : World} {A : Around} {E : Value → Shared → Prop} {s : Shared} {h : Heap} {tk : Nat} {e : Addr} {x0 x1 x2 x3 x4 x5 : Value}
abbrev UF (h : Heap) (e : Addr) (vs : Array Value) : Prop := h.get? e = some { cls := .type "UnicodeDecodeError", data := .fields vs }
theorem mem6 {Q : Members → Shared → Prop} (u : UF h e #[x0, x1, x2, x3, x4, x5]) (H : Q {} (st s h tk)) : wpAny (model pg w) A (members (.ref e)) Q E (st s h tk) := by
  unfold members
  exact wpAny_bind (wpAny_fieldsOf (s := st s h tk) u rfl (wpAny_of_eq rfl H))
theorem mem11 {en ob re : Value} {i j : Int} {ti tj : Tok} {Q : Members → Shared → Prop} (u : UF h e #[x0, x1, x2, x3, x4, x5, en, ob, .int i ti, .int j tj, re]) (H : Q { encoding := en, object := ob, start := i, stop := j, reason := re } (st s h tk)) :
    wpAny (model pg w) A (members (.ref e)) Q E (st s h tk) := by
  unfold members
  exact wpAny_bind (wpAny_fieldsOf (s := st s h tk) u rfl (wpAny_of_eq rfl H))
theorem setm {vs : Array Value} {m : Members} {Q : Unit → Shared → Prop} (u : UF h e vs) (hv : vs.extract 0 6 = #[x0, x1, x2, x3, x4, x5])
    (H : ∀ h', (∀ b o, b ≠ e → h.get? b = some o → h'.get? b = some o) → UF h' e #[x0, x1, x2, x3, x4, x5, m.encoding, m.object, rawInt m.start, rawInt m.stop, m.reason] → Q () (st s h' tk)) : wpAny (model pg w) A (setMembers (.ref e) m) Q E (st s h tk) := by
  unfold setMembers
  refine wpAny_updateFields (s := st s h tk) u rfl (H _ (Heap.SameBut.update ..).extBut ?_) (by rw [hv]; show 11 ≤ sizeLine + 3; decide)
  have e2 : ∀ o, Obj.mapFields (fun vs => vs.extract 0 6 ++ #[m.encoding, m.object, rawInt m.start, rawInt m.stop, m.reason]) { cls := Value.type "UnicodeDecodeError", data := .fields vs } = o → (h.update e _).get? e = some o := fun o eo => by
    rw [← eo]; exact Heap.get?_update_self _ u rfl
  refine e2 _ ?_
  show ({ cls := Value.type "UnicodeDecodeError", data := Data.fields (vs.extract 0 6 ++ _) } : Obj) = _
  rw [hv]; rfl
theorem let1 {v : Value} {Q : Unit → Shared → Prop} (H : Q () (st s h tk)) : wpAny (model pg w) A (letGo [v]) Q E (st s h tk) := by
  show wpAny _ _ (holding [] point >>= fun _ => letGo []) _ _ _
  exact wpAny_bind (wpAny_holding (wpAny_point (wpAny_pure H)))
/-- an exception for a fault of decoding -/
def Ude (h : Heap) (e : Addr) (b : Array UInt8) (bt : Tok) (start stop : Int) : Prop := ∃ x0 x1 x2 x3 x4 x5 enc rea, UF h e #[x0, x1, x2, x3, x4, x5, enc, .bytes b bt, rawInt start, rawInt stop, rea]
theorem init_ude {codec reason : Str} {b : Array UInt8} {t1 t2 t3 t4 t5 : Tok} {start stop : Int} {Q : Value → Shared → Prop} (h1 : 0 ≤ start) (h2 : start ≤ 100000) (h3 : 0 ≤ stop) (h4 : stop ≤ 100000) (u : UF h e #[x0, x1, x2, x3, x4, x5])
    (H : ∀ h', (∀ b o, b ≠ e → h.get? b = some o → h'.get? b = some o) → Ude h' e b t2 start stop → Q .none (st s h' tk)) :
    wpAny (model pg w) A (Builtin.«UnicodeDecodeError.__init__» ⟨[.ref e, .str codec t1, .bytes b t2, .int start t3, .int stop t4, .str reason t5], []⟩) (fun fin s' => ∃ v, fin = .done (.ret v) ∧ Q v s') E (st s h tk) := by
  have he : e < h.objs.size := Heap.lt_size u
  unfold Builtin.«UnicodeDecodeError.__init__» beginInit
  dsimp only
  refine wpAny_bind ?_
  refine wpAny_bind (wpAny_field (s := st s h tk) u rfl (x := x0) rfl ?_)
  refine wpAny_bind (wpAny_newTuple ?_ (by show 5 ≤ sizeLine; decide))
  have u1 : UF (h.push { cls := .type "tuple", data := .seq [Value.str codec t1, .bytes b t2, .int start t3, .int stop t4, .str reason t5].toArray }) e #[x0, x1, x2, x3, x4, x5] := Heap.get?_push_of_some _ u
  refine wpAny_bind (wpAny_setField (s := st s (h.push _) tk) u1 rfl (by show 0 < 6; omega) ?_)
  obtain ⟨hp, hhp⟩ : ∃ hp, (h.push { cls := .type "tuple", data := .seq [Value.str codec t1, .bytes b t2, .int start t3, .int stop t4, .str reason t5].toArray }).update e (Obj.mapFields (·.setIfInBounds 0 (.ref h.objs.size))) = hp := ⟨_, rfl⟩
  have k2 : ∀ b o, b ≠ e → h.get? b = some o → hp.get? b = some o := fun b o hb eo => by rw [← hhp]; exact (Heap.SameBut.update ..).extBut _ _ hb (Heap.get?_push_of_some _ eo)
  have u2 : UF hp e #[.ref h.objs.size, x1, x2, x3, x4, x5] := by rw [← hhp]; exact Heap.get?_update_self _ u1 rfl
  show wpAny _ _ _ _ _ (st s ((h.push _).update e (Obj.mapFields (·.setIfInBounds 0 (.ref h.objs.size)))) tk)
  rw [hhp]
  refine wpAny_bind (let1 ?_)
  rw [if_pos (show ((5 : Nat) == 5) = true from rfl)]
  refine wpAny_bind (mem6 u2 ?_)
  refine wpAny_bind (setm (x0 := .ref h.objs.size) (x1 := x1) (x2 := x2) (x3 := x3) (x4 := x4) (x5 := x5) u2 rfl fun hp3 k3 u3 => ?_)
  change UF hp3 e #[.ref h.objs.size, x1, x2, x3, x4, x5, .int 0 0, .int 0 0, .int 0 0, .int 0 0, .int 0 0] at u3
  refine wpAny_bind (let1 ?_)
  refine wpAny_bind (mem11 u3 ?_)
  refine wpAny_bind (setm (x0 := .ref h.objs.size) (x1 := x1) (x2 := x2) (x3 := x3) (x4 := x4) (x5 := x5) u3 rfl fun h4' k4 u4 => ?_)
  change UF h4' e #[.ref h.objs.size, x1, x2, x3, x4, x5, .int 0 0, .int 0 0, .int 0 0, .int 0 0, .int 0 0] at u4
  refine wpAny_bind (let1 ?_)
  refine wpAny_bind (mem11 u4 ?_)
  refine wpAny_bind (setm (x0 := .ref h.objs.size) (x1 := x1) (x2 := x2) (x3 := x3) (x4 := x4) (x5 := x5) u4 rfl fun h5 k5 u5 => ?_)
  change UF h5 e #[.ref h.objs.size, x1, x2, x3, x4, x5, .int 0 0, .int 0 0, .int 0 0, .int 0 0, .int 0 0] at u5
  refine wpAny_bind (let1 ?_)
  refine wpAny_pure ?_
  dsimp only
  refine wpAny_bind (wpAny_of_eq (a := ()) (by rfl) ?_)
  have eI : ∀ (i : Int) (t : Tok), 0 ≤ i → i ≤ 100000 → ∀ (Q : Int → Shared → Prop) (E : Value → Shared → Prop) (s : Shared), Q i s → wpAny (model pg w) A (sizeArgument "UnicodeDecodeError.__init__" (.int i t)) Q E s := by
    intro i t hi hj Q E s hq
    unfold sizeArgument
    refine wpAny_bind (wpAny_of_eq (a := i) (by rfl) ?_)
    rw [if_neg (by simp; omega)]
    exact wpAny_pure hq
  refine wpAny_bind ?_
  unfold initRange
  refine wpAny_bind (eI _ _ h1 h2 _ _ _ ?_)
  refine wpAny_bind (mem11 u5 ?_)
  refine wpAny_bind (setm (x0 := .ref h.objs.size) (x1 := x1) (x2 := x2) (x3 := x3) (x4 := x4) (x5 := x5) u5 rfl fun h6 k6 u6 => ?_)
  change UF h6 e #[.ref h.objs.size, x1, x2, x3, x4, x5, .int 0 0, .int 0 0, .int start 0, .int 0 0, .int 0 0] at u6
  refine wpAny_bind (eI _ _ h3 h4 _ _ _ ?_)
  refine wpAny_bind (mem11 u6 ?_)
  refine setm (x0 := .ref h.objs.size) (x1 := x1) (x2 := x2) (x3 := x3) (x4 := x4) (x5 := x5) u6 rfl fun h7 k7 u7 => ?_
  change UF h7 e #[.ref h.objs.size, x1, x2, x3, x4, x5, .int 0 0, .int 0 0, .int start 0, .int stop 0, .int 0 0] at u7
  refine wpAny_bind (wpAny_of_eq (a := ()) (by rfl) ?_)
  refine wpAny_bind (wpAny_of_eq (a := some b) (by rfl) ?_)
  refine wpAny_bind (wpAny_pure ?_)
  rw [if_pos (show (!isUnset (.bytes b t2)) = true from rfl)]
  refine wpAny_bind (wpAny_pure ?_)
  rw [if_neg (show ¬ isUnset (.bytes b t2) = true from fun q => by cases q)]
  refine wpAny_bind (mem11 u7 ?_)
  refine wpAny_bind (setm (x0 := .ref h.objs.size) (x1 := x1) (x2 := x2) (x3 := x3) (x4 := x4) (x5 := x5) u7 rfl fun h8 k8 u8 => ?_)
  change UF h8 e #[.ref h.objs.size, x1, x2, x3, x4, x5, .str codec t1, .bytes b t2, .int start 0, .int stop 0, .str reason t5] at u8
  refine wpAny_pure ⟨_, rfl, H h8 (fun b o hb eo => k8 b o hb (k7 b o hb (k6 b o hb (k5 b o hb (k4 b o hb (k3 b o hb (k2 b o hb eo))))))) ?_⟩
  exact ⟨.ref h.objs.size, x1, x2, x3, x4, x5, .str codec t1, .str reason t5, u8⟩
theorem call_ude {codec reason : Str} {b : Array UInt8} {t1 t2 t3 t4 t5 : Tok} {start stop : Int} {Q : Value → Shared → Prop} (h1 : 0 ≤ start) (h2 : start ≤ 100000) (h3 : 0 ≤ stop) (h4 : stop ≤ 100000)
    (H : ∀ e h', h.StaysIn h' → h.get? e = none → Ude h' e b t2 start stop → Q (.ref e) (st s h' tk)) :
    wpAny (model pg w) A (call (.type "UnicodeDecodeError") [.str codec t1, .bytes b t2, .int start t3, .int stop t4, .str reason t5]) Q E (st s h tk) := by
  refine wpAny_call (codeAny_of_tree ?_)
  show wpAny _ _ (again (.builtin "type.__call__" ⟨.type "UnicodeDecodeError" :: _, []⟩)) _ _ _
  refine wpAny_pure ⟨Code.quiet_builtin _ (by decide +kernel), codeAny_builtin entry_typeCall ?_⟩
  have hnt := ude_notType
  have hcan := ude_canMake
  have hchk := ude_noVector ⟨[.str codec t1, .bytes b t2, .int start t3, .int stop t4, .str reason t5], []⟩
  have hmro := ude_mro
  have hmade := ude_madeBy
  unfold st
  wp_walk
  refine codeAny_call_builtin_code (Code.quiet_builtin _ ude_quiet) (wpAny_of_eq (ude_newOk _) ?_)
  refine codeAny_exc_new ude_new ?_ (by show 5 ≤ sizeLine; decide)
  show wpAny _ _ _ _ _ _
  have hget : ((h.push { cls := .type "tuple", data := .seq [Value.str codec t1, .bytes b t2, .int start t3, .int stop t4, .str reason t5].toArray }).push
      { cls := .type "UnicodeDecodeError", data := .fields #[.ref h.objs.size, .none, .none, .none, .bool false, .none] }).get? (h.objs.size + 1) = some
      { cls := .type "UnicodeDecodeError", data := .fields #[.ref h.objs.size, .none, .none, .none, .bool false, .none] } := by heap_get
  refine wpAny_bind (wpAny_isInstance ⟨_, hget, rfl⟩ ude_new.sub ?_)
  wp_step
  refine wpAny_bind (wpAny_holding (wpAny_callSpecial?_slot ⟨_, hget, rfl⟩ ude_init (wpAny_call_entry ude_init ⟨_, hget, rfl⟩ ude_initEntry ?_ (ude_args _ _ _ _ _ _))))
  have hz : (h.push { cls := .type "tuple", data := .seq [Value.str codec t1, .bytes b t2, .int start t3, .int stop t4, .str reason t5].toArray }).objs.size = h.objs.size + 1 := Heap.size_push ..
  show wpAny _ _ _ _ _ (st s ((h.push _).push _) tk)
  refine init_ude h1 h2 h3 h4 hget fun h9 k9 u9 => ?_
  dsimp only
  rw [if_neg (show ¬ (Value.none != Value.none) = true from fun q => by cases q)]
  refine wpAny_pure ?_
  refine H (h.objs.size + 1) h9 (fun b o eo => k9 b o (by have : @LT.lt Nat _ b h.objs.size := Heap.lt_size eo; show @Ne Nat b (h.objs.size + 1); omega) (Heap.get?_push_of_some _ (Heap.get?_push_of_some _ eo))) (Heap.get?_none_of_le (Nat.le_succ _)) u9
end
end Mine
end
section
open PySem PySem.W PySem.Calls PyProof.Rows PyProof
set_option Elab.async false
set_option maxRecDepth 100000
set_option maxHeartbeats 2000000
set_option autoImplicit false
namespace Mine
open PySem.Builtin PySem.Builtin.UnicodeEncodeError PySem.Builtin._codecs
theorem sub_dec_enc : isSubtype (.type "UnicodeDecodeError") (.type "UnicodeEncodeError") = pure false := by rw [isSubtype_type]; kernel_rfl
theorem sub_dec_dec : isSubtype (.type "UnicodeDecodeError") (.type "UnicodeDecodeError") = pure true := by rw [isSubtype_type]; kernel_rfl
theorem sub_dec_tra : isSubtype (.type "UnicodeDecodeError") (.type "UnicodeTranslateError") = pure false := by rw [isSubtype_type]; kernel_rfl
theorem sub_tup_tup : isSubtype (.type "tuple") (.type "tuple") = pure true := by rw [isSubtype_type]; kernel_rfl
theorem entry_replace : entryFor table "_codecs.lookup_error.replace_errors" = some Builtin.«_codecs.lookup_error.replace_errors» := entryFor_of_tree (by kernel_rfl)
theorem plain_replace : plainId "_codecs.lookup_error.replace_errors" = true := by decide +kernel
theorem kind_replace : builtinKind "_codecs.lookup_error.replace_errors" = none := by decide +kernel
theorem args_replace (a : Value) : argsOk "_codecs.lookup_error.replace_errors" ⟨[a], []⟩ := by unfold argsOk; kernel_rfl
section
variable {w : World} {A : Around} {E : Value → Shared → Prop} {s : Shared} {h : Heap} {tk : Nat} {e : Addr} {b : Array UInt8} {bt : Tok} {start stop : Int}
theorem Ude.is (u : Ude h e b bt start stop) : (st s h tk).TypeIs (.ref e) "UnicodeDecodeError" := let ⟨_, _, _, _, _, _, _, _, q⟩ := u; ⟨_, q, rfl⟩
theorem Ude.mem {Q : Members → Shared → Prop} (u : Ude h e b bt start stop) (H : ∀ en re, Q { encoding := en, object := .bytes b bt, start := start, stop := stop, reason := re } (st s h tk)) : wpAny (model pg w) A (members (.ref e)) Q E (st s h tk) := by
  obtain ⟨x0, x1, x2, x3, x4, x5, en, re, q⟩ := u
  exact mem11 q (H en re)
theorem Ude.keeps {h' : Heap} (u : Ude h e b bt start stop) (k : h.StaysIn h') : Ude h' e b bt start stop := let ⟨a, b, c, d, f, g, i, j, q⟩ := u; ⟨a, b, c, d, f, g, i, j, k _ _ q⟩
theorem call_replace {Q : Value → Shared → Prop} (u : Ude h e b bt start stop) (hb : b.size ≠ 0) (h1 : 1 ≤ stop) (h2 : stop ≤ b.size)
    (H : ∀ a h' t1 t2 tk', h.StaysIn h' → h'.get? a = some { cls := .type "tuple", data := .seq #[.str (S [65533]) t1, .int stop t2] } → Q (.ref a) (st s h' tk')) :
    wpAny (model pg w) A (call (.builtin "_codecs.lookup_error.replace_errors") [.ref e]) Q E (st s h tk) := by
  refine wpAny_call (codeAny_call_builtin plain_replace entry_replace ?_)
  refine wpAny_of_eq (a := ()) (by kernel_rfl) ?_
  unfold Builtin.«_codecs.lookup_error.replace_errors»
  refine wpAny_bind (wpAny_of_eq (a := Value.ref e) (by rfl) ?_)
  unfold Builtin._codecs.seen
  refine wpAny_bind ?_
  refine wpAny_bind (wpAny_isInstance u.is sub_dec_enc ?_)
  refine wpAny_bind (wpAny_isInstance u.is sub_dec_dec ?_)
  refine wpAny_bind (wpAny_isInstance u.is sub_dec_tra ?_)
  dsimp only
  refine wpAny_bind (wpAny_pure ?_)
  rw [if_neg (show ¬ (![_codecs.Kind.encode, .decode, .translate].contains _codecs.Kind.decode) = true from by decide)]
  refine wpAny_bind (u.mem fun en re => ?_)
  dsimp only
  rw [if_neg (show ¬ isUnset (.bytes b bt) = true from fun q => by cases q)]
  rw [if_pos (show (_codecs.Kind.decode == _codecs.Kind.decode) = true from rfl)]
  refine wpAny_bind (wpAny_pure ?_)
  rw [if_neg (by simp; intro q; exact hb (by simp [q]))]
  refine wpAny_pure ?_
  rw [if_pos (show (_codecs.Kind.decode == _codecs.Kind.decode) = true from rfl)]
  have e1 : Min.min (Max.max stop 1) ((Array.map (fun (x : UInt8) => x.toNat) b).size : Int) = stop := by rw [Array.size_map]; omega
  dsimp only
  rw [e1]
  unfold answer
  refine wpAny_bind (wpAny_mkStr ?_ (by decide))
  refine wpAny_bind (wpAny_mkInt ?_)
  refine wpAny_bind (wpAny_newTuple ?_ (by show 2 ≤ sizeLine; decide))
  exact wpAny_pure (H h.objs.size _ tk (tk + 1) _ (fun b o eo => Heap.get?_push_of_some _ eo) (Heap.get?_push_size _ rfl))
abbrev hRep : Value := .builtin "_codecs.lookup_error.replace_errors"
abbrev ownR : List String := ["ignore", "replace", "surrogateescape"]
/-- the state of the faults -/
def FSt (h₀ h : Heap) (b : Array UInt8) (f : Faults) : Prop := f = {} ∨ ∃ e bt i j, f = ⟨some hRep, some (.ref e), []⟩ ∧ Ude h e b bt i j ∧ h₀.get? e = none
theorem fault {h₀ : Heap} {f : Faults} {id codec reason : String} {p q : Nat} {Q : Faults × Array Nat × Nat → Shared → Prop} (hk : h₀.StaysIn h) (hf : FSt h₀ h b f) (hb : b.size ≠ 0) (h1 : p < q) (h2 : q ≤ b.size) (hz : b.size ≤ 100000)
    (hc : (Str.ofString codec).length ≤ 1000) (hr : (Str.ofString reason).length ≤ 1000)
    (H : ∀ f' h' tk', h₀.StaysIn h' → FSt h₀ h' b f' → Q (f', #[65533], q) (st s h' tk')) :
    wpAny (model pg w) A (decodeFault id f (some (Str.ofString "replace")) ownR codec b p q reason) Q E (st s h tk) := by
  have hfh : f.held = [] := by rcases hf with rfl | ⟨e, bt, i, j, rfl, _⟩ <;> rfl
  unfold decodeFault
  refine wpAny_bind (wpAny_of_eq (a := hRep) (by rcases hf with rfl | ⟨e, bt, i, j, rfl, _⟩; · kernel_rfl
                                                 · rfl) ?_)
  refine wpAny_bind (wpAny_holding ?_)
  refine wpAny_mono (Q := fun v s' => ∃ e bt h' tk', v = .ref e ∧ s' = st s h' tk' ∧ h₀.StaysIn h' ∧ Ude h' e b bt p q ∧ h₀.get? e = none) (E := E) ?exc (fun v s' hv => ?_) fun _ _ x => x
  case exc =>
    rcases hf with rfl | ⟨e, bt, i, j, rfl, u, hn⟩
    · show wpAny _ _ (do
        let a ← mkStr (Str.ofString codec)
        let o ← mkBytes b
        let i ← mkInt p
        let j ← mkInt q
        let r ← mkStr (Str.ofString reason)
        call (.type "UnicodeDecodeError") [a, o, i, j, r]) _ _ _
      refine wpAny_bind (wpAny_mkStr ?_ (by rw [sizeLine_eq]; omega))
      refine wpAny_bind (wpAny_mkBytes ?_ (by rw [sizeLine_eq]; omega))
      refine wpAny_bind (wpAny_mkInt ?_)
      refine wpAny_bind (wpAny_mkInt ?_)
      refine wpAny_bind (wpAny_mkStr ?_ (by rw [sizeLine_eq]; omega))
      refine call_ude (s := s) (h := h) (tk := tk + 1 + 1 + 1 + 1 + 1) (by omega) (by omega) (by omega) (by omega) fun e h2 k2 hn2 u2 => ?_
      refine ⟨e, _, h2, _, rfl, rfl, fun a o eo => k2 _ _ (hk _ _ eo), u2, ?_⟩
      cases x : h₀.get? e with
      | none => rfl
      | some o => rw [hk _ _ x] at hn2; cases hn2
    · show wpAny _ _ (do
        let m ← members (.ref e)
        let r ← mkStr (Str.ofString reason)
        setMembers (.ref e) { m with start := p, stop := q, reason := r }
        pure (Value.ref e)) _ _ _
      refine wpAny_bind ?_
      obtain ⟨x0, x1, x2, x3, x4, x5, en, re, v⟩ := u
      refine mem11 v ?_
      refine wpAny_bind (wpAny_mkStr ?_ (by rw [sizeLine_eq]; omega))
      refine wpAny_bind (setm (s := s) (h := h) (tk := tk + 1) (x0 := x0) (x1 := x1) (x2 := x2) (x3 := x3) (x4 := x4) (x5 := x5) v rfl fun h3 k3 v3 => ?_)
      refine wpAny_pure ⟨e, bt, h3, _, rfl, rfl, fun a o eo => k3 _ _ (by rintro rfl; rw [hn] at eo; cases eo) (hk _ _ eo), ⟨x0, x1, x2, x3, x4, x5, en, _, v3⟩, hn⟩
  obtain ⟨e, bt, h3, tk3, rfl, rfl, k3, u3, hn⟩ := hv
  rw [hfh]
  refine wpAny_bind ?_
  wp_delta
  refine wpAny_bind (u3.mem fun en re => ?_)
  dsimp only
  refine wpAny_bind (wpAny_holding ?_)
  rw [if_pos (show ([] : List Value).isEmpty = true from rfl)]
  refine call_replace u3 hb (by omega) (by omega) fun a h4 t1 t2 tk4 k4 hT => ?_
  refine wpAny_bind ((u3.keeps k4).mem fun en2 re2 => ?_)
  dsimp only
  rw [if_neg ?same]
  case same => show ¬ (!(bt == bt && b == b)) = true; simp
  refine wpAny_pure (wpAny_holding (wpAny_bind ?_))
  wp_delta
  refine wpAny_bind (wpAny_isInstance (s := st s h4 tk4) ⟨_, hT, rfl⟩ sub_tup_tup ?_)
  rw [if_neg (show ¬ (!true) = true from by decide)]
  refine wpAny_bind (wpAny_seqItems (s := st s h4 tk4) hT rfl ?_)
  refine wpAny_pure ?_
  dsimp only
  refine wpAny_bind (wpAny_of_eq (a := some (S [65533])) (by rfl) ?_)
  dsimp only
  refine wpAny_bind ?_
  wp_delta
  refine wpAny_bind (wpAny_of_eq (a := (q : Int)) (by rfl) ?_)
  rw [if_neg (by simp; omega)]
  refine wpAny_pure ?_
  refine wpAny_bind ?_
  wp_delta
  have hq0 : (if (q : Int) < 0 then (q : Int) + b.size else (q : Int)) = q := if_neg (by omega)
  simp only [hq0]
  rw [if_neg (by simp; omega), if_neg (by omega)]
  refine wpAny_pure (wpAny_pure ?_)
  exact H _ h4 tk4 (fun c o eo => k4 _ _ (k3 _ _ eo)) (.inr ⟨e, bt, p, q, rfl, u3.keeps k4, hn⟩)
/-- what a run of the decoder gives of the bytes from p on -/
inductive Runs (d : Decoder) (b : Array UInt8) : Nat → List Nat → Prop
  | done : Runs d b b.size []
  | text {p q cs r} : p < b.size → p < q → q ≤ b.size → d.find true b p = .text cs q → Runs d b q r → Runs d b p (cs ++ r)
  | bad {p q reason g r} : p < b.size → p < q → q ≤ b.size → d.find true b p = .bad q reason g → (Str.ofString reason).length ≤ 1000 → Runs d b q r → Runs d b p (65533 :: r)
theorem run_dec {id : String} {d : Decoder} {l : List Nat} {errors : Option Str} {Q : Array Nat × Nat → Shared → Prop} (hd : (d.own = ownR ∧ errors = some (Str.ofString "replace")) ∨ ∀ p q r g, d.find true b p ≠ .bad q r g) (hn : (Str.ofString d.name).length ≤ 1000) (hb : b.size ≠ 0) (hz : b.size ≤ 10000) (hl : Runs d b 0 l) (hl2 : l.length ≤ 100000)
    (H : ∀ h' tk', h.StaysIn h' → Q (l.toArray, b.size) (st s h' tk')) : wpAny (model pg w) A (runDecoder id d errors true b 0 []) Q E (st s h tk) := by
  unfold runDecoder
  dsimp only
  rw [Std.Legacy.Range.forIn_eq_forIn_range']
  have hfin : ∀ p r, p ≤ b.size → ¬ p < b.size → Runs d b p r → r = [] ∧ p = b.size := by
    intro p r hp hnp hr
    cases hr with
    | done => exact ⟨rfl, rfl⟩
    | text h _ _ _ _ => exact absurd h hnp
    | bad h _ _ _ _ _ => exact absurd h hnp
  refine wpAny_bind (wpAny_mono (wpAny_forIn_list _ (fun rest (x : Nat × Array Nat × Faults) s' => ∃ h' tk' r, s' = st s h' tk' ∧ h.StaysIn h' ∧ FSt h h' b x.2.2 ∧ x.1 ≤ b.size ∧ Runs d b x.1 r ∧ x.2.1.toList ++ r = l ∧ b.size - x.1 ≤ rest.length)
    (fun x s' => ∃ h' tk', s' = st s h' tk' ∧ h.StaysIn h' ∧ x.1 = b.size ∧ x.2.1.toList = l) ?_ ?_ _ _ ⟨h, tk, l, rfl, fun _ _ e => e, .inl rfl, Nat.zero_le _, hl, rfl, by simp [Std.Legacy.Range.size]⟩) (fun x s' q => ?_) fun _ _ x => x)
  · rintro i rest ⟨p, out, f⟩ _ ⟨h', tk', r, rfl, hk, hf, hp, hr, ho, hrest⟩
    dsimp only at hf hp hr ho hrest ⊢
    have hol : out.size ≤ l.length := by rw [← ho]; simp
    rw [if_neg (by rw [sizeLine_eq]; omega)]
    by_cases hpb : p < b.size
    · rw [if_neg (by omega)]
      cases hr with
      | done => omega
      | @text p q cs r h0 h1 h2 h3 h4 =>
        rw [h3]
        dsimp only
        exact wpAny_pure ⟨h', tk', r, rfl, hk, hf, h2, h4, by simp at ho ⊢; exact ho, by simp at hrest ⊢; omega⟩
      | @bad p q reason g r h0 h1 h2 h3 h5 h4 =>
        rw [h3]
        dsimp only
        rw [if_neg (by simp)]
        refine wpAny_bind (wpAny_rule ?_)
        obtain ⟨hd1, rfl⟩ := hd.resolve_right fun q => q _ _ _ _ h3
        rw [hd1]
        refine wpAny_bind (fault hk hf hb h1 h2 (by omega) hn h5 fun f' h2' tk2' k2 hf2 => ?_)
        dsimp only
        exact wpAny_pure ⟨h2', tk2', r, rfl, k2, hf2, h2, h4, by simp at ho ⊢; exact ho, by simp at hrest ⊢; omega⟩
    · rw [if_pos (by omega)]
      obtain ⟨rfl, rfl⟩ := hfin p r hp hpb hr
      exact wpAny_pure ⟨h', tk', rfl, hk, rfl, by simpa using ho⟩
  · rintro ⟨p, out, f⟩ _ ⟨h', tk', r, rfl, hk, hf, hp, hr, ho, hrest⟩
    dsimp only at hf hp hr ho hrest ⊢
    obtain ⟨rfl, rfl⟩ := hfin p r hp (by simp at hrest; omega) hr
    exact ⟨h', tk', rfl, hk, rfl, by simpa using ho⟩
  · obtain ⟨h', tk', rfl, hk, e1, e2⟩ := q
    obtain ⟨p, out, f⟩ := x
    dsimp only at e1 e2 ⊢
    subst e1
    have : out = l.toArray := by rw [← e2]
    rw [this]
    exact wpAny_pure (H h' tk' hk)
end
end Mine
end
section
open PySem PySem.W PySem.Calls PyProof.Rows PyProof
set_option Elab.async false
set_option maxRecDepth 100000
set_option maxHeartbeats 2000000
set_option autoImplicit false
namespace Mine
open PySem.Builtin PySem.Builtin._codecs
section
variable {w : World} {A : Around} {E : Value → Shared → Prop} {s : Shared} {h : Heap} {tk : Nat} {b : Array UInt8} {t t1 t2 : Tok}
theorem road_u {id : String} {er : Option Str} : _codecs.decodeRoad id b (Str.ofString "utf-8") er [] = (_codecs.runDecoder id _codecs.utf8Decoder er true b 0 [] >>= fun r => mkStr ⟨r.1⟩) := by kernel_rfl
theorem road_a {id : String} {er : Option Str} : _codecs.decodeRoad id b (Str.ofString "ascii") er [] = (_codecs.runDecoder id _codecs.asciiDecoder er true b 0 [] >>= fun r => mkStr ⟨r.1⟩) := by kernel_rfl
theorem road_l {id : String} {er : Option Str} : _codecs.decodeRoad id b (Str.ofString "iso-8859-1") er [] = (_codecs.runDecoder id _codecs.latin1Decoder er true b 0 [] >>= fun r => mkStr ⟨r.1⟩) := by kernel_rfl
theorem call_text {enc : Str} {er : Value} {ero : Option Str} {idn : Str} {d : Decoder} {l : List Nat} {Q : Value → Shared → Prop}
    (he : (er = .none ∧ ero = none) ∨ ∃ x u, er = .str x u ∧ ero = some x)
    (hr : ∀ id, _codecs.decodeRoad id b enc ero [] = (_codecs.runDecoder id d ero true b 0 [] >>= fun r => mkStr ⟨r.1⟩))
    (hd : (d.own = ownR ∧ ero = some (Str.ofString "replace")) ∨ ∀ p q r g, d.find true b p ≠ .bad q r g) (hn : (Str.ofString d.name).length ≤ 1000) (hb : b.size ≠ 0) (hz : b.size ≤ 10000) (hl : Runs d b 0 l) (hl2 : l.length ≤ 100000)
    (H : ∀ h' t' tk', h.StaysIn h' → Q (.str (S l) t') (st s h' tk')) :
    wpAny (model pg w) A (call (.builtin "_codecs.decode.text") [.bytes b t, .str enc t1, er, .str idn t2]) Q E (st s h tk) := by
  refine wpAny_call (codeAny_call_builtin KBd.plain_text KBd.entry_text ?_)
  refine wpAny_of_eq (a := ()) (by kernel_rfl) ?_
  unfold Builtin.«_codecs.decode.text»
  dsimp only
  have main : wpAny (model pg w) A.in1 (do
      let __do_lift ← Bytes.bytesLike idn.toString (.bytes b t)
      let __do_lift_1 ← dataHeld idn.toString (.bytes b t)
      let __do_lift ← decodeRoad idn.toString __do_lift enc ero __do_lift_1
      ret __do_lift) (fun fin s' => match fin with | .done f => (match (Except.ok f : Except Value Flow) with | .ok (.ret v) => Q v s' | .ok _ => False | .error e => E e s') | .again c' => c'.quiet = true ∧ codeAny (model pg w) A c' (fun r s' => match r with | .ok (.ret v) => Q v s' | .ok _ => False | .error e => E e s') s') E (st s h tk) := by
    refine wpAny_bind (wpAny_of_eq KBd.like_eq ?_)
    refine wpAny_bind (wpAny_of_eq KBd.held_eq ?_)
    rw [hr]
    refine wpAny_bind (wpAny_bind (run_dec hd hn hb hz hl hl2 fun h' tk' k => ?_))
    refine wpAny_mkStr ?_ (by show l.toArray.size ≤ _; rw [sizeLine_eq]; simp; omega)
    exact wpAny_pure (H h' _ _ k)
  rcases he with ⟨rfl, rfl⟩ | ⟨x, u, rfl, rfl⟩
  · exact wpAny_bind (wpAny_pure main)
  · exact wpAny_bind (wpAny_pure main)
variable {c : UInt8} {cs : List UInt8}
theorem entry_u : «bytes.decode» ⟨[.bytes (c :: cs).toArray t, .str (Str.ofString "utf-8") t1, .str (Str.ofString "replace") t2], []⟩ = (mkStr (Str.ofString "utf-8") >>= fun _ => mkStr (Str.ofString "utf-8") >>= fun e => mkStr (Str.ofString "replace") >>= fun r => mkStr (Str.ofString "bytes.decode") >>= fun d =>
    call (.builtin "_codecs.decode.text") [.bytes (c :: cs).toArray t, e, r, d] >>= fun v => ret v) := by kernel_rfl
theorem entry_a : «bytes.decode» ⟨[.bytes (c :: cs).toArray t, .str (Str.ofString "ascii") t1, .str (Str.ofString "replace") t2], []⟩ = (mkStr (Str.ofString "utf-8") >>= fun _ => mkStr (Str.ofString "ascii") >>= fun e => mkStr (Str.ofString "replace") >>= fun r => mkStr (Str.ofString "bytes.decode") >>= fun d =>
    call (.builtin "_codecs.decode.text") [.bytes (c :: cs).toArray t, e, r, d] >>= fun v => ret v) := by kernel_rfl
theorem entry_l : «bytes.decode» ⟨[.bytes (c :: cs).toArray t, .str (Str.ofString "iso-8859-1") t1], []⟩ = (mkStr (Str.ofString "utf-8") >>= fun _ => mkStr (Str.ofString "iso-8859-1") >>= fun e => mkStr (Str.ofString "bytes.decode") >>= fun d =>
    call (.builtin "_codecs.decode.text") [.bytes (c :: cs).toArray t, e, .none, d] >>= fun v => ret v) := by kernel_rfl
theorem entry_u0 : «bytes.decode» ⟨[.bytes #[] t, .str (Str.ofString "utf-8") t1, .str (Str.ofString "replace") t2], []⟩ = (do rule "bytes.decode.empty"; retStr Str.empty) := by kernel_rfl
theorem entry_a0 : «bytes.decode» ⟨[.bytes #[] t, .str (Str.ofString "ascii") t1, .str (Str.ofString "replace") t2], []⟩ = (do rule "bytes.decode.empty"; retStr Str.empty) := by kernel_rfl
theorem entry_l0 : «bytes.decode» ⟨[.bytes #[] t, .str (Str.ofString "iso-8859-1") t1], []⟩ = (do rule "bytes.decode.empty"; retStr Str.empty) := by kernel_rfl
theorem args_dec2 (a b : Value) : argsOk "bytes.decode" ⟨[a, b], []⟩ := by unfold argsOk; kernel_rfl
theorem args_dec3 (a b c : Value) : argsOk "bytes.decode" ⟨[a, b, c], []⟩ := by unfold argsOk; kernel_rfl
theorem gm_decode {pl} {Q : Value × List Value → Shared → Prop} (H : Q (.builtin "bytes.decode", [.bytes b t]) s) : wpAny (model pg w) A (getMethod (.bytes b t) (Str.ofString "decode") pl) Q E s := KBd.method H
/-- the bytes of a list of codes -/
def B8 (l : List Nat) : Array UInt8 := (l.map Nat.toUInt8).toArray
theorem runs0 {d : Decoder} {l : List Nat} (h : Runs d (B8 []) 0 l) : l = [] := by
  cases h with
  | done => rfl
  | text h _ _ _ _ => exact absurd h (by decide)
  | bad h _ _ _ _ _ => exact absurd h (by decide)
theorem m_dec_u {bs l : List Nat} {Q : Value → Shared → Prop} (hl : Runs utf8Decoder (B8 bs) 0 l) (hz : bs.length ≤ 10000) (hl2 : l.length ≤ 100000) (H : ∀ h' t' tk', h.StaysIn h' → Q (.str (S l) t') (st s h' tk')) :
    wpAny (model pg w) A (call (.builtin "bytes.decode") [.bytes (B8 bs) t, .str (S (lit "utf-8")) t1, .str (S (lit "replace")) t2]) Q E (st s h tk) := by
  rw [← S_lit, ← S_lit]
  refine wpAny_call_entry FB.slot_bytes_decode (typeIs_bytes _ _ _) FB.entry_bytes_decode ?_ (args_dec3 _ _ _)
  cases bs with
  | nil =>
    have := runs0 hl
    subst this
    rw [show B8 [] = #[] from rfl, entry_u0]
    exact wpAny_bind (wpAny_rule (wpAny_bind (wpAny_mkStr (wpAny_pure ⟨_, rfl, H h _ _ fun _ _ e => e⟩) (by decide))))
  | cons c cs =>
    have e : B8 (c :: cs) = (c.toUInt8 :: cs.map Nat.toUInt8).toArray := rfl
    rw [e, entry_u]
    refine wpAny_bind (wpAny_mkStr ?_ (by decide))
    refine wpAny_bind (wpAny_mkStr ?_ (by decide))
    refine wpAny_bind (wpAny_mkStr ?_ (by decide))
    refine wpAny_bind (wpAny_mkStr ?_ (by decide))
    refine wpAny_bind (call_text (s := s) (h := h) (tk := tk + 1 + 1 + 1 + 1) (.inr ⟨_, _, rfl, rfl⟩) (fun id => road_u) (.inl ⟨rfl, rfl⟩) (by decide +kernel) (by simp) (by simp at hz ⊢; omega) (by rw [← e]; exact hl) hl2 fun h' t' tk' k => ?_)
    exact wpAny_pure ⟨_, rfl, H h' t' tk' k⟩
theorem m_dec_a {bs l : List Nat} {Q : Value → Shared → Prop} (hl : Runs asciiDecoder (B8 bs) 0 l) (hz : bs.length ≤ 10000) (hl2 : l.length ≤ 100000) (H : ∀ h' t' tk', h.StaysIn h' → Q (.str (S l) t') (st s h' tk')) :
    wpAny (model pg w) A (call (.builtin "bytes.decode") [.bytes (B8 bs) t, .str (S (lit "ascii")) t1, .str (S (lit "replace")) t2]) Q E (st s h tk) := by
  rw [← S_lit, ← S_lit]
  refine wpAny_call_entry FB.slot_bytes_decode (typeIs_bytes _ _ _) FB.entry_bytes_decode ?_ (args_dec3 _ _ _)
  cases bs with
  | nil =>
    have := runs0 hl
    subst this
    rw [show B8 [] = #[] from rfl, entry_a0]
    exact wpAny_bind (wpAny_rule (wpAny_bind (wpAny_mkStr (wpAny_pure ⟨_, rfl, H h _ _ fun _ _ e => e⟩) (by decide))))
  | cons c cs =>
    have e : B8 (c :: cs) = (c.toUInt8 :: cs.map Nat.toUInt8).toArray := rfl
    rw [e, entry_a]
    refine wpAny_bind (wpAny_mkStr ?_ (by decide))
    refine wpAny_bind (wpAny_mkStr ?_ (by decide))
    refine wpAny_bind (wpAny_mkStr ?_ (by decide))
    refine wpAny_bind (wpAny_mkStr ?_ (by decide))
    refine wpAny_bind (call_text (s := s) (h := h) (tk := tk + 1 + 1 + 1 + 1) (.inr ⟨_, _, rfl, rfl⟩) (fun id => road_a) (.inl ⟨rfl, rfl⟩) (by decide +kernel) (by simp) (by simp at hz ⊢; omega) (by rw [← e]; exact hl) hl2 fun h' t' tk' k => ?_)
    exact wpAny_pure ⟨_, rfl, H h' t' tk' k⟩
theorem m_dec_l {bs l : List Nat} {Q : Value → Shared → Prop} (hl : Runs latin1Decoder (B8 bs) 0 l) (hz : bs.length ≤ 10000) (hl2 : l.length ≤ 100000) (H : ∀ h' t' tk', h.StaysIn h' → Q (.str (S l) t') (st s h' tk')) :
    wpAny (model pg w) A (call (.builtin "bytes.decode") [.bytes (B8 bs) t, .str (S (lit "iso-8859-1")) t1]) Q E (st s h tk) := by
  rw [← S_lit]
  refine wpAny_call_entry FB.slot_bytes_decode (typeIs_bytes _ _ _) FB.entry_bytes_decode ?_ (args_dec2 _ _)
  cases bs with
  | nil =>
    have := runs0 hl
    subst this
    rw [show B8 [] = #[] from rfl, entry_l0]
    exact wpAny_bind (wpAny_rule (wpAny_bind (wpAny_mkStr (wpAny_pure ⟨_, rfl, H h _ _ fun _ _ e => e⟩) (by decide))))
  | cons c cs =>
    have e : B8 (c :: cs) = (c.toUInt8 :: cs.map Nat.toUInt8).toArray := rfl
    rw [e, entry_l]
    refine wpAny_bind (wpAny_mkStr ?_ (by decide))
    refine wpAny_bind (wpAny_mkStr ?_ (by decide))
    refine wpAny_bind (wpAny_mkStr ?_ (by decide))
    refine wpAny_bind (call_text (s := s) (h := h) (tk := tk + 1 + 1 + 1) (.inl ⟨rfl, rfl⟩) (fun id => road_l) (.inr fun p q r g hq => by cases hq) (by decide +kernel) (by simp) (by simp at hz ⊢; omega) (by rw [← e]; exact hl) hl2 fun h' t' tk' k => ?_)
    exact wpAny_pure ⟨_, rfl, H h' t' tk' k⟩
end
end Mine
end
section
open PySem PySem.W PySem.Calls PyProof.Rows PyProof
set_option Elab.async false
set_option maxRecDepth 100000
set_option maxHeartbeats 4000000
set_option autoImplicit false
namespace Mine
local macro_rules | `(tactic| walk_at "n") => `(tactic| first
  | (refine' r_name ?l ?k ?n ?v ?_ ?b; (case l => k_dflt rfl); (case k => k_dflt rfl); (case n => k_dflt (first | exact Cx.ns (by assumption) | exact Ck.ns (by assumption))); (case v => k_dflt (first | rfl | assumption)); (case b => k_dflt decide))
  | (refine' r_glob ?l ?k ?g ?e ?w ?_ ?b; (case l => k_dflt rfl); (case k => k_dflt rfl); (case g => k_dflt rfl); (case e => first | exact gl_read _ | exact gl_items _ | exact gl_decoded _ | exact gl_charset _ | exact gl_dict _ | exact gl_text _ | exact gl_unquote _ | exact gl_unslash _ | exact gl_uhv _ | exact gl_plh _ | exact gl_pdh _ | exact gl_cvre _ | exact gl_pieces _ | exact gl_stretches _ | exact gl_charsets _ | assumption); (case w => first | exact Cx.wd (by assumption) | exact Ck.wd (by assumption) | assumption); (case b => k_dflt decide))
  | (refine' r_bi ?l ?k ?g ?h (gl_len _) bb_len ?n ?w ?_ ?b; (case l => k_dflt rfl); (case k => k_dflt rfl); (case g => k_dflt rfl); (case h => k_dflt rfl); (case n => k_dflt decide); (case w => first | exact Cx.wd (by assumption) | exact Ck.wd (by assumption) | assumption); (case b => k_dflt decide))
  | (refine' r_bi ?l ?k ?g ?h (gl_ord _) bb_ord ?n ?w ?_ ?b; (case l => k_dflt rfl); (case k => k_dflt rfl); (case g => k_dflt rfl); (case h => k_dflt rfl); (case n => k_dflt decide); (case w => first | exact Cx.wd (by assumption) | exact Ck.wd (by assumption) | assumption); (case b => k_dflt decide))
  | (refine' r_bi ?l ?k ?g ?h (gl_int _) bb_int ?n ?w ?_ ?b; (case l => k_dflt rfl); (case k => k_dflt rfl); (case g => k_dflt rfl); (case h => k_dflt rfl); (case n => k_dflt decide); (case w => first | exact Cx.wd (by assumption) | exact Ck.wd (by assumption) | assumption); (case b => k_dflt decide))
  | (refine' r_bi ?l ?k ?g ?h (gl_bytes _) bb_bytes ?n ?w ?_ ?b; (case l => k_dflt rfl); (case k => k_dflt rfl); (case g => k_dflt rfl); (case h => k_dflt rfl); (case n => k_dflt decide); (case w => first | exact Cx.wd (by assumption) | exact Ck.wd (by assumption) | assumption); (case b => k_dflt decide))
  | (refine' r_bi ?l ?k ?g ?h (gl_list _) bb_list ?n ?w ?_ ?b; (case l => k_dflt rfl); (case k => k_dflt rfl); (case g => k_dflt rfl); (case h => k_dflt rfl); (case n => k_dflt decide); (case w => first | exact Cx.wd (by assumption) | exact Ck.wd (by assumption) | assumption); (case b => k_dflt decide)))
local macro_rules | `(tactic| walk_at "s") => `(tactic| (with_reducible first
  | (refine' r_cons ?_)
  | (refine' r_nil ?_)
  | (refine' r_assign ?_ ?a; (case a => k_dflt rfl))
  | (refine' r_if ?_)
  | (refine' r_ret ?_)
  | (refine' r_continue ?_)
  | (refine' r_aug ?_)
  | (refine' r_store ?x ?_ ?a ?b; (case x => assumption); (case a => k_dflt rfl); (case b => k_dflt rfl); intro _ _ _)
  | ((show wpAny _ _ (eval (Expr.Name _ _) _) _ _ _); walk_at "n")
  | (refine' r_load ?l ?k ?n ?v ?_; (case l => k_dflt rfl); (case k => k_dflt rfl); (case n => k_dflt (first | exact Cx.ns (by assumption) | exact Ck.ns (by assumption))); (case v => k_dflt (first | rfl | assumption)))
  | (refine' r_int ?_; intro _ _)
  | (refine' r_str ?_; intro _ _)
  | (refine' r_bool ?_)
  | (refine' r_none ?_)
  | (refine' r_expr ?_ ?a ?b; (case a => k_dflt rfl); (case b => k_dflt rfl))
  | (refine' and_none ?_)
  | (refine' r_list0 ?x ?_; (case x => assumption); intro _ _ _ _ _)
  | (refine' gm_append ?x ?_; (case x => assumption))
  | (refine' m_append ?x ?e ?z ?_; (case x => assumption); (case e => first | assumption | exact List.forall_mem_nil _); (case z => omega); intro _ _ _)
  | (refine' e_not ?_)
  | (refine' v_str ?z ?_; (case z => (try simp only [List.length_append, List.length_cons, List.length_nil, lit_nil, lit_dq, lit_sq]); omega); intro _)
  | (refine' gm_strip ?_)
  | (refine' m_strip ?z ?_; (case z => omega); intro _ _)
  | (refine' r_binop ?_)
  | (refine' r_cmp ?_ ?a; (case a => k_dflt rfl))
  | (refine' r_ifexp ?_)
  | (refine' t_cmp ?_ ?a; (case a => k_dflt rfl))
  | (refine' t_not ?_)
  | (refine' t_and0 ?_)
  | (refine' t_or0 ?_)
  | (refine' t_and ?_)
  | (refine' t_or ?_)
  | (refine' t_name ?_)
  | (refine' t_call ?_)
  | (refine' v_bool ?_)
  | (refine' r_call ?_ ?a; (case a => k_dflt rfl))
  | (refine' r_mcall ?_ ?a; (case a => exact ⟨_, by k_dflt rfl⟩); intro _)
  | (refine' c_fn ?_ ?a ?b; (case a => k_dflt rfl); (case b => k_dflt rfl))
  | (refine' c_me ?_ ?a ?b; (case a => k_dflt rfl); (case b => k_dflt rfl))
  | (refine' c_bi0 ?_)
  | (refine' sp_more ?_ ?a; (case a => k_dflt rfl))
  | (refine' sp_none ?_)
  | (refine' c_def ?w ?k ?_ ?a ?b; (case w => first | exact Cx.wd (by assumption) | exact Ck.wd (by assumption) | assumption); (case k => first | exact kp_38 _ | exact kp_45 _ | exact kp_57 _ | exact kp_62 _ | exact kp_69 _ | exact kp_82 _ | exact kp_89 _ | exact kp_96 _ | exact kp_101 _ | exact kp_106 _ | exact kp_111 _ | exact kp_118 _); (case a => k_dflt rfl); (case b => k_dflt rfl))
  | (refine' c_def0 ?w ?k ?_; (case w => first | exact Cx.wd (by assumption) | exact Ck.wd (by assumption) | assumption); (case k => first | exact kp_82 _ | exact kp_89 _))
  | (refine' in_K ?w ?_; (case w => first | exact Cx.wd (by assumption) | exact Ck.wd (by assumption) | assumption))
  | (refine' r_sub ?_)
  | (refine' s_slice ?_)
  | (refine' s_some ?_)
  | (refine' s_none ?_)
  | (refine' r_neg ?_; intro _ _)
  | (refine' gm_starts ?_)
  | (refine' gm_ends ?_)
  | (refine' m_starts ?c ?_; (case c => first | exact lit_dq | exact lit_star))
  | (refine' m_ends ?c ?_; (case c => first | exact lit_dq | exact lit_star))
  | (refine' r_or2 ?_)
  | (refine' gm_group ?x ?_; (case x => assumption))
  | (refine' m_group ?x ?k ?z ?_; (case x => assumption); (case k => assumption); (case z => omega); intro _ _)
  | (refine' gm_decode ?_)
  | (refine' gm_sub ?w ?_; (case w => first | exact Cx.wd (by assumption) | assumption))
  | (refine' b_addI ?_; intro _ _)
  | (refine' b_subI ?_; intro _ _)
  | (refine' q_ltI ?_)
  | (refine' q_gtI ?_)
  | (refine' q_geI ?_)
  | (refine' q_eqS ?_)
  | (refine' q_neS ?_)
  | (refine' b_iaddS ?_ ?z; (case z => (try simp only [List.length_append, List.length_cons, List.length_nil, lit_nil, lit_dq, lit_sq]); omega); intro _ _)
  | (refine' b_iaddI ?_; intro _ _)
  | (refine' p_len ?_ ?z; (case z => omega); intro _ _)
  | (refine' b_addS ?_ ?z; (case z => (try simp only [List.length_append, List.length_cons, List.length_nil, lit_nil, lit_dq, lit_sq]); omega); intro _ _)
  | (refine' x_item ?a ?b ?_ ?z ?c ?d; (case a => omega); (case b => omega); (case z => omega); (case c => k_dflt rfl); (case d => intro _; k_dflt rfl); intro _ _)
  | (refine' x_slice_ss ?x ?_ ?z ?c ?d; (case x => assumption); (case z => omega); (case c => intro _; k_dflt rfl); (case d => intro _; k_dflt rfl); intro _ _ _ _)
  | (refine' x_slice_sn ?x ?_ ?z ?c ?d; (case x => assumption); (case z => omega); (case c => intro _; k_dflt rfl); (case d => intro _; k_dflt rfl); intro _ _ _ _)
  | (refine' x_slice_ns ?x ?_ ?z ?c ?d; (case x => assumption); (case z => omega); (case c => intro _; k_dflt rfl); (case d => intro _; k_dflt rfl); intro _ _ _ _)
  | refine br_true ?_
  | refine br_false ?_
  | refine br_ntrue ?_
  | refine br_nfalse ?_
  | (refine br_dec ?_ ?_ <;> intro _)
  | (refine br_ndec ?_ ?_ <;> intro _)
  | (refine br_nndec ?_ ?_ <;> intro _)
  | (refine br_nb ?_ ?_ <;> intro _)
  | (refine br_b ?_ ?_ <;> intro _)
  | refine r_and0 ?_
  | refine r_out ?_
  | refine r_outc ?_
  | refine r_back ?_))


open PySem.Builtin._codecs in
/-- what the bytes are in a charset -/
def DecR (enc bs l : List Nat) : Prop := (enc = lit "utf-8" → Runs utf8Decoder (B8 bs) 0 l) ∧ (enc ≠ lit "utf-8" → enc = lit "iso-8859-1" → Runs latin1Decoder (B8 bs) 0 l) ∧ (enc ≠ lit "utf-8" → enc ≠ lit "iso-8859-1" → Runs asciiDecoder (B8 bs) 0 l)
theorem text_spec {w : World} {A : Around} {E : Value → Shared → Prop} {s : Shared} {h : Heap} {tk : Nat} {Q : Value → Shared → Prop} {bs enc l : List Nat} {t u : Tok} (W : Wd w h) (hdp : A.depth + 2 < recursionLimit) (hl : DecR enc bs l) (hz : bs.length ≤ 1000) (hl2 : l.length ≤ 100000)
   (H : ∀ h' tk' t', h.StaysIn h' → Q (.str (S l) t') (st s h' tk')) :
   wpAny (model pg w) A (call (.ref 38) [.bytes (B8 bs) t, .str (S enc) u]) Q E (st s h tk) := by
  refine call_pure2 W (p := "octets") (q := "encoding") (by rfl) (by rfl) (by omega) (by rfl) ⟨by rfl, by rfl⟩ fun L h₁ tk₁ X => ?_
  have MARK : True := trivial
  repeat' (walk_at "s")
  · refine m_dec_u (hl.1 ‹_›) (by omega) hl2 fun h' t' tk' k => ?_
    exact H _ _ _ fun b o e => k _ _ (X.F.keep b o e)
  · refine m_dec_l (hl.2.1 ‹_› ‹_›) (by omega) hl2 fun h' t' tk' k => ?_
    exact H _ _ _ fun b o e => k _ _ (X.F.keep b o e)
  · refine m_dec_a (hl.2.2 ‹_› ‹_›) (by omega) hl2 fun h' t' tk' k => ?_
    exact H _ _ _ fun b o e => k _ _ (X.F.keep b o e)
end Mine
end
section
open PySem PySem.W PySem.Calls PyProof.Rows PyProof
set_option Elab.async false
set_option maxRecDepth 100000
set_option maxHeartbeats 2000000
set_option autoImplicit false
namespace Mine
section
variable {w : World} {A : Around} {E : Value → Shared → Prop} {s : Shared} {h g : Heap} {tk : Nat} {L a : Addr} {m : Str → Option Value} {nw : List (Addr × Obj)} {env : Env} {l : List Nat} {t u : Tok}
theorem typeCall_int_2 (a b : Value) : checkTypeCall "int" ⟨[a, b], []⟩ = pure () := by kernel_rfl
theorem newCall_int_2 (a b : Value) : checkBuiltinCall "int.__new__" ⟨[.type "int", a, b], []⟩ = pure () := by kernel_rfl
theorem args_oi3 (a b c : Value) : argsOk "object.__init__" ⟨[a, b, c], []⟩ := by unfold argsOk; kernel_rfl
/-- the pairs of hex figures that the stretches have -/
def hexs : List (Nat × Nat × Nat) := [(52, 49, 65), (67, 51, 195), (65, 57, 169), (70, 70, 255), (69, 50, 226), (56, 50, 130)]
theorem wp_eq {α : Type} {M : Model} {a b : Sem α} {Q : α → Shared → Prop} (e : a = b) (h : wpAny M A b Q E s) : wpAny M A a Q E s := e ▸ h
theorem gives_hex65 (t u : Tok) : Gives (Builtin.«int.__new__» ⟨[.type "int", .str (S [52, 49]) t, .int 16 u], []⟩) (.int 65) := by
  refine .of_wp fun M A E s Q h => ?_
  obtain ⟨hp, g, d, tk, os⟩ := s
  have f1 := F.conv_sub_int
  have f2 := F.madeHere_int
  repeat (any_goals (first
    | assumption
    | ((with_reducible show wpAny _ _ ((int_private% "intFromText") _ _ _) _ _ _); refine wp_eq (b := mkInt 65) (by kernel_rfl) ?_)
    | wp_step))
  all_goals exact ⟨_, rfl, h⟩
theorem gives_hex195 (t u : Tok) : Gives (Builtin.«int.__new__» ⟨[.type "int", .str (S [67, 51]) t, .int 16 u], []⟩) (.int 195) := by
  refine .of_wp fun M A E s Q h => ?_
  obtain ⟨hp, g, d, tk, os⟩ := s
  have f1 := F.conv_sub_int
  have f2 := F.madeHere_int
  repeat (any_goals (first
    | assumption
    | ((with_reducible show wpAny _ _ ((int_private% "intFromText") _ _ _) _ _ _); refine wp_eq (b := mkInt 195) (by kernel_rfl) ?_)
    | wp_step))
  all_goals exact ⟨_, rfl, h⟩
theorem gives_hex169 (t u : Tok) : Gives (Builtin.«int.__new__» ⟨[.type "int", .str (S [65, 57]) t, .int 16 u], []⟩) (.int 169) := by
  refine .of_wp fun M A E s Q h => ?_
  obtain ⟨hp, g, d, tk, os⟩ := s
  have f1 := F.conv_sub_int
  have f2 := F.madeHere_int
  repeat (any_goals (first
    | assumption
    | ((with_reducible show wpAny _ _ ((int_private% "intFromText") _ _ _) _ _ _); refine wp_eq (b := mkInt 169) (by kernel_rfl) ?_)
    | wp_step))
  all_goals exact ⟨_, rfl, h⟩
theorem gives_hex255 (t u : Tok) : Gives (Builtin.«int.__new__» ⟨[.type "int", .str (S [70, 70]) t, .int 16 u], []⟩) (.int 255) := by
  refine .of_wp fun M A E s Q h => ?_
  obtain ⟨hp, g, d, tk, os⟩ := s
  have f1 := F.conv_sub_int
  have f2 := F.madeHere_int
  repeat (any_goals (first
    | assumption
    | ((with_reducible show wpAny _ _ ((int_private% "intFromText") _ _ _) _ _ _); refine wp_eq (b := mkInt 255) (by kernel_rfl) ?_)
    | wp_step))
  all_goals exact ⟨_, rfl, h⟩
theorem gives_hex226 (t u : Tok) : Gives (Builtin.«int.__new__» ⟨[.type "int", .str (S [69, 50]) t, .int 16 u], []⟩) (.int 226) := by
  refine .of_wp fun M A E s Q h => ?_
  obtain ⟨hp, g, d, tk, os⟩ := s
  have f1 := F.conv_sub_int
  have f2 := F.madeHere_int
  repeat (any_goals (first
    | assumption
    | ((with_reducible show wpAny _ _ ((int_private% "intFromText") _ _ _) _ _ _); refine wp_eq (b := mkInt 226) (by kernel_rfl) ?_)
    | wp_step))
  all_goals exact ⟨_, rfl, h⟩
theorem gives_hex130 (t u : Tok) : Gives (Builtin.«int.__new__» ⟨[.type "int", .str (S [56, 50]) t, .int 16 u], []⟩) (.int 130) := by
  refine .of_wp fun M A E s Q h => ?_
  obtain ⟨hp, g, d, tk, os⟩ := s
  have f1 := F.conv_sub_int
  have f2 := F.madeHere_int
  repeat (any_goals (first
    | assumption
    | ((with_reducible show wpAny _ _ ((int_private% "intFromText") _ _ _) _ _ _); refine wp_eq (b := mkInt 130) (by kernel_rfl) ?_)
    | wp_step))
  all_goals exact ⟨_, rfl, h⟩
theorem p_int16 {x y v : Nat} {Q : Value → Shared → Prop} (hp : (x, y, v) ∈ hexs) (H : ∀ t' tk', Q (.int (v : Int) t') (st s h tk')) : wpAny (model pg w) A (call (.type "int") [.str (S [x, y]) t, .int 16 u]) Q E (st s h tk) := by
  have main : ∀ {S' : PySem.Spec}, Meets (Builtin.«int.__new__» ⟨[.type "int", .str (S [x, y]) t, .int 16 u], []⟩) S' → S' A.in1 (wants (fun obj s₁ => s₁.TypeIs obj "int" ∧ Q obj s₁) E) (st s h tk) → wpAny (model pg w) A (call (.type "int") [.str (S [x, y]) t, .int 16 u]) Q E (st s h tk) := fun g hS =>
    callType_new F.called_int F.newNe_int (typeCall_int_2 _ _) (newCall_int_2 _ _) (fun obj => args_oi3 obj _ _) F.entry_int_new g hS
  have fin : (Made.int (v : Int)).post (fun v s' => (wants (fun obj s₁ => s₁.TypeIs obj "int" ∧ Q obj s₁) E) (.ok (.ret v)) s') (st s h tk) := ⟨rfl, H _ _⟩
  simp only [hexs, List.mem_cons, List.not_mem_nil, or_false, Prod.mk.injEq] at hp
  rcases hp with ⟨rfl, rfl, rfl⟩ | ⟨rfl, rfl, rfl⟩ | ⟨rfl, rfl, rfl⟩ | ⟨rfl, rfl, rfl⟩ | ⟨rfl, rfl, rfl⟩ | ⟨rfl, rfl, rfl⟩
  · exact main (gives_hex65 t u).meets fin
  · exact main (gives_hex195 t u).meets fin
  · exact main (gives_hex169 t u).meets fin
  · exact main (gives_hex255 t u).meets fin
  · exact main (gives_hex226 t u).meets fin
  · exact main (gives_hex130 t u).meets fin
end
end Mine
end
section
open PySem PySem.W PySem.Calls PyProof.Rows PyProof
set_option Elab.async false
set_option maxRecDepth 100000
set_option maxHeartbeats 2000000
set_option autoImplicit false
namespace Mine
section
variable {w : World} {A : Around} {E : Value → Shared → Prop} {s : Shared} {h g : Heap} {tk : Nat} {L a : Addr} {m : Str → Option Value} {nw : List (Addr × Obj)} {env : Env} {l : List Nat} {t u : Tok}
theorem noI_bytes_add : typeLookup (.type "bytes") (dunderI "add") = pure none := by rw [typeLookup_type, builtinLookup_eq_fast]; kernel_rfl
theorem B8_append (b c : List Nat) : B8 b ++ B8 c = B8 (b ++ c) := by simp [B8]
theorem B8_size (b : List Nat) : (B8 b).size = b.length := by simp [B8]
theorem b_iaddB {b c : List Nat} {Q : Value → Shared → Prop} (H : ∀ t' tk', Q (.bytes (B8 (b ++ c)) t') (st s h tk')) (hz : b.length + c.length ≤ 1000000) : wpAny (model pg w) A (inplaceOp .Add (.bytes (B8 b) t) (.bytes (B8 c) u)) Q E (st s h tk) := by
  refine iconcat_gives (typeIs_bytes _ _ t) (typeIs_bytes _ _ u) noI_bytes_add KBy.noFill_bytes_add KBy.seq_bytes_add FB.slot_bytes_add FB.entry_bytes_add (FB.args_bytes_add_2 _ _) (KBy.gives_bytes_add (KBy.tooLong_not (by rw [B8_size, B8_size]; omega))) ?_
  have e := B8_append b c
  by_cases hb : (B8 b).isEmpty = true
  · rw [if_pos hb]
    rw [Array.isEmpty_iff.1 hb, Array.empty_append] at e
    have h' := H u tk
    rw [← e] at h'
    exact h'
  · rw [if_neg hb]
    by_cases hc : (B8 c).isEmpty = true
    · rw [if_pos hc]
      rw [Array.isEmpty_iff.1 hc, Array.append_empty] at e
      have h' := H t tk
      rw [← e] at h'
      exact h'
    · rw [if_neg hc, e]
      exact ⟨by rw [B8_size, sizeLine_eq]; simp; omega, H _ _⟩
theorem r_bytes0 {k pos} {Q : Value → Shared → Prop} (H : ∀ t tk', Q (.bytes (B8 []) t) (st s h tk')) : wpAny (model pg w) A (eval (.Constant (.bytes []) k pos) env) Q E (st s h tk) := by
  rw [arm_eval_Constant]
  show wpAny _ _ (mkTextBytes #[]) _ _ _
  exact fun _ _ _ => H _ _
/-- a display of one sign -/
theorem r_list1 {e : Expr} {pos} {Q : Value → Shared → Prop} (H : wpAny (model pg w) A (eval e env) (fun v s₁ => ∃ g L s' h₁ tk₁ m nw, s₁ = st s' h₁ tk₁ ∧ Cx w g L m nw h₁ ∧ ∀ a h' tk', Cx w g L m ((a, PySem.W.listOf #[v] 0) :: nw) h' → Q (.ref a) (st s' h' tk')) E s)
    (he : starEach [e] env = (false, eval e env) :: starEach [] env := by k_dflt rfl) :
    wpAny (model pg w) A (eval (.List [e] pos) env) Q E s := by
  refine List_ (spliced_more (wpAny_mono H (fun v s₁ q => ?_) fun _ _ e => e) he)
  obtain ⟨g, L, s', h₁, tk₁, m, nw, rfl, X, H⟩ := q
  refine spliced_none (newList_N (s := st s' h₁ tk₁) X.F X.N (fun h' F' N' => H _ h' _ ⟨X.W, F', N'⟩) (by size_fits))
theorem r_unpack3 {x1 x2 x3 : Str} {p1 p2 p3 tp : Pos} {kk : Nat} {v1 v2 v3 : Value} {tu : Addr} {Q : Unit → Shared → Prop} (hh : A.handled = none) (X : Cx w g L m nw h) (ht : h.get? tu = some { cls := .type "tuple", data := .seq #[v1, v2, v3] })
    (H : ∀ h', Cx w g L m nw h' → wpAny (model pg w) A (storeName env x1 v1) (fun _ s₁ => wpAny (model pg w) A (storeName env x2 v2) (fun _ s₂ => wpAny (model pg w) A (storeName env x3 v3) Q E s₂) E s₁) E (st s h' tk)) :
    wpAny (model pg w) A (assign (.Tuple [.Name x1 p1, .Name x2 p2, .Name x3 p3] kk tp) env (.ref tu)) Q E (st s h tk) := by
  refine wpAny_assign_Tuple (s := st s h tk) (items := #[v1, v2, v3]) hh ⟨_, ht, rfl, 0, rfl⟩ rfl rfl fun h' hx => ?_
  have X' : Cx w g L m nw h' := X.more fun b o e => hx b o (Nat.ne_of_lt (Heap.lt_size e)) e
  show wpAny _ _ (assignInOrder [fun v => assign (.Name x1 p1) env v, fun v => assign (.Name x2 p2) env v, fun v => assign (.Name x3 p3) env v] [v1, v2, v3]) _ _ (st s h' tk)
  refine wpAny_assignInOrder_more (wpAny_assign_Name (wpAny_mono (H h' X') (fun _ s₁ q => ?_) fun _ _ e => e))
  refine wpAny_assignInOrder_more (wpAny_assign_Name (wpAny_mono q (fun _ s₂ q => ?_) fun _ _ e => e))
  exact wpAny_assignInOrder_more (wpAny_assign_Name (wpAny_mono q (fun _ s₃ q => wpAny_assignInOrder_none q) fun _ _ e => e))
theorem r_unpack2 {x1 x2 : Str} {p1 p2 tp : Pos} {kk : Nat} {v1 v2 : Value} {tu : Addr} {Q : Unit → Shared → Prop} (hh : A.handled = none) (X : Cx w g L m nw h) (ht : h.get? tu = some { cls := .type "tuple", data := .seq #[v1, v2] })
    (H : ∀ h', Cx w g L m nw h' → wpAny (model pg w) A (storeName env x1 v1) (fun _ s₁ => wpAny (model pg w) A (storeName env x2 v2) Q E s₁) E (st s h' tk)) :
    wpAny (model pg w) A (assign (.Tuple [.Name x1 p1, .Name x2 p2] kk tp) env (.ref tu)) Q E (st s h tk) := by
  refine wpAny_assign_Tuple (s := st s h tk) (items := #[v1, v2]) hh ⟨_, ht, rfl, 0, rfl⟩ rfl rfl fun h' hx => ?_
  have X' : Cx w g L m nw h' := X.more fun b o e => hx b o (Nat.ne_of_lt (Heap.lt_size e)) e
  show wpAny _ _ (assignInOrder [fun v => assign (.Name x1 p1) env v, fun v => assign (.Name x2 p2) env v] [v1, v2]) _ _ (st s h' tk)
  refine wpAny_assignInOrder_more (wpAny_assign_Name (wpAny_mono (H h' X') (fun _ s₁ q => ?_) fun _ _ e => e))
  exact wpAny_assignInOrder_more (wpAny_assign_Name (wpAny_mono q (fun _ s₃ q => wpAny_assignInOrder_none q) fun _ _ e => e))
theorem r_asgtup {elts : List Expr} {kk : Nat} {tp pos : Pos} {value : Expr} {Q : Flow → Shared → Prop} {K : Shared → Prop}
    (H : wpAny (model pg w) A (eval value env) (fun v s₁ => wpAny (model pg w) A (assign (.Tuple elts kk tp) env v) (fun _ => K) E s₁) E s)
    (hs : swapsWithSole [.Tuple elts kk tp] value pos.line env = pure false := by rfl) (hw : swappedStores [.Tuple elts kk tp] value env = pure none := by rfl) :
    wpAny (model pg w) A (exec (.Assign [.Tuple elts kk tp] value pos) env) (Seq Q K) E s := Assign_Tuple H hs hw
theorem r_tuple {elts : List Expr} {kk : Nat} {pos : Pos} {Q : Value → Shared → Prop}
    (H : wpAny (model pg w) A (spliced (backTo pos (starEach elts env))) (fun vs s₁ => ∃ g L s' h₁ tk₁ m nw, s₁ = st s' h₁ tk₁ ∧ Cx w g L m nw h₁ ∧ vs.length ≤ 1000 ∧ ∀ a h', Cx w g L m ((a, { cls := .type "tuple", data := .seq vs.toArray }) :: nw) h' → Q (.ref a) (st s' h' tk₁)) E s) :
    wpAny (model pg w) A (eval (.Tuple elts kk pos) env) Q E s := by
  refine Tuple_ (wpAny_mono H (fun vs s₁ q => ?_) fun _ _ e => e)
  obtain ⟨g, L, s', h₁, tk₁, m, nw, rfl, X, hz, H⟩ := q
  refine wpAny_newTuple (H h₁.objs.size _ ⟨X.W, X.F.push _, fun p hp => ?_⟩) (by rw [sizeLine_eq]; omega)
  rcases List.mem_cons.mp hp with rfl | hp
  · exact ⟨Heap.get?_push_size _ rfl, Nat.ne_of_gt X.F.ns.lt, next_is_new X.F⟩
  · exact ⟨Heap.get?_push_of_some _ (X.N p hp).1, (X.N p hp).2⟩
theorem c_bytes1 {v : Nat} {t' : Tok} {Q : Value → Shared → Prop} (hh : A.handled = none) (X : Cx w g L m ((a, PySem.W.listOf #[.int (v : Int) t'] 0) :: nw) h) (hv : v < 256) (H : ∀ t h' tk', Cx w g L m nw h' → Q (.bytes (B8 [v]) t) (st s h' tk')) :
    wpAny (model pg w) A (call (.type "bytes") [.ref a]) Q E (st s h tk) := by
  refine call_bytes_ints (s := st s h tk) (l := a) (vs := [.int (v : Int) t']) (ns := [(v : Int)]) ⟨_, (X.N _ (.head _)).1, rfl, 0, rfl⟩ (.cons _ _ .nil) (by intro n hn; rcases List.mem_singleton.mp hn with rfl; omega) (by show 1 ≤ sizeLine; decide) hh fun h' t k hk => ?_
  have e : byteArr [(v : Int)] = B8 [v] := by simp [byteArr, B8]
  rw [e]
  have X' := X.more hk
  exact H t h' k ⟨X'.W, X'.F, fun p hp => X'.N p (.tail _ hp)⟩
theorem in_S {l : List Nat} {c : Nat} {Q : Value → Shared → Prop} (H : Q (.bool (decide (c ∈ l))) s) : wpAny (model pg w) A (compareOp .In (.str (S [c]) t) (.str (S l) u)) Q E s :=
  PyProof.Rows.in_str (by rw [show S [c] = ⟨#[c]⟩ from rfl, StrLaws.found_one]; exact H)
theorem p_ord {c : Nat} {Q : Value → Shared → Prop} (H : ∀ t' tk', Q (.int (c : Int) t') (st s h tk')) : wpAny (model pg w) A (call (.builtin "ord") [.str (S [c]) t]) Q E (st s h tk) := PySem.P.ord_of_char (H _ _)
theorem c_ty {pos : Pos} {T : String} {e : Expr} {rest : List Expr} {Q : Value → Shared → Prop}
    (H : wpAny (model pg w) A (spliced (backTo pos (starEach (e :: rest) env))) (fun vs s₁ => wpAny (model pg w) A (call (.type T) vs) Q E s₁) E s)
    (he : starEach (e :: rest) env = (false, eval e env) :: starEach rest env := by k_dflt rfl)
    (hplain : (backTo pos (starEach rest env)).any (·.1) = false := by k_dflt rfl) :
    wpAny (model pg w) A (callWith pos (.type T) [] (backTo pos (starEach (e :: rest) env)) []) Q E s := callWith_type1 H he hplain
/-- the end of a display's items -/
theorem d_end {v : Value} {P : Shared → Addr → Heap → Nat → Prop} (X : Cx w g L m nw h) (H : ∀ a h' tk', Cx w g L m ((a, PySem.W.listOf #[v] 0) :: nw) h' → P s a h' tk') :
    ∃ g L s' h₁ tk₁ m nw, st s h tk = st s' h₁ tk₁ ∧ Cx w g L m nw h₁ ∧ ∀ a h' tk', Cx w g L m ((a, PySem.W.listOf #[v] 0) :: nw) h' → P s' a h' tk' := ⟨g, L, s, h, tk, m, nw, rfl, X, H⟩
theorem t_end {vs : List Value} {P : Shared → Nat → Addr → Heap → Prop} (X : Cx w g L m nw h) (hz : vs.length ≤ 1000) (H : ∀ a h', Cx w g L m ((a, { cls := .type "tuple", data := .seq vs.toArray }) :: nw) h' → P s tk a h') :
    ∃ g L s' h₁ tk₁ m nw, st s h tk = st s' h₁ tk₁ ∧ Cx w g L m nw h₁ ∧ vs.length ≤ 1000 ∧ ∀ a h', Cx w g L m ((a, { cls := .type "tuple", data := .seq vs.toArray }) :: nw) h' → P s' tk₁ a h' := ⟨g, L, s, h, tk, m, nw, rfl, X, hz, H⟩
theorem r_bytesC {b : List UInt8} {k pos} {Q : Value → Shared → Prop} (H : ∀ t tk', Q (.bytes b.toArray t) (st s h tk')) : wpAny (model pg w) A (eval (.Constant (.bytes b) k pos) env) Q E (st s h tk) := by
  rw [arm_eval_Constant]
  show wpAny _ _ (mkTextBytes b.toArray) _ _ _
  exact fun _ _ _ => H _ _
theorem r_listN {elts : List Expr} {pos} {Q : Value → Shared → Prop}
    (H : wpAny (model pg w) A (spliced (backTo pos (starEach elts env))) (fun vs s₁ => ∃ g L s' h₁ tk₁ m nw, s₁ = st s' h₁ tk₁ ∧ Cx w g L m nw h₁ ∧ vs.length ≤ 1001 ∧ ∀ a h' tk', Cx w g L m ((a, PySem.W.listOf vs.toArray 0) :: nw) h' → Q (.ref a) (st s' h' tk')) E s) :
    wpAny (model pg w) A (eval (.List elts pos) env) Q E s := by
  refine List_ (wpAny_mono H (fun vs s₁ q => ?_) fun _ _ e => e)
  obtain ⟨g, L, s', h₁, tk₁, m, nw, rfl, X, hz, H⟩ := q
  exact newList_N (s := st s' h₁ tk₁) X.F X.N (fun h' F' N' => H _ h' _ ⟨X.W, F', N'⟩) (by rw [sizeLine_eq]; omega)
theorem l_end {vs : List Value} {P : Shared → Addr → Heap → Nat → Prop} (X : Cx w g L m nw h) (hz : vs.length ≤ 1001) (H : ∀ a h' tk', Cx w g L m ((a, PySem.W.listOf vs.toArray 0) :: nw) h' → P s a h' tk') :
    ∃ g L s' h₁ tk₁ m nw, st s h tk = st s' h₁ tk₁ ∧ Cx w g L m nw h₁ ∧ vs.length ≤ 1001 ∧ ∀ a h' tk', Cx w g L m ((a, PySem.W.listOf vs.toArray 0) :: nw) h' → P s' a h' tk' := ⟨g, L, s, h, tk, m, nw, rfl, X, hz, H⟩
end
end Mine
end
section
open PySem PySem.W PySem.Calls PyProof.Rows PyProof
set_option Elab.async false
set_option maxRecDepth 100000
set_option maxHeartbeats 4000000
set_option autoImplicit false
namespace Mine
local macro_rules | `(tactic| walk_at "n") => `(tactic| first
  | (refine' r_name ?l ?k ?n ?v ?_ ?b; (case l => k_dflt rfl); (case k => k_dflt rfl); (case n => k_dflt (first | exact Cx.ns (by assumption) | exact Ck.ns (by assumption))); (case v => k_dflt (first | rfl | assumption)); (case b => k_dflt decide))
  | (refine' r_glob ?l ?k ?g ?e ?w ?_ ?b; (case l => k_dflt rfl); (case k => k_dflt rfl); (case g => k_dflt rfl); (case e => first | exact gl_read _ | exact gl_items _ | exact gl_decoded _ | exact gl_charset _ | exact gl_dict _ | exact gl_text _ | exact gl_unquote _ | exact gl_unslash _ | exact gl_uhv _ | exact gl_plh _ | exact gl_pdh _ | exact gl_cvre _ | exact gl_pieces _ | exact gl_stretches _ | exact gl_charsets _ | assumption); (case w => first | exact Cx.wd (by assumption) | exact Ck.wd (by assumption) | assumption); (case b => k_dflt decide))
  | (refine' r_bi ?l ?k ?g ?h (gl_len _) bb_len ?n ?w ?_ ?b; (case l => k_dflt rfl); (case k => k_dflt rfl); (case g => k_dflt rfl); (case h => k_dflt rfl); (case n => k_dflt decide); (case w => first | exact Cx.wd (by assumption) | exact Ck.wd (by assumption) | assumption); (case b => k_dflt decide))
  | (refine' r_bi ?l ?k ?g ?h (gl_ord _) bb_ord ?n ?w ?_ ?b; (case l => k_dflt rfl); (case k => k_dflt rfl); (case g => k_dflt rfl); (case h => k_dflt rfl); (case n => k_dflt decide); (case w => first | exact Cx.wd (by assumption) | exact Ck.wd (by assumption) | assumption); (case b => k_dflt decide))
  | (refine' r_bi ?l ?k ?g ?h (gl_int _) bb_int ?n ?w ?_ ?b; (case l => k_dflt rfl); (case k => k_dflt rfl); (case g => k_dflt rfl); (case h => k_dflt rfl); (case n => k_dflt decide); (case w => first | exact Cx.wd (by assumption) | exact Ck.wd (by assumption) | assumption); (case b => k_dflt decide))
  | (refine' r_bi ?l ?k ?g ?h (gl_bytes _) bb_bytes ?n ?w ?_ ?b; (case l => k_dflt rfl); (case k => k_dflt rfl); (case g => k_dflt rfl); (case h => k_dflt rfl); (case n => k_dflt decide); (case w => first | exact Cx.wd (by assumption) | exact Ck.wd (by assumption) | assumption); (case b => k_dflt decide))
  | (refine' r_bi ?l ?k ?g ?h (gl_list _) bb_list ?n ?w ?_ ?b; (case l => k_dflt rfl); (case k => k_dflt rfl); (case g => k_dflt rfl); (case h => k_dflt rfl); (case n => k_dflt decide); (case w => first | exact Cx.wd (by assumption) | exact Ck.wd (by assumption) | assumption); (case b => k_dflt decide)))
local macro_rules | `(tactic| walk_at "s") => `(tactic| (with_reducible first
  | (refine' r_cons ?_)
  | (refine' r_nil ?_)
  | (refine' r_assign ?_ ?a; (case a => k_dflt rfl))
  | (refine' r_if ?_)
  | (refine' r_ret ?_)
  | (refine' r_continue ?_)
  | (refine' r_aug ?_)
  | (refine' r_store ?x ?_ ?a ?b; (case x => assumption); (case a => k_dflt rfl); (case b => k_dflt rfl); intro _ _ _)
  | ((show wpAny _ _ (eval (Expr.Name _ _) _) _ _ _); walk_at "n")
  | (refine' r_load ?l ?k ?n ?v ?_; (case l => k_dflt rfl); (case k => k_dflt rfl); (case n => k_dflt (first | exact Cx.ns (by assumption) | exact Ck.ns (by assumption))); (case v => k_dflt (first | rfl | assumption)))
  | (refine' r_int ?_; intro _ _)
  | (refine' r_str ?_; intro _ _)
  | (refine' r_bool ?_)
  | (refine' r_none ?_)
  | (refine' r_expr ?_ ?a ?b; (case a => k_dflt rfl); (case b => k_dflt rfl))
  | (refine' and_none ?_)
  | (refine' r_list0 ?x ?_; (case x => assumption); intro _ _ _ _ _)
  | (refine' gm_append ?x ?_; (case x => assumption))
  | (refine' m_append ?x ?e ?z ?_; (case x => assumption); (case e => first | assumption | exact List.forall_mem_nil _); (case z => omega); intro _ _ _)
  | (refine' e_not ?_)
  | (refine' v_str ?z ?_; (case z => (try simp only [List.length_append, List.length_cons, List.length_nil, lit_nil, lit_dq, lit_sq]); omega); intro _)
  | (refine' gm_strip ?_)
  | (refine' m_strip ?z ?_; (case z => omega); intro _ _)
  | (refine' r_binop ?_)
  | (refine' r_cmp ?_ ?a; (case a => k_dflt rfl))
  | (refine' r_ifexp ?_)
  | (refine' t_cmp ?_ ?a; (case a => k_dflt rfl))
  | (refine' t_not ?_)
  | (refine' t_and0 ?_)
  | (refine' t_or0 ?_)
  | (refine' t_and ?_)
  | (refine' t_or ?_)
  | (refine' t_name ?_)
  | (refine' t_call ?_)
  | (refine' v_bool ?_)
  | (refine' r_call ?_ ?a; (case a => k_dflt rfl))
  | (refine' r_mcall ?_ ?a; (case a => exact ⟨_, by k_dflt rfl⟩); intro _)
  | (refine' c_fn ?_ ?a ?b; (case a => k_dflt rfl); (case b => k_dflt rfl))
  | (refine' c_me ?_ ?a ?b; (case a => k_dflt rfl); (case b => k_dflt rfl))
  | (refine' c_bi0 ?_)
  | (refine' sp_more ?_ ?a; (case a => k_dflt rfl))
  | (refine' sp_none ?_)
  | (refine' c_def ?w ?k ?_ ?a ?b; (case w => first | exact Cx.wd (by assumption) | exact Ck.wd (by assumption) | assumption); (case k => first | exact kp_38 _ | exact kp_45 _ | exact kp_57 _ | exact kp_62 _ | exact kp_69 _ | exact kp_82 _ | exact kp_89 _ | exact kp_96 _ | exact kp_101 _ | exact kp_106 _ | exact kp_111 _ | exact kp_118 _); (case a => k_dflt rfl); (case b => k_dflt rfl))
  | (refine' c_def0 ?w ?k ?_; (case w => first | exact Cx.wd (by assumption) | exact Ck.wd (by assumption) | assumption); (case k => first | exact kp_82 _ | exact kp_89 _))
  | (refine' in_K ?w ?_; (case w => first | exact Cx.wd (by assumption) | exact Ck.wd (by assumption) | assumption))
  | (refine' r_sub ?_)
  | (refine' s_slice ?_)
  | (refine' s_some ?_)
  | (refine' s_none ?_)
  | (refine' r_neg ?_; intro _ _)
  | (refine' gm_starts ?_)
  | (refine' gm_ends ?_)
  | (refine' m_starts ?c ?_; (case c => first | exact lit_dq | exact lit_star))
  | (refine' m_ends ?c ?_; (case c => first | exact lit_dq | exact lit_star))
  | (refine' r_or2 ?_)
  | (refine' gm_group ?x ?_; (case x => assumption))
  | (refine' m_group ?x ?k ?z ?_; (case x => assumption); (case k => assumption); (case z => omega); intro _ _)
  | (refine' gm_decode ?_)
  | (refine' gm_sub ?w ?_; (case w => first | exact Cx.wd (by assumption) | assumption))
  | (refine' b_addI ?_; intro _ _)
  | (refine' b_subI ?_; intro _ _)
  | (refine' q_ltI ?_)
  | (refine' q_gtI ?_)
  | (refine' q_geI ?_)
  | (refine' q_eqS ?_)
  | (refine' q_neS ?_)
  | (refine' b_iaddS ?_ ?z; (case z => (try simp only [List.length_append, List.length_cons, List.length_nil, lit_nil, lit_dq, lit_sq]); omega); intro _ _)
  | (refine' b_iaddI ?_; intro _ _)
  | (refine' p_len ?_ ?z; (case z => omega); intro _ _)
  | (refine' b_addS ?_ ?z; (case z => (try simp only [List.length_append, List.length_cons, List.length_nil, lit_nil, lit_dq, lit_sq]); omega); intro _ _)
  | (refine' x_item ?a ?b ?_ ?z ?c ?d; (case a => omega); (case b => omega); (case z => omega); (case c => k_dflt rfl); (case d => intro _; k_dflt rfl); intro _ _)
  | (refine' x_slice_ss ?x ?_ ?z ?c ?d; (case x => assumption); (case z => omega); (case c => intro _; k_dflt rfl); (case d => intro _; k_dflt rfl); intro _ _ _ _)
  | (refine' x_slice_sn ?x ?_ ?z ?c ?d; (case x => assumption); (case z => omega); (case c => intro _; k_dflt rfl); (case d => intro _; k_dflt rfl); intro _ _ _ _)
  | (refine' x_slice_ns ?x ?_ ?z ?c ?d; (case x => assumption); (case z => omega); (case c => intro _; k_dflt rfl); (case d => intro _; k_dflt rfl); intro _ _ _ _)
  | (refine' b_iaddB ?_ ?z; (case z => (try simp only [List.length_append, List.length_cons, List.length_nil]); omega); intro _ _)
  | (refine' r_bytes0 ?_; intro _ _)
  | (refine' r_bytesC ?_; intro _ _)
  | (refine' r_list1 ?_ ?e; (case e => k_dflt rfl))
  | (refine' d_end ?x ?_; (case x => assumption); intro _ _ _ _)
  | (refine' r_listN ?_)
  | (refine' l_end ?x ?z ?_; (case x => assumption); (case z => simp only [List.length_cons, List.length_nil]; omega); intro _ _ _ _)
  | (refine' r_asgtup ?_ ?a ?b; (case a => k_dflt rfl); (case b => k_dflt rfl))
  | (refine' r_tuple ?_)
  | (refine' t_end ?x ?z ?_; (case x => assumption); (case z => simp only [List.length_cons, List.length_nil]; omega); intro _ _ _)
  | (refine' r_unpack3 ?h ?x ?t ?_; (case h => k_dflt assumption); (case x => assumption); (case t => k_dflt (exact (Cx.N (by assumption) _ (.head _)).1)); intro _ _)
  | (refine' c_ty ?_ ?a ?b; (case a => k_dflt rfl); (case b => k_dflt rfl))
  | (refine' in_S ?_)
  | (refine' p_ord ?_; intro _ _)
  | (refine' c_bytes1 ?h ?x ?v ?_; (case h => k_dflt assumption); (case x => assumption); (case v => omega); intro _ _ _ _)
  | refine br_true ?_
  | refine br_false ?_
  | refine br_ntrue ?_
  | refine br_nfalse ?_
  | (refine br_dec ?_ ?_ <;> intro _)
  | (refine br_ndec ?_ ?_ <;> intro _)
  | (refine br_nndec ?_ ?_ <;> intro _)
  | (refine br_nb ?_ ?_ <;> intro _)
  | (refine br_b ?_ ?_ <;> intro _)
  | refine r_and0 ?_
  | refine r_out ?_
  | refine r_outc ?_
  | refine r_back ?_))


def hexV (a b : Nat) : Nat := ((hexs.find? fun p => p.1 == a && p.2.1 == b).map (·.2.2)).getD 0
/-- the octets of a text with stretches by percent -/
def unqB : List Nat → List Nat
  | 37 :: a :: b :: r => hexV a b :: unqB r
  | c :: r => c :: unqB r
  | [] => []
/-- each percent sign begins a stretch -/
inductive Hex : List Nat → Prop
  | nil : Hex []
  | ch {c r} : c ≠ 37 → c < 128 → Hex r → Hex (c :: r)
  | pc {a b v r} : (a, b, v) ∈ hexs → Hex r → Hex (37 :: a :: b :: r)
def UnqI (x enc : List Nat) (n : Nat) (m : Str → Option Value) (_nw : List (Addr × Obj)) : Prop :=
  ∃ (i : Nat) (o : List Nat) (t t1 t2 t3 t4 : Tok), m "string" = some (.str (S x) t) ∧ m "encoding" = some (.str (S enc) t4) ∧ m "out" = some (.str (S []) t1) ∧ m "octets" = some (.bytes (B8 o) t2) ∧ m "pos" = some (.int i t3) ∧ i ≤ x.length ∧ n = x.length - i ∧ o.length ≤ i ∧
    o ++ unqB (x.drop i) = unqB x ∧ Hex (x.drop i)
theorem hex_inv {l : List Nat} (h : Hex l) : l = [] ∨ (∃ c r, l = c :: r ∧ c ≠ 37 ∧ c < 128 ∧ Hex r) ∨ ∃ a b v r, l = 37 :: a :: b :: r ∧ (a, b, v) ∈ hexs ∧ Hex r := by
  cases h with
  | nil => exact .inl rfl
  | ch h1 h2 h3 => exact .inr (.inl ⟨_, _, rfl, h1, h2, h3⟩)
  | pc h1 h3 => exact .inr (.inr ⟨_, _, _, _, rfl, h1, h3⟩)
theorem hexV_of {a b v : Nat} (h : (a, b, v) ∈ hexs) : hexV a b = v := by
  have : ∀ p ∈ hexs, hexV p.1 p.2.1 = p.2.2 := by decide +kernel
  exact this _ h
theorem hex_at {x : List Nat} {i : Nat} (hi : i < x.length) (h : Hex (x.drop i)) : (x.getD i 0 ≠ 37 ∧ x.getD i 0 < 128 ∧ unqB (x.drop i) = x.getD i 0 :: unqB (x.drop (i + 1)) ∧ Hex (x.drop (i + 1))) ∨
    (x.getD i 0 = 37 ∧ i + 2 < x.length ∧ ∃ v, (x.getD (i + 1) 0, x.getD (i + 2) 0, v) ∈ hexs ∧ unqB (x.drop i) = v :: unqB (x.drop (i + 3)) ∧ Hex (x.drop (i + 3))) := by
  have e := drop_cons hi
  rcases hex_inv h with q | ⟨c, r, q, h1, h2, h3⟩ | ⟨a, b, v, r, q, h1, h3⟩
  · rw [e] at q; cases q
  · rw [e] at q
    injection q with q1 q2
    subst q1
    rw [← q2] at h3
    refine .inl ⟨h1, h2, ?_, h3⟩
    rw [e, unqB]
    intro a b r' q
    exact absurd q h1
  · have hlen : (x.drop i).length = x.length - i := by simp
    rw [q] at hlen
    simp at hlen
    have hl : i + 2 < x.length := by omega
    have e1 := drop_cons (l := x) (i := i + 1) (by omega)
    have e2 := drop_cons (l := x) (i := i + 2) (by omega)
    rw [e, e1, e2] at q
    injection q with q1 q2
    injection q2 with q2 q3
    injection q3 with q3 q4
    subst q2 q3
    rw [← q4] at h3
    refine .inr ⟨q1, hl, v, h1, ?_, h3⟩
    rw [e, e1, e2, q1, unqB, hexV_of h1]
theorem hex_dig {a b v : Nat} (h : (a, b, v) ∈ hexs) : a ∈ lit "0123456789ABCDEFabcdef" ∧ b ∈ lit "0123456789ABCDEFabcdef" ∧ v < 256 := by
  have : ∀ p ∈ hexs, p.1 ∈ lit "0123456789ABCDEFabcdef" ∧ p.2.1 ∈ lit "0123456789ABCDEFabcdef" ∧ p.2.2 < 256 := by decide +kernel
  exact this _ h
theorem unq_spec {w : World} {A : Around} {E : Value → Shared → Prop} {s : Shared} {h : Heap} {tk : Nat} {Q : Value → Shared → Prop} {x enc l : List Nat} {t u : Tok} {kw : List (Str × Value)} {vals : List Value} (W : Wd w h) (hh : A.handled = none) (hdp : A.depth + 4 < recursionLimit)
   (hb : vals = [.str (S x) t] ∧ kw = [(Str.ofString "encoding", .str (S enc) u)]) (hx : x.length ≤ 1000) (hs : Hex x) (hl : DecR enc (unqB x) l) (hl2 : l.length ≤ 100000)
   (H : ∀ h' tk' t', h.StaysIn h' → Q (.str (S l) t') (st s h' tk')) :
   wpAny (model pg w) A (call (.ref 45) vals kw) Q E (st s h tk) := by
  obtain ⟨rfl, rfl⟩ := hb
  refine call_pure2 W (p := "string") (q := "encoding") (by rfl) (by rfl) (by omega) (by rfl) ⟨by rfl, by rfl⟩ fun L h₁ tk₁ X => ?_
  have MARK : True := trivial
  obtain ⟨tD, hD⟩ := gl_DIGITS w
  rw [S_lit "0123456789ABCDEFabcdef"] at hD
  repeat' (walk_at "s")
  rename_i X2
  refine r_while (UnqI x enc) X2 x.length ⟨0, [], _, _, _, _, _, rfl, rfl, by rw [lit_nil]; rfl, rfl, rfl, by omega, by omega, by simp, by simp, by simpa using hs⟩ ?_
  rintro n m nw h2 tk2 X3 ⟨i, o, t, t1, t2, t3, t4, hm1, hm2, hm3, hm4, hm5, hi, rfl, hol, hgo, hhx⟩
  clear X2 MARK
  have MARK : True := trivial
  have hat := fun hi : i < x.length => hex_at hi hhx
  have hend : ¬ i < x.length → unqB (x.drop i) = [] := fun hi => by rw [List.drop_eq_nil_of_le (by omega)]; rfl
  repeat' (walk_at "s")
  all_goals (try simp only [lit_pc, List.cons.injEq, and_true, tn_n, tn_add1, tn_add2] at *)
  · -- a stretch
    obtain ⟨q1, _⟩ | ⟨_, hl3, v, hv, hu, hx3⟩ := hat (by omega)
    · exact absurd ‹x.getD i 0 = 37› q1
    have hcut : cut x (some ((i : Int) + 1)) (some ((i : Int) + 3)) = [x.getD (i + 1) 0, x.getD (i + 2) 0] := by
      have := cut_nn (x := x) (b := i + 1) (i := i + 3) (by omega) (by omega)
      rw [show (((i + 1 : Nat)) : Int) = (i : Int) + 1 by omega, show (((i + 3 : Nat)) : Int) = (i : Int) + 3 by omega] at this
      rw [this, seg_succ (i := i + 2) (by omega) (by omega), seg_succ (i := i + 1) (by omega) (by omega), seg_self]; rfl
    rw [hcut]
    have hv3 := (hex_dig hv).2.2
    refine p_int16 hv fun t' tk' => ?_
    clear MARK
    have MARK : True := trivial
    repeat' (walk_at "s")
    refine turn_exc ⟨_, _, by assumption, x.length - (i + 3), by omega, ?_⟩
    refine ⟨i + 3, o ++ [v], _, _, _, _, _, hm1, hm2, hm3, rfl, rfl, by omega, rfl, by simp; omega, ?_, hx3⟩
    rw [← hgo, hu]; simp
  all_goals first
    | (exfalso
       obtain ⟨q1, q2, _⟩ | ⟨q1, q2, v, hv, _⟩ := hat (by omega)
       all_goals first
         | omega
         | exact absurd (hex_dig hv).1 ‹_›
         | exact absurd (hex_dig hv).2.1 ‹_›)
    | skip
  · -- another sign
    obtain ⟨q1, q2, hu, hx1⟩ | ⟨q1, _⟩ := hat (by omega)
    · refine turn_ex ⟨_, _, by assumption, x.length - (i + 1), by omega, ?_⟩
      refine ⟨i + 1, o ++ [x.getD i 0], _, _, _, _, _, hm1, hm2, hm3, rfl, rfl, by omega, rfl, by simp; omega, ?_, hx1⟩
      rw [← hgo, hu]; simp
    · exact absurd q1 ‹_›
  · -- the end
    have hu := hend (by omega)
    rw [hu, List.append_nil] at hgo
    rw [← hgo] at hl
    refine text_spec (X3.wd) (by rw [dd]; omega) hl (by omega) hl2 fun h' tk' t' k => ?_
    have X4 := X3.more k
    clear X3 MARK
    have MARK : True := trivial
    repeat' (walk_at "s")
    exact out_str (by simp) (H _ _ _ X4.F.keep)
end Mine
end
section
open PySem PySem.W PySem.Calls PyProof.Rows PyProof
set_option Elab.async false
set_option maxRecDepth 100000
set_option maxHeartbeats 2000000
set_option autoImplicit false
namespace Mine
open PySem.Builtin PySem.Builtin._codecs
/-- a text of plain signs and the four stretches -/
inductive Sound : List Nat → Prop
  | nil : Sound []
  | ch {c r} : c ≠ 37 → c < 128 → Sound r → Sound (c :: r)
  | s0 {r} : Sound r → Sound (37 :: 52 :: 49 :: r)
  | s1 {r} : Sound r → Sound (37 :: 67 :: 51 :: 37 :: 65 :: 57 :: r)
  | s2 {r} : Sound r → Sound (37 :: 70 :: 70 :: r)
  | s3 {r} : Sound r → Sound (37 :: 69 :: 50 :: 37 :: 56 :: 50 :: r)
/-- each stretch by its row -/
def dcd (f : Nat → List Nat) : List Nat → List Nat
  | 37 :: 52 :: 49 :: r => f 0 ++ dcd f r
  | 37 :: 67 :: 51 :: 37 :: 65 :: 57 :: r => f 1 ++ dcd f r
  | 37 :: 70 :: 70 :: r => f 2 ++ dcd f r
  | 37 :: 69 :: 50 :: 37 :: 56 :: 50 :: r => f 3 ++ dcd f r
  | c :: r => c :: dcd f r
  | [] => []
def fU (j : Nat) : List Nat := ([[65], [233], [65533], [65533]] : List (List Nat)).getD j []
def fL (j : Nat) : List Nat := ([[65], [195, 169], [255], [226, 130]] : List (List Nat)).getD j []
def fA (j : Nat) : List Nat := ([[65], [65533, 65533], [65533], [65533, 65533]] : List (List Nat)).getD j []
theorem dcd_ch (f : Nat → List Nat) {c : Nat} (h : c ≠ 37) (r : List Nat) : dcd f (c :: r) = c :: dcd f r := by
  rw [dcd] <;> (intros; simp_all)
theorem unqB_ch {c : Nat} (h : c ≠ 37) (r : List Nat) : unqB (c :: r) = c :: unqB r := by
  rw [unqB]; intro a b r' q; exact absurd q h
theorem Sound.hex {x : List Nat} (h : Sound x) : Hex x := by
  induction h with
  | nil => exact .nil
  | ch h1 h2 _ ih => exact .ch h1 h2 ih
  | s0 _ ih => exact .pc (v := 65) (by decide) ih
  | s1 _ ih => exact .pc (v := 195) (by decide) (.pc (v := 169) (by decide) ih)
  | s2 _ ih => exact .pc (v := 255) (by decide) ih
  | s3 _ ih => exact .pc (v := 226) (by decide) (.pc (v := 130) (by decide) ih)
theorem unq0 (r : List Nat) : unqB (37 :: 52 :: 49 :: r) = 65 :: unqB r := by rw [unqB]; rfl
theorem unq1 (r : List Nat) : unqB (37 :: 67 :: 51 :: 37 :: 65 :: 57 :: r) = 195 :: 169 :: unqB r := by rw [unqB, unqB]; rfl
theorem unq2 (r : List Nat) : unqB (37 :: 70 :: 70 :: r) = 255 :: unqB r := by rw [unqB]; rfl
theorem unq3 (r : List Nat) : unqB (37 :: 69 :: 50 :: 37 :: 56 :: 50 :: r) = 226 :: 130 :: unqB r := by rw [unqB, unqB]; rfl
/-- what may stand first -/
theorem Sound.first {x : List Nat} (h : Sound x) : unqB x = [] ∨ ∃ c r, unqB x = c :: r ∧ (c < 128 ∨ c = 195 ∨ c = 255 ∨ c = 226) := by
  cases h with
  | nil => exact .inl rfl
  | ch h1 h2 _ => exact .inr ⟨_, _, unqB_ch h1 _, .inl h2⟩
  | s0 _ => exact .inr ⟨_, _, unq0 _, by decide⟩
  | s1 _ => exact .inr ⟨_, _, unq1 _, by decide⟩
  | s2 _ => exact .inr ⟨_, _, unq2 _, by decide⟩
  | s3 _ => exact .inr ⟨_, _, unq3 _, by decide⟩
theorem B8_at (pre l : List Nat) (k : Nat) (hk : k < l.length) : (B8 (pre ++ l)).getD (pre.length + k) 0 = (l.getD k 0).toUInt8 := by
  unfold B8
  simp [hk, List.getElem_append_right]
theorem B8_some (pre l : List Nat) (k : Nat) (hk : k < l.length) : (B8 (pre ++ l))[pre.length + k]? = some (l.getD k 0).toUInt8 := by
  unfold B8
  simp [hk]
theorem B8_none (pre l : List Nat) (k : Nat) (hk : l.length ≤ k) : (B8 (pre ++ l))[pre.length + k]? = none := by
  unfold B8
  simp [hk]
theorem u8_lt {c : Nat} (h : c < 256) : c.toUInt8.toNat = c := by simp [Nat.toUInt8, UInt8.ofNat, UInt8.toNat, Nat.mod_eq_of_lt h]
theorem runs_l {x : List Nat} (h : Sound x) : ∀ pre : List Nat, Runs latin1Decoder (B8 (pre ++ unqB x)) pre.length (dcd fL x) := by
  have one : ∀ (pre r l : List Nat) (c : Nat), c < 256 → Runs latin1Decoder (B8 ((pre ++ [c]) ++ r)) (pre ++ [c]).length l → Runs latin1Decoder (B8 (pre ++ c :: r)) pre.length (c :: l) := by
    intro pre r l c hc hr
    have hat := B8_at pre (c :: r) 0 (by simp)
    rw [Nat.add_zero] at hat
    rw [List.append_assoc] at hr
    refine Runs.text (q := pre.length + 1) (cs := [c]) (by rw [B8_size]; simp) (by omega) (by rw [B8_size]; simp <;> omega) ?_ (by simpa using hr)
    show Found.char _ _ = _
    rw [hat, show ((c :: r).getD 0 0) = c from rfl, u8_lt hc]
    rfl
  induction h with
  | nil => intro pre; rw [show unqB [] = [] from rfl, List.append_nil]; have := Runs.done (d := latin1Decoder) (b := B8 pre); rw [B8_size] at this; exact this
  | ch h1 h2 _ ih => intro pre; rw [unqB_ch h1, dcd_ch _ h1]; exact one _ _ _ _ (by omega) (ih _)
  | s0 _ ih => intro pre; rw [unq0]; exact one _ _ _ _ (by omega) (ih _)
  | s1 _ ih => intro pre; rw [unq1]; exact one _ _ _ _ (by omega) (one _ _ _ _ (by omega) (ih _))
  | s2 _ ih => intro pre; rw [unq2]; exact one _ _ _ _ (by omega) (ih _)
  | s3 _ ih => intro pre; rw [unq3]; exact one _ _ _ _ (by omega) (one _ _ _ _ (by omega) (ih _))
theorem runs_a {x : List Nat} (h : Sound x) : ∀ pre : List Nat, Runs asciiDecoder (B8 (pre ++ unqB x)) pre.length (dcd fA x) := by
  have one : ∀ (pre r l : List Nat) (c : Nat), c < 128 → Runs asciiDecoder (B8 ((pre ++ [c]) ++ r)) (pre ++ [c]).length l → Runs asciiDecoder (B8 (pre ++ c :: r)) pre.length (c :: l) := by
    intro pre r l c hc hr
    have hat := B8_at pre (c :: r) 0 (by simp)
    rw [Nat.add_zero] at hat
    rw [List.append_assoc] at hr
    refine Runs.text (q := pre.length + 1) (cs := [c]) (by rw [B8_size]; simp) (by omega) (by rw [B8_size]; simp <;> omega) ?_ (by simpa using hr)
    unfold asciiDecoder
    dsimp only
    rw [hat, show ((c :: r).getD 0 0) = c from rfl, u8_lt (by omega), if_pos hc]
    rfl
  have two : ∀ (pre r l : List Nat) (c : Nat), 128 ≤ c → c < 256 → Runs asciiDecoder (B8 ((pre ++ [c]) ++ r)) (pre ++ [c]).length l → Runs asciiDecoder (B8 (pre ++ c :: r)) pre.length (65533 :: l) := by
    intro pre r l c hc hc2 hr
    have hat := B8_at pre (c :: r) 0 (by simp)
    rw [Nat.add_zero] at hat
    rw [List.append_assoc] at hr
    refine Runs.bad (q := pre.length + 1) (reason := "ordinal not in range(128)") (g := false) (by rw [B8_size]; simp) (by omega) (by rw [B8_size]; simp <;> omega) ?_ (by decide +kernel) (by simpa using hr)
    unfold asciiDecoder
    dsimp only
    rw [hat, show ((c :: r).getD 0 0) = c from rfl, u8_lt (by omega), if_neg (by omega)]
  induction h with
  | nil => intro pre; rw [show unqB [] = [] from rfl, List.append_nil]; have := Runs.done (d := asciiDecoder) (b := B8 pre); rw [B8_size] at this; exact this
  | ch h1 h2 _ ih => intro pre; rw [unqB_ch h1, dcd_ch _ h1]; exact one _ _ _ _ h2 (ih _)
  | s0 _ ih => intro pre; rw [unq0]; exact one _ _ _ _ (by omega) (ih _)
  | s1 _ ih => intro pre; rw [unq1]; exact two _ _ _ _ (by omega) (by omega) (two _ _ _ _ (by omega) (by omega) (ih _))
  | s2 _ ih => intro pre; rw [unq2]; exact two _ _ _ _ (by omega) (by omega) (ih _)
  | s3 _ ih => intro pre; rw [unq3]; exact two _ _ _ _ (by omega) (by omega) (two _ _ _ _ (by omega) (by omega) (ih _))
theorem u_two {b : Array UInt8} {p : Nat} (h0 : b.getD p 0 = 195) (h1 : b[p + 1]? = some 169) : Bytes.utf8At b p = (.char 233, p + 2) := by
  unfold Bytes.utf8At
  rw [h0]
  simp [List.range, List.range.loop, h1, Except.bind]
theorem u_255 {b : Array UInt8} {p : Nat} (h0 : b.getD p 0 = 255) : ∃ g, utf8Decoder.find true b p = .bad (p + 1) "invalid start byte" g := by
  have e : Bytes.utf8At b p = (.bad p (p + 1) "invalid start byte", p + 1) := by
    unfold Bytes.utf8At
    rw [h0]
    simp
  unfold utf8Decoder
  dsimp only
  rw [e]
  exact ⟨_, rfl⟩
theorem u_226e {b : Array UInt8} {p : Nat} (h0 : b.getD p 0 = 226) (h1 : b[p + 1]? = some 130) (h2 : b[p + 2]? = none) : ∃ g, utf8Decoder.find true b p = .bad b.size "unexpected end of data" g := by
  have e : Bytes.utf8At b p = (.bad p b.size "unexpected end of data", b.size) := by
    unfold Bytes.utf8At
    rw [h0]
    simp [List.range, List.range.loop, h1, h2, Except.bind]
  unfold utf8Decoder
  dsimp only
  rw [e]
  exact ⟨_, rfl⟩
theorem u_226 {b : Array UInt8} {p : Nat} {c : UInt8} (h0 : b.getD p 0 = 226) (h1 : b[p + 1]? = some 130) (h2 : b[p + 2]? = some c) (hc : ¬ (128 ≤ c.toNat ∧ c.toNat ≤ 191)) : ∃ g, utf8Decoder.find true b p = .bad (p + 2) "invalid continuation byte" g := by
  have e : Bytes.utf8At b p = (.bad p (p + 2) "invalid continuation byte", p + 2) := by
    unfold Bytes.utf8At
    rw [h0]
    simp [List.range, List.range.loop, h1, h2, Except.bind]
    rw [if_neg hc]
  unfold utf8Decoder
  dsimp only
  rw [e]
  exact ⟨_, rfl⟩
theorem runs_u {x : List Nat} (h : Sound x) : ∀ pre : List Nat, Runs utf8Decoder (B8 (pre ++ unqB x)) pre.length (dcd fU x) := by
  have one : ∀ (pre r l : List Nat) (c : Nat), c < 128 → Runs utf8Decoder (B8 ((pre ++ [c]) ++ r)) (pre ++ [c]).length l → Runs utf8Decoder (B8 (pre ++ c :: r)) pre.length (c :: l) := by
    intro pre r l c hc hr
    have hat := B8_at pre (c :: r) 0 (by simp)
    rw [Nat.add_zero] at hat
    rw [List.append_assoc] at hr
    refine Runs.text (q := pre.length + 1) (cs := [c]) (by rw [B8_size]; simp) (by omega) (by rw [B8_size]; simp <;> omega) ?_ (by simpa using hr)
    unfold utf8Decoder Bytes.utf8At
    dsimp only
    rw [hat, show ((c :: r).getD 0 0) = c from rfl, u8_lt (by omega), if_pos (by omega)]
    rfl
  have two : ∀ (pre r l : List Nat), Runs utf8Decoder (B8 ((pre ++ [195, 169]) ++ r)) (pre ++ [195, 169]).length l → Runs utf8Decoder (B8 (pre ++ 195 :: 169 :: r)) pre.length (233 :: l) := by
    intro pre r l hr
    have h0 := B8_at pre (195 :: 169 :: r) 0 (by simp)
    have h1 := B8_some pre (195 :: 169 :: r) 1 (by simp)
    rw [Nat.add_zero] at h0
    rw [List.append_assoc] at hr
    refine Runs.text (q := pre.length + 2) (cs := [233]) (by rw [B8_size]; simp) (by omega) (by rw [B8_size]; simp <;> omega) ?_ (by simpa using hr)
    unfold utf8Decoder
    dsimp only
    rw [u_two h0 h1]
    rfl
  have bad1 : ∀ (pre r l : List Nat), Runs utf8Decoder (B8 ((pre ++ [255]) ++ r)) (pre ++ [255]).length l → Runs utf8Decoder (B8 (pre ++ 255 :: r)) pre.length (65533 :: l) := by
    intro pre r l hr
    have h0 := B8_at pre (255 :: r) 0 (by simp)
    rw [Nat.add_zero] at h0
    rw [List.append_assoc] at hr
    obtain ⟨g, e⟩ := u_255 h0
    exact Runs.bad (q := pre.length + 1) (by rw [B8_size]; simp) (by omega) (by rw [B8_size]; simp <;> omega) e (by decide +kernel) (by simpa using hr)
  have bad2 : ∀ (pre r l : List Nat), (r = [] ∨ ∃ c r', r = c :: r' ∧ (c < 128 ∨ c = 195 ∨ c = 255 ∨ c = 226)) → Runs utf8Decoder (B8 ((pre ++ [226, 130]) ++ r)) (pre ++ [226, 130]).length l → Runs utf8Decoder (B8 (pre ++ 226 :: 130 :: r)) pre.length (65533 :: l) := by
    intro pre r l hf hr
    have h0 := B8_at pre (226 :: 130 :: r) 0 (by simp)
    have h1 := B8_some pre (226 :: 130 :: r) 1 (by simp)
    rw [Nat.add_zero] at h0
    rw [List.append_assoc] at hr
    rcases hf with rfl | ⟨c, r', rfl, hc⟩
    · have h2 := B8_none pre (226 :: 130 :: []) 2 (by simp)
      obtain ⟨g, e⟩ := u_226e (b := B8 (pre ++ [226, 130])) h0 h1 h2
      rw [show (B8 (pre ++ [226, 130])).size = pre.length + 2 by rw [B8_size]; simp] at e
      exact Runs.bad (q := pre.length + 2) (by rw [B8_size]; simp) (by omega) (by rw [B8_size]; simp) e (by decide +kernel) (by simpa using hr)
    · have h2 := B8_some pre (226 :: 130 :: c :: r') 2 (by simp)
      obtain ⟨g, e⟩ := u_226 (c := c.toUInt8) h0 h1 h2 (by
        rw [u8_lt (by omega)]; omega)
      exact Runs.bad (q := pre.length + 2) (by rw [B8_size]; simp) (by omega) (by rw [B8_size]; simp <;> omega) e (by decide +kernel) (by simpa using hr)
  induction h with
  | nil => intro pre; rw [show unqB [] = [] from rfl, List.append_nil]; have := Runs.done (d := utf8Decoder) (b := B8 pre); rw [B8_size] at this; exact this
  | ch h1 h2 _ ih => intro pre; rw [unqB_ch h1, dcd_ch _ h1]; exact one _ _ _ _ h2 (ih _)
  | s0 _ ih => intro pre; rw [unq0]; exact one _ _ _ _ (by omega) (ih _)
  | s1 _ ih => intro pre; rw [unq1]; exact two _ _ _ (ih _)
  | s2 _ ih => intro pre; rw [unq2]; exact bad1 _ _ _ (ih _)
  | s3 h ih => intro pre; rw [unq3]; exact bad2 _ _ _ h.first (ih _)
/-- the column of a charset -/
def colF (enc : List Nat) : Nat → List Nat := if enc = lit "utf-8" then fU else if enc = lit "iso-8859-1" then fL else fA
theorem Sound.dec {x : List Nat} (h : Sound x) (enc : List Nat) : DecR enc (unqB x) (dcd (colF enc) x) := by
  refine ⟨fun e => ?_, fun e1 e2 => ?_, fun e1 e2 => ?_⟩
  · unfold colF; rw [if_pos e]; exact runs_u h []
  · unfold colF; rw [if_neg e1, if_pos e2]; exact runs_l h []
  · unfold colF; rw [if_neg e1, if_neg e2]; exact runs_a h []
theorem dcd_len {f : Nat → List Nat} (hf : ∀ j, (f j).length ≤ 2) {x : List Nat} (h : Sound x) : (dcd f x).length ≤ x.length := by
  induction h with
  | nil => exact Nat.le_refl _
  | ch h1 h2 _ ih => rw [dcd_ch _ h1]; simp; omega
  | s0 _ ih => rw [dcd]; have := hf 0; simp; omega
  | s1 _ ih => rw [dcd]; have := hf 1; simp; omega
  | s2 _ ih => rw [dcd]; have := hf 2; simp; omega
  | s3 _ ih => rw [dcd]; have := hf 3; simp; omega
theorem colF_le (enc : List Nat) (j : Nat) : (colF enc j).length ≤ 2 := by
  have : ∀ f ∈ [fU, fL, fA], (f j).length ≤ 2 := by
    intro f hf
    simp only [List.mem_cons, List.not_mem_nil, or_false] at hf
    by_cases hj : j < 4
    · have : j = 0 ∨ j = 1 ∨ j = 2 ∨ j = 3 := by omega
      rcases hf with rfl | rfl | rfl <;> rcases this with rfl | rfl | rfl | rfl <;> decide
    · rcases hf with rfl | rfl | rfl
      · unfold fU; rw [List.getD_eq_getElem?_getD, List.getElem?_eq_none (by simp; omega)]; decide
      · unfold fL; rw [List.getD_eq_getElem?_getD, List.getElem?_eq_none (by simp; omega)]; decide
      · unfold fA; rw [List.getD_eq_getElem?_getD, List.getElem?_eq_none (by simp; omega)]; decide
  unfold colF
  split
  · exact this _ (by simp)
  · split
    · exact this _ (by simp)
    · exact this _ (by simp)
end Mine
end
section
open PySem PySem.W PySem.Calls PyProof.Rows PyProof
set_option Elab.async false
set_option maxRecDepth 100000
set_option maxHeartbeats 4000000
set_option autoImplicit false
namespace Mine
local macro_rules | `(tactic| walk_at "n") => `(tactic| first
  | (refine' r_name ?l ?k ?n ?v ?_ ?b; (case l => k_dflt rfl); (case k => k_dflt rfl); (case n => k_dflt (first | exact Cx.ns (by assumption) | exact Ck.ns (by assumption))); (case v => k_dflt (first | rfl | assumption)); (case b => k_dflt decide))
  | (refine' r_glob ?l ?k ?g ?e ?w ?_ ?b; (case l => k_dflt rfl); (case k => k_dflt rfl); (case g => k_dflt rfl); (case e => first | exact gl_read _ | exact gl_items _ | exact gl_decoded _ | exact gl_charset _ | exact gl_dict _ | exact gl_text _ | exact gl_unquote _ | exact gl_unslash _ | exact gl_uhv _ | exact gl_plh _ | exact gl_pdh _ | exact gl_cvre _ | exact gl_pieces _ | exact gl_stretches _ | exact gl_charsets _ | assumption); (case w => first | exact Cx.wd (by assumption) | exact Ck.wd (by assumption) | assumption); (case b => k_dflt decide))
  | (refine' r_bi ?l ?k ?g ?h (gl_len _) bb_len ?n ?w ?_ ?b; (case l => k_dflt rfl); (case k => k_dflt rfl); (case g => k_dflt rfl); (case h => k_dflt rfl); (case n => k_dflt decide); (case w => first | exact Cx.wd (by assumption) | exact Ck.wd (by assumption) | assumption); (case b => k_dflt decide))
  | (refine' r_bi ?l ?k ?g ?h (gl_ord _) bb_ord ?n ?w ?_ ?b; (case l => k_dflt rfl); (case k => k_dflt rfl); (case g => k_dflt rfl); (case h => k_dflt rfl); (case n => k_dflt decide); (case w => first | exact Cx.wd (by assumption) | exact Ck.wd (by assumption) | assumption); (case b => k_dflt decide))
  | (refine' r_bi ?l ?k ?g ?h (gl_int _) bb_int ?n ?w ?_ ?b; (case l => k_dflt rfl); (case k => k_dflt rfl); (case g => k_dflt rfl); (case h => k_dflt rfl); (case n => k_dflt decide); (case w => first | exact Cx.wd (by assumption) | exact Ck.wd (by assumption) | assumption); (case b => k_dflt decide))
  | (refine' r_bi ?l ?k ?g ?h (gl_bytes _) bb_bytes ?n ?w ?_ ?b; (case l => k_dflt rfl); (case k => k_dflt rfl); (case g => k_dflt rfl); (case h => k_dflt rfl); (case n => k_dflt decide); (case w => first | exact Cx.wd (by assumption) | exact Ck.wd (by assumption) | assumption); (case b => k_dflt decide))
  | (refine' r_bi ?l ?k ?g ?h (gl_list _) bb_list ?n ?w ?_ ?b; (case l => k_dflt rfl); (case k => k_dflt rfl); (case g => k_dflt rfl); (case h => k_dflt rfl); (case n => k_dflt decide); (case w => first | exact Cx.wd (by assumption) | exact Ck.wd (by assumption) | assumption); (case b => k_dflt decide)))
local macro_rules | `(tactic| walk_at "s") => `(tactic| (with_reducible first
  | (refine' r_cons ?_)
  | (refine' r_nil ?_)
  | (refine' r_assign ?_ ?a; (case a => k_dflt rfl))
  | (refine' r_if ?_)
  | (refine' r_ret ?_)
  | (refine' r_continue ?_)
  | (refine' r_aug ?_)
  | (refine' r_store ?x ?_ ?a ?b; (case x => assumption); (case a => k_dflt rfl); (case b => k_dflt rfl); intro _ _ _)
  | ((show wpAny _ _ (eval (Expr.Name _ _) _) _ _ _); walk_at "n")
  | (refine' r_load ?l ?k ?n ?v ?_; (case l => k_dflt rfl); (case k => k_dflt rfl); (case n => k_dflt (first | exact Cx.ns (by assumption) | exact Ck.ns (by assumption))); (case v => k_dflt (first | rfl | assumption)))
  | (refine' r_int ?_; intro _ _)
  | (refine' r_str ?_; intro _ _)
  | (refine' r_bool ?_)
  | (refine' r_none ?_)
  | (refine' r_expr ?_ ?a ?b; (case a => k_dflt rfl); (case b => k_dflt rfl))
  | (refine' and_none ?_)
  | (refine' r_list0 ?x ?_; (case x => assumption); intro _ _ _ _ _)
  | (refine' gm_append ?x ?_; (case x => assumption))
  | (refine' m_append ?x ?e ?z ?_; (case x => assumption); (case e => first | assumption | exact List.forall_mem_nil _); (case z => omega); intro _ _ _)
  | (refine' e_not ?_)
  | (refine' v_str ?z ?_; (case z => (try simp only [List.length_append, List.length_cons, List.length_nil, lit_nil, lit_dq, lit_sq]); omega); intro _)
  | (refine' gm_strip ?_)
  | (refine' m_strip ?z ?_; (case z => omega); intro _ _)
  | (refine' r_binop ?_)
  | (refine' r_cmp ?_ ?a; (case a => k_dflt rfl))
  | (refine' r_ifexp ?_)
  | (refine' t_cmp ?_ ?a; (case a => k_dflt rfl))
  | (refine' t_not ?_)
  | (refine' t_and0 ?_)
  | (refine' t_or0 ?_)
  | (refine' t_and ?_)
  | (refine' t_or ?_)
  | (refine' t_name ?_)
  | (refine' t_call ?_)
  | (refine' v_bool ?_)
  | (refine' r_call ?_ ?a; (case a => k_dflt rfl))
  | (refine' r_mcall ?_ ?a; (case a => exact ⟨_, by k_dflt rfl⟩); intro _)
  | (refine' c_fn ?_ ?a ?b; (case a => k_dflt rfl); (case b => k_dflt rfl))
  | (refine' c_me ?_ ?a ?b; (case a => k_dflt rfl); (case b => k_dflt rfl))
  | (refine' c_bi0 ?_)
  | (refine' sp_more ?_ ?a; (case a => k_dflt rfl))
  | (refine' sp_none ?_)
  | (refine' c_def ?w ?k ?_ ?a ?b; (case w => first | exact Cx.wd (by assumption) | exact Ck.wd (by assumption) | assumption); (case k => first | exact kp_38 _ | exact kp_45 _ | exact kp_57 _ | exact kp_62 _ | exact kp_69 _ | exact kp_82 _ | exact kp_89 _ | exact kp_96 _ | exact kp_101 _ | exact kp_106 _ | exact kp_111 _ | exact kp_118 _); (case a => k_dflt rfl); (case b => k_dflt rfl))
  | (refine' c_def0 ?w ?k ?_; (case w => first | exact Cx.wd (by assumption) | exact Ck.wd (by assumption) | assumption); (case k => first | exact kp_82 _ | exact kp_89 _))
  | (refine' in_K ?w ?_; (case w => first | exact Cx.wd (by assumption) | exact Ck.wd (by assumption) | assumption))
  | (refine' r_sub ?_)
  | (refine' s_slice ?_)
  | (refine' s_some ?_)
  | (refine' s_none ?_)
  | (refine' r_neg ?_; intro _ _)
  | (refine' gm_starts ?_)
  | (refine' gm_ends ?_)
  | (refine' m_starts ?c ?_; (case c => first | exact lit_dq | exact lit_star))
  | (refine' m_ends ?c ?_; (case c => first | exact lit_dq | exact lit_star))
  | (refine' r_or2 ?_)
  | (refine' gm_group ?x ?_; (case x => assumption))
  | (refine' m_group ?x ?k ?z ?_; (case x => assumption); (case k => assumption); (case z => omega); intro _ _)
  | (refine' gm_decode ?_)
  | (refine' gm_sub ?w ?_; (case w => first | exact Cx.wd (by assumption) | assumption))
  | (refine' b_addI ?_; intro _ _)
  | (refine' b_subI ?_; intro _ _)
  | (refine' q_ltI ?_)
  | (refine' q_gtI ?_)
  | (refine' q_geI ?_)
  | (refine' q_eqS ?_)
  | (refine' q_neS ?_)
  | (refine' b_iaddS ?_ ?z; (case z => (try simp only [List.length_append, List.length_cons, List.length_nil, lit_nil, lit_dq, lit_sq]); omega); intro _ _)
  | (refine' b_iaddI ?_; intro _ _)
  | (refine' p_len ?_ ?z; (case z => omega); intro _ _)
  | (refine' b_addS ?_ ?z; (case z => (try simp only [List.length_append, List.length_cons, List.length_nil, lit_nil, lit_dq, lit_sq]); omega); intro _ _)
  | (refine' x_item ?a ?b ?_ ?z ?c ?d; (case a => omega); (case b => omega); (case z => omega); (case c => k_dflt rfl); (case d => intro _; k_dflt rfl); intro _ _)
  | (refine' x_slice_ss ?x ?_ ?z ?c ?d; (case x => assumption); (case z => omega); (case c => intro _; k_dflt rfl); (case d => intro _; k_dflt rfl); intro _ _ _ _)
  | (refine' x_slice_sn ?x ?_ ?z ?c ?d; (case x => assumption); (case z => omega); (case c => intro _; k_dflt rfl); (case d => intro _; k_dflt rfl); intro _ _ _ _)
  | (refine' x_slice_ns ?x ?_ ?z ?c ?d; (case x => assumption); (case z => omega); (case c => intro _; k_dflt rfl); (case d => intro _; k_dflt rfl); intro _ _ _ _)
  | (refine' b_iaddB ?_ ?z; (case z => (try simp only [List.length_append, List.length_cons, List.length_nil]); omega); intro _ _)
  | (refine' r_bytes0 ?_; intro _ _)
  | (refine' r_bytesC ?_; intro _ _)
  | (refine' r_list1 ?_ ?e; (case e => k_dflt rfl))
  | (refine' d_end ?x ?_; (case x => assumption); intro _ _ _ _)
  | (refine' r_listN ?_)
  | (refine' l_end ?x ?z ?_; (case x => assumption); (case z => simp only [List.length_cons, List.length_nil]; omega); intro _ _ _ _)
  | (refine' r_asgtup ?_ ?a ?b; (case a => k_dflt rfl); (case b => k_dflt rfl))
  | (refine' r_tuple ?_)
  | (refine' t_end ?x ?z ?_; (case x => assumption); (case z => simp only [List.length_cons, List.length_nil]; omega); intro _ _ _)
  | (refine' r_unpack3 ?h ?x ?t ?_; (case h => k_dflt assumption); (case x => assumption); (case t => k_dflt (exact (Cx.N (by assumption) _ (.head _)).1)); intro _ _)
  | (refine' c_ty ?_ ?a ?b; (case a => k_dflt rfl); (case b => k_dflt rfl))
  | (refine' in_S ?_)
  | (refine' p_ord ?_; intro _ _)
  | (refine' c_bytes1 ?h ?x ?v ?_; (case h => k_dflt assumption); (case x => assumption); (case v => omega); intro _ _ _ _)
  | refine br_true ?_
  | refine br_false ?_
  | refine br_ntrue ?_
  | refine br_nfalse ?_
  | (refine br_dec ?_ ?_ <;> intro _)
  | (refine br_ndec ?_ ?_ <;> intro _)
  | (refine br_nndec ?_ ?_ <;> intro _)
  | (refine br_nb ?_ ?_ <;> intro _)
  | (refine br_b ?_ ?_ <;> intro _)
  | refine r_and0 ?_
  | refine r_out ?_
  | refine r_outc ?_
  | refine r_back ?_))


/-- the stretches' texts and octets -/
def stx (j : Nat) : List Nat := ([[37, 52, 49], [37, 67, 51, 37, 65, 57], [37, 70, 70], [37, 69, 50, 37, 56, 50]] : List (List Nat)).getD j []
def sby (j : Nat) : List Nat := ([[65], [195, 169], [255], [226, 130]] : List (List Nat)).getD j []
def RowAt (h : Heap) (b : Addr) (j : Nat) : Prop := ∃ t0 t1 t2 t3 t4, h.get? b = some { cls := .type "tuple", data := .seq #[.str (S (stx j)) t0, .bytes (B8 (sby j)) t1, .str (S (fU j)) t2, .str (S (fL j)) t3, .str (S (fA j)) t4] }
theorem RowAt.keeps {h h' : Heap} {b : Addr} {j : Nat} (r : RowAt h b j) (k : h.StaysIn h') : RowAt h' b j := let ⟨a, b, c, d, e, q⟩ := r; ⟨a, b, c, d, e, k _ _ q⟩
theorem row_of {h : Heap} {b : Addr} {j : Nat} {x0 x2 x3 x4 : List Nat} {b1 : List UInt8} {t0 t1 t2 t3 t4 : Tok} (e : h.get? b = some { cls := .type "tuple", data := .seq [Value.str (S x0) t0, .bytes b1.toArray t1, .str (S x2) t2, .str (S x3) t3, .str (S x4) t4].toArray })
    (h0 : x0 = stx j) (h1 : b1.toArray = B8 (sby j)) (h2 : x2 = fU j) (h3 : x3 = fL j) (h4 : x4 = fA j) : RowAt h b j := by
  subst h0 h2 h3 h4; rw [h1] at e; exact ⟨_, _, _, _, _, e⟩
theorem stretches_spec {w : World} {A : Around} {E : Value → Shared → Prop} {s : Shared} {h : Heap} {tk : Nat} {Q : Value → Shared → Prop} (W : Wd w h) (hdp : A.depth + 2 < recursionLimit)
   (H : ∀ h' tk' a b0 b1 b2 b3, h.StaysIn h' → h.get? a = none → h'.get? a = some (PySem.W.listOf #[.ref b0, .ref b1, .ref b2, .ref b3] 0) → RowAt h' b0 0 → RowAt h' b1 1 → RowAt h' b2 2 → RowAt h' b3 3 → (h.get? b0 = none ∧ h.get? b1 = none ∧ h.get? b2 = none ∧ h.get? b3 = none) → Q (.ref a) (st s h' tk')) :
   wpAny (model pg w) A (call (.ref 82) []) Q E (st s h tk) := by
  refine call_pure W (binds := []) (by rfl) (by rfl) (by omega) (BindsTo.of_eq (by rfl)) (fun y hy => nomatch hy) fun L h₁ tk₁ X => ?_
  have MARK : True := trivial
  repeat' (walk_at "s")
  rename_i X9
  exact H _ _ _ _ _ _ _ X9.F.keep (X9.N _ (.head _)).2.2 (X9.N _ (.head _)).1
    (row_of (X9.N _ (.tail _ (.tail _ (.tail _ (.tail _ (.head _)))))).1 (by decide +kernel) (by decide +kernel) (by decide +kernel) (by decide +kernel) (by decide +kernel))
    (row_of (X9.N _ (.tail _ (.tail _ (.tail _ (.head _))))).1 (by decide +kernel) (by decide +kernel) (by decide +kernel) (by decide +kernel) (by decide +kernel))
    (row_of (X9.N _ (.tail _ (.tail _ (.head _)))).1 (by decide +kernel) (by decide +kernel) (by decide +kernel) (by decide +kernel) (by decide +kernel))
    (row_of (X9.N _ (.tail _ (.head _))).1 (by decide +kernel) (by decide +kernel) (by decide +kernel) (by decide +kernel) (by decide +kernel))
    ⟨(X9.N _ (.tail _ (.tail _ (.tail _ (.tail _ (.head _)))))).2.2, (X9.N _ (.tail _ (.tail _ (.tail _ (.head _))))).2.2, (X9.N _ (.tail _ (.tail _ (.head _)))).2.2, (X9.N _ (.tail _ (.head _))).2.2⟩
end Mine
end
section
open PySem PySem.W PySem.Calls PyProof.Rows PyProof
set_option Elab.async false
set_option maxRecDepth 100000
set_option maxHeartbeats 2000000
set_option autoImplicit false
namespace Mine
open Builtin.Str
/-- the first place of a sign (the length where there is none) -/
def ix (c : Nat) : List Nat → Nat
  | [] => 0
  | d :: r => if d = c then 0 else ix c r + 1
theorem ix_le (c : Nat) : ∀ l : List Nat, ix c l ≤ l.length
  | [] => Nat.le_refl _
  | d :: r => by have := ix_le c r; unfold ix; split <;> simp <;> omega
theorem ix_at (c : Nat) : ∀ l : List Nat, ix c l < l.length → l.getD (ix c l) 0 = c
  | [], h => by simp [ix] at h
  | d :: r, h => by
    unfold ix at h ⊢
    split
    · simpa using ‹d = c›
    · rename_i hd
      rw [if_neg hd] at h
      have := ix_at c r (by simpa using h)
      simpa using this
theorem ix_no (c : Nat) : ∀ (l : List Nat) (j : Nat), j < ix c l → l.getD j 0 ≠ c
  | [], j, h => by simp [ix] at h
  | d :: r, j, h => by
    unfold ix at h
    split at h
    · omega
    · rename_i hd
      cases j with
      | zero => simpa using hd
      | succ j => have := ix_no c r j (by omega); simpa using this
theorem ix_eq {c : Nat} {l : List Nat} {k : Nat} (h1 : k < l.length) (h2 : l.getD k 0 = c) (h3 : ∀ j, j < k → l.getD j 0 ≠ c) : ix c l = k := by
  rcases Nat.lt_trichotomy (ix c l) k with h | h | h
  · exact absurd (ix_at c l (by omega)) (h3 _ h)
  · exact h
  · exact absurd h2 (ix_no c l _ h)
theorem ix_none {c : Nat} {l : List Nat} (h : ∀ j, j < l.length → l.getD j 0 ≠ c) : ix c l = l.length := by
  have := ix_le c l
  rcases Nat.lt_or_ge (ix c l) l.length with q | q
  · exact absurd (ix_at c l q) (h _ q)
  · omega
theorem getD_S (l : List Nat) (k : Nat) : (S l).cps.getD k 0 = l.getD k 0 := by simp [S]
/-- find, from a place on -/
def fnd (c : Nat) (l : List Nat) (i : Nat) : Int := if ix c (l.drop i) < (l.drop i).length then ((i + ix c (l.drop i) : Nat) : Int) else -1
theorem getD_drop (l : List Nat) (i j : Nat) : (l.drop i).getD j 0 = l.getD (i + j) 0 := by
  simp [List.getD_eq_getElem?_getD, List.getElem?_drop]
theorem find3_S {l : List Nat} {c i : Nat} (hi : i ≤ l.length) : Txt.find3 (S l) (S [c]) (i : Int) = fnd c l i := by
  have ef : fromIndex (S l).length (i : Int) = i := by unfold fromIndex; split <;> omega
  have hlen : (l.drop i).length = l.length - i := by simp
  rcases StrLaws.find3_spec (S l) c (i : Int) with ⟨h, hn⟩ | ⟨k, h, hlo, hlt, hc, hn⟩
  · rw [show S [c] = ⟨#[c]⟩ from rfl, h]
    unfold fnd
    rw [if_neg]
    rw [ix_none (l := l.drop i)]
    · omega
    · intro j hj
      have := hn (i + j) (by rw [ef]; omega) (by rw [S_length]; omega)
      rw [getD_S] at this
      rw [getD_drop]; exact this
  · rw [show S [c] = ⟨#[c]⟩ from rfl, h]
    rw [ef] at hlo
    rw [S_length] at hlt
    have e : ix c (l.drop i) = k - i := by
      refine ix_eq (by omega) ?_ fun j hj => ?_
      · rw [getD_drop, show i + (k - i) = k by omega, ← getD_S]; exact hc
      · have := hn (i + j) (by rw [ef]; omega) (by omega)
        rw [getD_S] at this
        rw [getD_drop]; exact this
    unfold fnd
    rw [e, if_pos (by omega)]
    congr 1; omega
theorem find_S (l : List Nat) (c : Nat) : Txt.find (S l) (S [c]) = fnd c l 0 := by
  rw [find_is_find3]; exact find3_S (Nat.zero_le _)
theorem fnd_neg {c i : Nat} {l : List Nat} : fnd c l i < 0 ↔ ¬ ix c (l.drop i) < (l.drop i).length := by unfold fnd; split <;> omega
theorem fnd_0 (c : Nat) (l : List Nat) : fnd c l 0 = if ix c l < l.length then (ix c l : Int) else -1 := by unfold fnd; simp
theorem sub_S (l : List Nat) (a b : Nat) : strSub (S l) a b = S ((l.take b).drop a) := by
  unfold strSub; simp [S, List.drop_take]
theorem at_S (l : List Nat) (c i : Nat) : StrLaws.At (S l) (S [c]) (S l).length i ↔ i < l.length ∧ l.getD i 0 = c := by
  unfold StrLaws.At
  rw [subAt_S, S_length, S_length]
  simp only [List.length_cons, List.length_nil, decide_eq_true_eq]
  constructor
  · rintro ⟨_, h⟩; exact h
  · rintro ⟨h, e⟩; exact ⟨by omega, h, e⟩
theorem partition_S (l : List Nat) (c : Nat) : Txt.partition (S l) (S [c]) = if ix c l < l.length then (S (l.take (ix c l)), S [c], S (l.drop (ix c l + 1))) else (S l, S [], S []) := by
  unfold Txt.partition
  rcases StrLaws.occ_head (S l) (S [c]) 1 (Nat.le_refl 1) with ⟨h0, hn⟩ | ⟨i, r, h0, hi, hn⟩
  · rw [h0, if_neg]
    · rfl
    · intro h
      exact hn _ ((at_S l c _).mpr ⟨h, ix_at c l h⟩)
  · rw [h0]
    rw [at_S] at hi
    have e : ix c l = i := ix_eq hi.1 hi.2 fun j hj q => hn j hj ((at_S l c j).mpr ⟨by omega, q⟩)
    rw [e, if_pos hi.1]
    dsimp only
    rw [sub_S, sub_S, S_length, S_length]
    congr 2
    rw [List.take_of_length_le (Nat.le_refl _)]; rfl
/-- a text in small letters -/
def lowL (l : List Nat) : List Nat := (Txt.lower (S l)).cps.toList
theorem lowL_S (l : List Nat) : Txt.lower (S l) = S (lowL l) := S_of _
theorem lowL_le (l : List Nat) : (lowL l).length ≤ 3 * l.length := by
  have := len_lower (S l)
  rw [S_length] at this
  simpa [lowL, Str.length] using this
section
variable {w : World} {A : Around} {E : Value → Shared → Prop} {s : Shared} {h g : Heap} {tk : Nat} {L a : Addr} {m : Str → Option Value} {nw : List (Addr × Obj)} {env : Env} {l : List Nat} {t u : Tok}
theorem gm_lower {pl} {Q : Value × List Value → Shared → Prop} (H : Q (.builtin "str.lower", [.str (S l) t]) s) : wpAny (model pg w) A (getMethod (.str (S l) t) (Str.ofString "lower") pl) Q E s := GM.lower H
theorem m_lower {Q : Value → Shared → Prop} (hz : l.length ≤ 1000000) (H : ∀ t' tk', Q (.str (S (lowL l)) t') (st s h tk')) : wpAny (model pg w) A (call (.builtin "str.lower") [.str (S l) t]) Q E (st s h tk) :=
  SC.lower (fit_lower (by rw [S_length]; omega)) (by rw [lowL_S]; exact H _ _)
theorem gm_find {pl} {Q : Value × List Value → Shared → Prop} (H : Q (.builtin "str.find", [.str (S l) t]) s) : wpAny (model pg w) A (getMethod (.str (S l) t) (Str.ofString "find") pl) Q E s := GM.find H
theorem m_find {c : String} {k : Nat} {Q : Value → Shared → Prop} (hc : lit c = [k]) (H : ∀ t' tk', Q (.int (fnd k l 0) t') (st s h tk')) : wpAny (model pg w) A (call (.builtin "str.find") [.str (S l) t, .str (S (lit c)) u]) Q E (st s h tk) :=
  SC.find (by rw [hc, find_S]; exact H _ _)
theorem m_findz {c : String} {k : Nat} {z : Int} {Q : Value → Shared → Prop} (hc : lit c = [k]) (hf : fnd k l 0 = z) (H : ∀ t' tk', Q (.int z t') (st s h tk')) : wpAny (model pg w) A (call (.builtin "str.find") [.str (S l) t, .str (S (lit c)) u]) Q E (st s h tk) :=
  m_find hc (by rw [hf]; exact H)
theorem nin_S {l : List Nat} {c : Nat} {Q : Value → Shared → Prop} (H : Q (.bool (!decide (c ∈ l))) s) : wpAny (model pg w) A (compareOp .NotIn (.str (S [c]) t) (.str (S l) u)) Q E s :=
  PyProof.Rows.notIn_str (by rw [show S [c] = ⟨#[c]⟩ from rfl, StrLaws.found_one]; exact H)
theorem m_find3 {c : String} {k i : Nat} {x : Int} {v : Tok} {Q : Value → Shared → Prop} (hc : lit c = [k]) (hx : x = i) (hi : i ≤ l.length) (H : ∀ t' tk', Q (.int (fnd k l i) t') (st s h tk')) :
    wpAny (model pg w) A (call (.builtin "str.find") [.str (S l) t, .str (S (lit c)) u, .int x v]) Q E (st s h tk) := by
  subst hx
  exact PySem.SC.find3 (by rw [hc, find3_S hi]; exact H _ _)
theorem gm_part {pl} {Q : Value × List Value → Shared → Prop} (H : Q (.builtin "str.partition", [.str (S l) t]) s) : wpAny (model pg w) A (getMethod (.str (S l) t) (Str.ofString "partition") pl) Q E s := GM.partition H
theorem m_part {c : String} {k : Nat} {Q : Value → Shared → Prop} (X : Cx w g L m nw h) (hc : lit c = [k]) (hz : l.length ≤ 1000000)
    (H1 : ix k l < l.length → ∀ D ta tb tc h' tk', Cx w g L m ((D, { cls := .type "tuple", data := .seq #[.str (S (l.take (ix k l))) ta, .str (S [k]) tb, .str (S (l.drop (ix k l + 1))) tc] }) :: nw) h' → Q (.ref D) (st s h' tk'))
    (H2 : ¬ ix k l < l.length → ∀ D ta tb tc h' tk', Cx w g L m ((D, { cls := .type "tuple", data := .seq #[.str (S l) ta, .str (S []) tb, .str (S []) tc] }) :: nw) h' → Q (.ref D) (st s h' tk')) :
    wpAny (model pg w) A (call (.builtin "str.partition") [.str (S l) t, .str (S (lit c)) u]) Q E (st s h tk) := by
  rw [hc]
  refine partitionN (s := st s h tk) X.F X.N (by rw [S_length]; rfl) (fun ta tb tc h' tk' F' N' => ?_) (by rw [S_length, sizeLine_eq]; omega)
  rw [partition_S] at N'
  by_cases hl : ix k l < l.length
  · rw [if_pos hl] at N'
    exact H1 hl _ _ _ _ h' tk' ⟨X.W, F', N'⟩
  · rw [if_neg hl] at N'
    exact H2 hl _ _ _ _ h' tk' ⟨X.W, F', N'⟩
end
end Mine
end
section
open PySem PySem.W PySem.Calls PyProof.Rows PyProof
set_option Elab.async false
set_option maxRecDepth 100000
set_option maxHeartbeats 2000000
set_option autoImplicit false
namespace Mine
theorem Cx.add {w : World} {g h h' : Heap} {L D : Addr} {m : Str → Option Value} {nw : List (Addr × Obj)} {o : Obj} (X : Cx w g L m nw h) (k : h.StaysIn h') (hn : h.get? D = none) (e : h'.get? D = some o) : Cx w g L m ((D, o) :: nw) h' := by
  have X' := X.more k
  refine ⟨X'.W, X'.F, fun p hp => ?_⟩
  rcases List.mem_cons.mp hp with rfl | hp
  · refine ⟨e, ?_, ?_⟩
    · rintro rfl
      obtain ⟨o', _, _, e', _⟩ := X.F.ns
      rw [hn] at e'; cases e'
    · cases q : g.get? D with
      | none => rfl
      | some o' => rw [X.F.keep _ _ q] at hn; cases hn
  · exact X'.N p hp
theorem Cx.at_ {w : World} {g h : Heap} {L a : Addr} {m : Str → Option Value} {nw : List (Addr × Obj)} {o : Obj} (X : Cx w g L m nw h) (hm : (a, o) ∈ nw) : h.get? a = some o := (X.N _ hm).1
theorem Cx.sub {w : World} {g h : Heap} {L : Addr} {m : Str → Option Value} {nw nw' : List (Addr × Obj)} (X : Cx w g L m nw h) (k : ∀ p ∈ nw', p ∈ nw) : Cx w g L m nw' h := ⟨X.W, X.F, fun p hp => X.N p (k p hp)⟩
theorem Cx.cell {w : World} {g h : Heap} {L c : Addr} {m : Str → Option Value} {nw : List (Addr × Obj)} {o : Obj} {v : Option Value} (X : Cx w g L m nw h) (hm : (c, o) ∈ nw) (hd : o.data = .cell v) : h.IsCell c v := ⟨o, (X.N _ hm).1, hd⟩
theorem Ck.cell {w : World} {g h : Heap} {L c : Addr} {m : Str → Option Value} {v : Option Value} (X : Ck w g L m h) (hc : g.IsCell c v) : h.IsCell c v := let ⟨o, e, d⟩ := hc; ⟨o, X.keep _ _ e, d⟩
section
variable {w : World} {A : Around} {E : Value → Shared → Prop} {s : Shared} {h g : Heap} {tk : Nat} {L : Addr} {m : Str → Option Value} {nw : List (Addr × Obj)} {n : Str} {sc : Scope} {f : Addr} {cd : Value} {env : Env} {cl : List (Str × Addr)}

/-- a def with two cells, its first parameter one of them -/
theorem call_cell2 {name qual : Str} {params : Arguments} {body : List Stmt} {scope : Scope} {dV kV doc pm cdv ct oc : Value} {an od : Option Addr} {osl : Array (Option Value)} {f : Addr} {p q n1 n2 : Str} {c1 c2 : Addr → Addr} {v u : Value} {Q : Value → Shared → Prop}
    (W : Wd w h) (ho : (hd.heap_39 w.params).lookup f = some ⟨oc, od, .func (fnOf name qual params body scope dV kV doc pm an cdv ct), osl⟩)
    (hcd : codeIn (hd.heap_39 w.params) cdv qual = true) (hroom : A.depth < recursionLimit)
    (hbind : bindArgs (fnOf name qual params body scope dV kV doc pm an cdv ct) ⟨[v, u], []⟩ = pure [(p, v), (q, u)])
    (hp : scope.names.lookup p = some .cell) (hq : scope.names.lookup q = some .local) (hcl : ∀ L, cellsFrom (L + 1) scope.names [] = [(n1, c1 L), (n2, c2 L)]) (hpn : ((p == n1) || (p == n2)) = true) (hnd : n1 ≠ n2)
    (H : ∀ L h₁ tk₁ o1 o2, Cx w h L (upd upd0 q u) [(c1 L, o1), (c2 L, o2)] h₁ → o1.data = .cell (if n1 = p then some v else none) → o2.data = .cell (if n2 = p then some v else none) → c1 L ≠ c2 L →
      wpAny (model pg w) (A.deeper (envX qual scope L f cdv [(n1, c1 L), (n2, c2 L)])) (execs body (envX qual scope L f cdv [(n1, c1 L), (n2, c2 L)]))
        (RetP Q) (fun _ _ => False) (st s h₁ tk₁))
    (hco : scope.isCoroutine = false := by rfl) (hgen : scope.isGenerator = false := by rfl) (hk : scope.kind = .function := by rfl) :
    wpAny (model pg w) A (call (.ref f) [v, u]) Q E (st s h tk) := by
  obtain ⟨_, _, _, _, T⟩ := W.T
  have hcl0 : (cellsFrom 0 scope.names []).map (·.1) = [n1, n2] := by rw [cellsFrom_names scope.names 0 (0 + 1) [] [] rfl, hcl 0]; rfl
  have hlook : ∀ k, ((cellsFrom k scope.names []).lookup p).isSome = true := by
    intro k
    have e := cellsFrom_names scope.names k 0 [] [] rfl
    rw [hcl0] at e
    have key : ∀ (l : List (Str × Addr)), l.map (·.1) = [n1, n2] → (l.lookup p).isSome = true := by
      intro l hl
      match l, hl with
      | [(a1, b1), (a2, b2)], hl =>
        simp only [List.map_cons, List.map_nil, List.cons.injEq, and_true] at hl
        obtain ⟨rfl, rfl⟩ := hl
        rw [List.lookup_cons, List.lookup_cons]
        cases h1 : p == a1 with
        | true => rfl
        | false => rw [h1] at hpn; simp only [Bool.false_or] at hpn; rw [hpn]; rfl
    exact key _ e
  refine wpAny_call (codeAny_call_function (fd := fnOf name qual params body scope dV kV doc pm an cdv ct) (body := body) hroom (W.K _ _ ho) rfl hco hgen rfl (codeRec_of W.K hcd) ?_)
  rw [hbind]
  refine wpAny_pure (wpAny_newFunctionEnv_cells hk ?_ fun env' he s' x => ?_)
  · intro y hy
    rcases List.mem_cons.mp hy with rfl | hy
    · exact .inr ⟨hp, hlook _⟩
    · rcases List.mem_singleton.mp hy with rfl
      exact .inl hq
  · subst he
    refine ⟨T.nolimit.keeps x.toInCall.keep, codeAny_func ?_⟩
    obtain ⟨h₁, tk₁, rfl, _⟩ := x.done
    have hk₁ := x.toInCall.keep
    have hcell := x.cell
    have habove := x.above
    have hns := x.toInCall.ns
    have eq0 : (newEnv scope h.objs.size mainGlobals (cellsFrom (h.objs.size + 1) scope.names []) (qual ++ ".<locals>.") (some f) cdv none builtinsNs) = envX qual scope h.objs.size f cdv [(n1, c1 h.objs.size), (n2, c2 h.objs.size)] := by
      show envX qual scope h.objs.size f cdv (cellsFrom (h.objs.size + 1) scope.names []) = _
      rw [hcl]
    show wpAny _ (A.deeper (newEnv scope h.objs.size mainGlobals (cellsFrom (h.objs.size + 1) scope.names []) (qual ++ ".<locals>.") (some f) cdv none builtinsNs)) (execs body (newEnv scope h.objs.size mainGlobals (cellsFrom (h.objs.size + 1) scope.names []) (qual ++ ".<locals>.") (some f) cdv none builtinsNs)) _ _ _
    have eA : A.deeper (newEnv scope h.objs.size mainGlobals (cellsFrom (h.objs.size + 1) scope.names []) (qual ++ ".<locals>.") (some f) cdv none builtinsNs) = A.deeper (envX qual scope h.objs.size f cdv [(n1, c1 h.objs.size), (n2, c2 h.objs.size)]) := by rw [eq0]
    have hL : bindL (envX qual scope h.objs.size f cdv [(n1, c1 h.objs.size), (n2, c2 h.objs.size)]).kindOf [(p, v), (q, u)] (fun _ => none) = upd upd0 q u := by
      have e1 : (envX qual scope h.objs.size f cdv [(n1, c1 h.objs.size), (n2, c2 h.objs.size)]).kindOf p = some .cell := hp
      have e2 : (envX qual scope h.objs.size f cdv [(n1, c1 h.objs.size), (n2, c2 h.objs.size)]).kindOf q = some .local := hq
      simp only [bindL, e1, e2]
      rfl
    have hC : bindC (envX qual scope h.objs.size f cdv [(n1, c1 h.objs.size), (n2, c2 h.objs.size)]).kindOf [(p, v), (q, u)] (fun _ => none) = fun y => if y = p then some v else none := by
      have e1 : (envX qual scope h.objs.size f cdv [(n1, c1 h.objs.size), (n2, c2 h.objs.size)]).kindOf p = some .cell := hp
      have e2 : (envX qual scope h.objs.size f cdv [(n1, c1 h.objs.size), (n2, c2 h.objs.size)]).kindOf q = some .local := hq
      simp only [bindC, e1, e2]
      rfl
    have hcell' : ∀ k c, List.lookup k [(n1, c1 h.objs.size), (n2, c2 h.objs.size)] = some c → h₁.IsCell c (if k = p then some v else none) := by
      intro k c hkc
      have := hcell k c (by show List.lookup k (cellsFrom (h.objs.size + 1) scope.names []) = _; rw [hcl]; exact hkc)
      have e := congrFun hC k
      rw [← e]
      have eE : (newEnv scope h.objs.size mainGlobals (cellsFrom (h.objs.size + 1) scope.names []) (qual ++ ".<locals>.") (some f) cdv none builtinsNs).kindOf = (envX qual scope h.objs.size f cdv [(n1, c1 h.objs.size), (n2, c2 h.objs.size)]).kindOf := rfl
      exact this
    have hab' : ∀ k c, (k, c) ∈ [(n1, c1 h.objs.size), (n2, c2 h.objs.size)] → h.objs.size < c := by
      intro k c hkc
      exact habove k c (by show _ ∈ cellsFrom (h.objs.size + 1) scope.names []; rw [hcl]; exact hkc)
    have hns' : h₁.Ns h.objs.size (upd upd0 q u) := by rw [← hL]; exact hns
    obtain ⟨o1, e1, d1⟩ := hcell' n1 (c1 h.objs.size) (by simp)
    obtain ⟨o2, e2, d2⟩ := hcell' n2 (c2 h.objs.size) (by rw [List.lookup_cons, beq_eq_false_iff_ne.mpr (Ne.symm hnd)]; simp)
    have l1 := hab' n1 _ (.head _)
    have l2 := hab' n2 _ (.tail _ (.head _))
    have hap : c1 h.objs.size ≠ c2 h.objs.size := by
      intro q
      have hap := x.apart
      have : cellsFrom (h.objs.size + 1) scope.names [] = [(n1, c1 h.objs.size), (n2, c2 h.objs.size)] := hcl _
      have hap2 : ([(n1, c1 h.objs.size), (n2, c2 h.objs.size)] : List (Str × Addr)).Pairwise fun x y => x.2 ≠ y.2 := by rw [← this]; exact hap
      rw [List.pairwise_cons] at hap2
      exact hap2.1 _ (.head _) q
    rw [eA, eq0]
    refine wpAny_mono (H h.objs.size h₁ tk₁ o1 o2 ⟨W, ⟨hns', hk₁, Nat.le_refl _⟩, fun y hy => ?_⟩ d1 d2 hap) (fun fl s' hl => hl) fun _ _ x => x.elim
    rcases List.mem_cons.mp hy with rfl | hy
    · exact ⟨e1, Nat.ne_of_gt l1, Heap.get?_none_of_le (Nat.le_of_lt l1)⟩
    · rcases List.mem_singleton.mp hy with rfl
      exact ⟨e2, Nat.ne_of_gt l2, Heap.get?_none_of_le (Nat.le_of_lt l2)⟩
theorem r_storeX {x : Str} {v : Value} {Q : Unit → Shared → Prop} (X : Cx w g L m nw h)
    (H : ∀ h' tk', Cx w g L (upd m x v) nw h' → Q () (st s h' tk'))
    (hk : sc.kind = .function := by k_dflt rfl) (hl : (envX n sc L f cd cl).kindOf x = some .local := by k_dflt rfl) :
    wpAny (model pg w) A (storeName (envX n sc L f cd cl) x v) Q E (st s h tk) :=
  storeX_L (s := st s h tk) X.F X.N (fun h' F' N' => H h' _ ⟨X.W, F', N'⟩) hk hl
theorem r_storeC {x : Str} {v : Value} {c : Addr} {o : Obj} {v₀ : Option Value} {gg : Obj → List (Addr × Obj)} {Q : Unit → Shared → Prop} (X : Cx w g L m nw h) (hc : cl.lookup x = some c) (U : UpdF c o nw gg) (hd : o.data = .cell v₀)
    (H : ∀ h' o' tk', Cx w g L m (gg o') h' → o'.data = .cell (some v) → Q () (st s h' tk'))
    (hk : sc.kind = .function := by k_dflt rfl) (hl : (envX n sc L f cd cl).kindOf x = some .cell := by k_dflt rfl) :
    wpAny (model pg w) A (storeName (envX n sc L f cd cl) x v) Q E (st s h tk) :=
  storeX_C (s := st s h tk) X.F X.N hc U hd (fun h' o' F' N' d' => H h' o' _ ⟨X.W, F', N'⟩ d') hk hl
theorem r_nameC {x : Str} {pos : Pos} {c : Addr} {v : Value} {Q : Value → Shared → Prop} (hl : env.kindOf x = some .cell) (hk : env.scope.kind = .function) (hc : env.cells.lookup x = some c) (hv : h.IsCell c (some v)) (H : Q v (st s h tk))
    (hd : (x == ("__debug__" : Str)) = false) :
    wpAny (model pg w) A (eval (.Name x pos) env) Q E (st s h tk) := wpAny_Name (wpAny_loadName_cell (s := st s h tk) hk hl hc hv H) hd
/-- a comprehension over a list, its block with cells -/
theorem r_compC {elt iter : Expr} {x : Str} {px : Pos} {ifs : List Expr} {scope : Scope} {pos : Pos} {Q : Value → Shared → Prop} (hh : A.handled = none)
    (hclos : closureFor scope env = pure cl) (hcell : ∀ y ∈ scope.names, y.2 ≠ .cell) (hkind : scope.kind = .function)
    (hnames : ∀ y ∈ scope.names, y.2 = .local → scope.names.lookup y.1 = some .local) (hx : scope.names.lookup x = some .local)
    (hs : ∀ x, foldedSetIterable iter env x = pure x)
    (H : wpAny (model pg w) A (eval iter env) (fun xv s₁ => ∃ a h₁ tk₁ vs n p F, xv = .ref a ∧ s₁ = st s h₁ tk₁ ∧ CompSrc1 w A env scope cl x ifs elt s h₁ Q a vs n p F) E (st s h tk)) :
    wpAny (model pg w) A (eval (.ListComp elt [⟨.Name x px, iter, ifs, 0⟩] scope pos) env) Q E (st s h tk) := by
  have main : ∀ xv s₁, (∃ a h₁ tk₁ vs n p F, xv = .ref a ∧ s₁ = st s h₁ tk₁ ∧ CompSrc1 w A env scope cl x ifs elt s h₁ Q a vs n p F) → ∃ (p : Value → Bool) (F : Value → Value → Prop), wpAny (model pg w) A (pyIter xv) (fun it s₂ => ∃ I fp wr n P St, it = .ref I ∧ Walks pg w A I fp wr n P St ∧ n ≤ sizeLine ∧ St 0 s₂.heap ∧ (∀ b ∈ fp, b < s₂.heap.objs.size) ∧
      QuietOnC pg w A env scope cl x ifs elt wr P p F s₂ ∧
      (∀ D h' tk ys (vs : List Value), s₂.heap.get? D = none → h'.IsList D ys → h'.PlainList D ys → vs.length = n → (∀ j v, vs[j]? = some v → P j v) → Paired F (vs.filter p) ys.toList →
        (∀ b o, b ∉ wr → s₂.heap.get? b = some o → h'.get? b = some o) → Q (.ref D) { s₂ with heap := h', toks := tk })) E s₁ := by
    rintro _ _ ⟨a, h₁, tk₁, vs, n, p, F, rfl, rfl, C⟩
    refine ⟨p, F, wpAny_pyIter_list (s := st s h₁ tk₁) (items := vs.toArray) ⟨_, C.list, rfl, n, rfl⟩ ?_⟩
    have hlt : a < h₁.objs.size := Heap.lt_size C.list
    have up : ∀ b o, h₁.get? b = some o → (h₁.push { cls := .type "list_iterator", data := .fields #[.ref a, .int 0 0] }).get? b = some o := fun b o e => Heap.get?_push_of_some _ e
    have hnew := none_size h₁
    refine ⟨h₁.objs.size, [h₁.objs.size, a], [h₁.objs.size], vs.toArray.size, _, _, rfl, Walks.list hh _ _ (Nat.ne_of_lt hlt) vs.toArray, by simpa [sizeLine_eq] using Nat.le_trans C.size (by omega), ⟨⟨_, Heap.get?_push_size _ rfl, rfl, rfl⟩, ⟨_, up _ _ C.list, rfl, n, rfl⟩⟩, ?_, ?_, ?_⟩
    · intro b hb
      show b < (h₁.push _).objs.size
      rw [Heap.size_push]
      rcases List.mem_cons.mp hb with rfl | hb
      · exact Nat.lt_succ_self _
      · rw [List.mem_singleton.mp hb]; exact Nat.lt_succ_of_lt hlt
    · exact quiet_list (s := s) (tk := tk₁) C.wd hnew up C.tests C.elts
    · intro D h' tk ys vs' hD _ hpl hlen hP hF hk
      obtain ⟨n', e'⟩ := hpl
      have evs : vs' = vs := by
        apply List.ext_getElem?
        intro j
        cases q : vs'[j]? with
        | some v => have := hP j v q; simpa using this.symm
        | none =>
          have : vs'.length ≤ j := List.getElem?_eq_none_iff.mp q
          rw [List.getElem?_eq_none]; simp at hlen; omega
      subst evs
      refine C.fin D h' tk ys.toList n' (fun b o e => hk b o (by intro q; rw [List.mem_singleton.mp q, hnew] at e; cases e) (up b o e)) ?_ (by simpa using e') hF
      cases q : h₁.get? D with
      | none => rfl
      | some o => have hu := up _ _ q; exact absurd (hu.symm.trans hD) (by intro q; cases q)
  rw [eval_ListComp]
  refine wpAny_comprehension_free (use := none) rfl hs hclos hkind hnames (wpAny_mono H (fun xv s₁ h₁ => ?_) fun _ _ e => e)
  obtain ⟨p, F, h₁⟩ := main xv s₁ h₁
  refine wpAny_mono h₁ (fun it s₂ h₂ => ?_) fun _ _ e => e
  obtain ⟨I, fp, wr, n, P, St, rfl, W, hsz, hst, hfp, hq, hQ⟩ := h₂
  refine comp_block_walkC (RR := fun acc C => compPost (model pg w) A E none Q acc C) W hsz p F hcell hkind hx hst hfp hq ?_
  intro D C h' tk m' ys vs hD hC hDC hn hl hpl hlen hP hF hk
  exact ⟨m', hn, fun h'' hs'' => hQ D h'' tk ys vs hD (hl.extBut hs''.extBut hDC) (hpl.extBut hs''.extBut hDC) hlen hP hF fun b o hbf e => hs''.extBut b o (by rintro rfl; rw [hC] at e; cases e) (hk b o hbf e)⟩
/-- a name set to a comprehension over a list, on one row -/
structure CompSrcA (w : World) (A : Around) (g : Heap) (L : Addr) (env : Env) (scope : Scope) (cl : List (Str × Addr)) (x y : Str) (ifs : List Expr) (elt : Expr) (s : Shared) (h₁ : Heap) (m : Str → Option Value) (nw : List (Addr × Obj)) (K : Shared → Prop) (a : Addr) (vs : List Value) (n : Nat) (p : Value → Bool) (F : Value → Value → Prop) : Prop where
  X : Cx w g L m nw h₁
  list : h₁.get? a = some (PySem.W.listOf vs.toArray n)
  size : vs.length ≤ 1000000
  tests : TestsOk w A env scope cl x ifs vs h₁ p
  elts : EltOk w A env scope cl x elt vs h₁ p F
  fin : ∀ D h' tk' ys n', Cx w g L (upd m y (.ref D)) ((D, PySem.W.listOf ys.toArray n') :: nw) h' → Paired F (vs.filter p) ys → K (st s h' tk')
theorem r_asgcomp {elt iter : Expr} {x y : Str} {px py : Pos} {ifs : List Expr} {scope : Scope} {cl' : List (Str × Addr)} {pos spos : Pos} {Q : Flow → Shared → Prop} {K : Shared → Prop} (hh : A.handled = none)
    (hsw : swapsWith (.ListComp elt [⟨.Name x px, iter, ifs, 0⟩] scope pos) (some (.Name y py)) spos.line (envX n sc L f cd cl') = pure true)
    (hclos : closureFor scope (envX n sc L f cd cl') = pure cl) (hcell : ∀ y ∈ scope.names, y.2 ≠ .cell) (hkind : scope.kind = .function)
    (hnames : ∀ y ∈ scope.names, y.2 = .local → scope.names.lookup y.1 = some .local) (hx : scope.names.lookup x = some .local)
    (hy : (envX n sc L f cd cl').kindOf y = some .local) (hp : ((envX n sc L f cd cl').scope.kind == .class || ((envX n sc L f cd cl').scope.kind == .module && (envX n sc L f cd cl').locals != (envX n sc L f cd cl').globals)) = false)
    (hs : ∀ x, foldedSetIterable iter (envX n sc L f cd cl') x = pure x)
    (H : wpAny (model pg w) A (eval iter (envX n sc L f cd cl')) (fun xv s₁ => ∃ g a h₁ tk₁ m nw vs n' p F, xv = .ref a ∧ s₁ = st s h₁ tk₁ ∧ CompSrcA w A g L (envX n sc L f cd cl') scope cl x y ifs elt s h₁ m nw K a vs n' p F) E (st s h tk)) :
    wpAny (model pg w) A (exec (.Assign [.Name y py] (.ListComp elt [⟨.Name x px, iter, ifs, 0⟩] scope pos) spos) (envX n sc L f cd cl')) (Seq Q K) E (st s h tk) := by
  rw [exec_Assign_Name_used _ _ _ _ hsw]
  refine wpAny_bind (wpAny_standAt (wpAny_bind ?_))
  show wpAny _ A (do let _ ← comprehension (.ListComp elt [⟨.Name x px, iter, ifs, 0⟩] scope pos) scope (envX n sc L f cd cl') _ (newList []) false (eval iter (envX n sc L f cd cl')) (some (assign (.Name y py) (envX n sc L f cd cl')))) _ _ _
  refine wpAny_bind (wpAny_mono (wpAny_comprehension_free (use := some (assign (.Name y py) (envX n sc L f cd cl'))) (Q := fun _ s' => K s') rfl hs hclos hkind hnames
    (wpAny_mono H (fun xv s₁ h₁ => ?_) fun _ _ e => e)) (fun _ s' hq => wpAny_pure (wpAny_pure hq)) fun _ _ e => e)
  obtain ⟨g, a, h₁, tk₁, m, nw, vs, n', p, F, rfl, rfl, C⟩ := h₁
  refine wpAny_pyIter_list (s := st s h₁ tk₁) (items := vs.toArray) ⟨_, C.list, rfl, n', rfl⟩ ?_
  have hlt : a < h₁.objs.size := Heap.lt_size C.list
  have up : ∀ b o, h₁.get? b = some o → (h₁.push { cls := .type "list_iterator", data := .fields #[.ref a, .int 0 0] }).get? b = some o := fun b o e => Heap.get?_push_of_some _ e
  have hnew := none_size h₁
  have hLlt : L < h₁.objs.size := C.X.F.ns.lt
  refine comp_block_walkC (RR := fun acc C => compPost (model pg w) A E (some (assign (.Name y py) (envX n sc L f cd cl'))) (fun _ s' => K s') acc C) (n := vs.toArray.size) (Walks.list hh h₁.objs.size a (Nat.ne_of_lt hlt) vs.toArray) (by simpa [sizeLine_eq] using Nat.le_trans C.size (by omega)) p F hcell hkind hx ⟨⟨_, Heap.get?_push_size _ rfl, rfl, rfl⟩, ⟨_, up _ _ C.list, rfl, n', rfl⟩⟩ ?_ (quiet_list (s := s) (tk := tk₁) C.X.wd hnew up C.tests C.elts) ?_
  · intro b hb
    show b < (h₁.push _).objs.size
    rw [Heap.size_push]
    rcases List.mem_cons.mp hb with rfl | hb
    · exact Nat.lt_succ_self _
    · rw [List.mem_singleton.mp hb]; exact Nat.lt_succ_of_lt hlt
  · intro D CC h' tk' m' ys vs' hD hC hDC hnC hlD hplD hlen hP hF hk
    have hn : (h₁.push { cls := .type "list_iterator", data := .fields #[.ref a, .int 0 0] }).Ns L m := C.X.F.ns.push _
    have hLC : L ≠ CC := by rintro rfl; obtain ⟨o, _, _, ho, _⟩ := hn; exact absurd (ho.symm.trans hC) (by intro q; cases q)
    have hLD : L ≠ D := by rintro rfl; obtain ⟨o, _, _, ho, _⟩ := hn; exact absurd (ho.symm.trans hD) (by intro q; cases q)
    have hLw : L ∉ [h₁.objs.size] := fun q => by rw [List.mem_singleton.mp q] at hLlt; exact Nat.lt_irrefl _ hLlt
    show wpAny _ A (assign (.Name y py) (envX n sc L f cd cl') (.ref D)) _ _ _
    refine wpAny_assign_Name (wpAny_storeName_local hy (hn.at' fun o e => hk _ o hLw e) (fun h₂ hn₂ hs₂ => ?_) hp)
    refine ⟨m', hnC.sameBut hs₂ (Ne.symm hLC), fun h₃ hs₃ => ?_⟩
    obtain ⟨n'', e'⟩ := (hplD.extBut hs₂.extBut (Ne.symm hLD)).extBut hs₃.extBut hDC
    have evs : vs' = vs := by
      apply List.ext_getElem?
      intro j
      cases q : vs'[j]? with
      | some v => have := hP j v q; simpa using this.symm
      | none =>
        have : vs'.length ≤ j := List.getElem?_eq_none_iff.mp q
        rw [List.getElem?_eq_none]; simp at hlen; omega
    subst evs
    have kept : ∀ b o, b ≠ L → h₁.get? b = some o → h₃.get? b = some o := fun b o hb e =>
      hs₃.extBut b o (by rintro rfl; exact absurd ((up _ _ e).symm.trans hC) (by intro q; cases q)) (hs₂.extBut b o hb (hk b o (by intro q; rw [List.mem_singleton.mp q] at e; exact absurd (hnew.symm.trans e) (by intro q; cases q)) (up b o e)))
    have hDn : h₁.get? D = none := by
      cases q : h₁.get? D with
      | none => rfl
      | some o => exact absurd ((up _ _ q).symm.trans hD) (by intro q; cases q)
    have keepg : ∀ b o, g.get? b = some o → h₃.get? b = some o := fun b o e => kept b o (by rintro rfl; exact absurd (Heap.lt_size e) (Nat.not_lt.mpr C.X.F.above)) (C.X.F.keep b o e)
    refine C.fin D h₃ _ ys.toList n'' ⟨C.X.W, ⟨hn₂.sameBut hs₃ hLC, keepg, C.X.F.above⟩, fun q hq => ?_⟩ hF
    rcases List.mem_cons.mp hq with rfl | hq
    · refine ⟨by simpa using e', fun q => hLD q.symm, ?_⟩
      cases q : g.get? D with
      | none => rfl
      | some o => exact absurd (hDn.symm.trans (C.X.F.keep _ _ q)) (by intro q; cases q)
    · have := C.X.N q hq
      exact ⟨kept _ _ this.2.1 this.1, this.2⟩
/-- a comprehension over a text -/
structure CompSrcS (w : World) (A : Around) (env : Env) (scope : Scope) (cl : List (Str × Addr)) (x : Str) (ifs : List Expr) (elt : Expr) (s : Shared) (h₁ : Heap) (Q : Value → Shared → Prop) (l : List Nat) (p : Nat → Bool) : Prop where
  size : l.length ≤ 1000000
  wd : Wd w h₁
  tests : ∀ c ∈ l, ∀ t s' C g m₃ tk E', Ck w g C m₃ g → (∀ b o, h₁.get? b = some o → g.get? b = some o) → m₃ x = some (.str (S [c]) t) →
      wpAny (model pg w) A (forIn ifs true fun c r => if r = true then do let ok ← isTrue c (compEnvC scope cl C env) (eval c (compEnvC scope cl C env)); pure (ForInStep.yield ok) else pure (ForInStep.yield r)) (BkP g s' (fun ok => ok = p c)) E' (st s' g tk)
  elts : ∀ c ∈ l, p c = true → ∀ t s' C g m₃ tk E', Ck w g C m₃ g → (∀ b o, h₁.get? b = some o → g.get? b = some o) → m₃ x = some (.str (S [c]) t) → wpAny (model pg w) A (eval elt (compEnvC scope cl C env)) (BkP g s' (fun y => ∃ t', y = .str (S [c]) t')) E' (st s' g tk)
  fin : ∀ D h' tk' ys n', (∀ b o, h₁.get? b = some o → h'.get? b = some o) → h₁.get? D = none → h'.get? D = some (PySem.W.listOf ys.toArray n') → StrsV ys ((l.filter p).map fun c => [c]) → Q (.ref D) (st s h' tk')
theorem r_compS {elt iter : Expr} {x : Str} {px : Pos} {ifs : List Expr} {scope : Scope} {pos : Pos} {Q : Value → Shared → Prop} (hh : A.handled = none)
    (hclos : closureFor scope env = pure cl) (hcell : ∀ y ∈ scope.names, y.2 ≠ .cell) (hkind : scope.kind = .function)
    (hnames : ∀ y ∈ scope.names, y.2 = .local → scope.names.lookup y.1 = some .local) (hx : scope.names.lookup x = some .local)
    (hs : ∀ x, foldedSetIterable iter env x = pure x)
    (H : wpAny (model pg w) A (eval iter env) (fun xv s₁ => ∃ l t h₁ tk₁ p, xv = .str (S l) t ∧ s₁ = st s h₁ tk₁ ∧ CompSrcS w A env scope cl x ifs elt s h₁ Q l p) E (st s h tk)) :
    wpAny (model pg w) A (eval (.ListComp elt [⟨.Name x px, iter, ifs, 0⟩] scope pos) env) Q E (st s h tk) := by
  rw [eval_ListComp]
  refine wpAny_comprehension_free (use := none) rfl hs hclos hkind hnames (wpAny_mono H (fun xv s₁ h₁ => ?_) fun _ _ e => e)
  obtain ⟨l, t, h₁, tk₁, p, rfl, rfl, C⟩ := h₁
  obtain ⟨P, hP0⟩ : ∃ P : Value → Bool, ∀ l t, P (.str (S l) t) = p (l.getD 0 0) := ⟨fun v : Value => match v with | Value.str y _ => p (y.cps.getD 0 0) | _ => false, fun l t => by show p _ = _; rw [getD_S]⟩
  have hP : ∀ c t, P (.str (S [c]) t) = p c := fun c t => hP0 [c] t
  obtain ⟨F, hF0⟩ : ∃ F : Value → Value → Prop, F = fun (v y : Value) => ∀ (l : List Nat) (t : Tok), v = Value.str (S l) t → ∃ t', y = Value.str (S (id l)) t' := ⟨_, rfl⟩
  refine wpAny_pyIter_str fun o St hW hSt => ?_
  have hnew := none_size h₁
  have up : ∀ b ob, h₁.get? b = some ob → (h₁.push o).get? b = some ob := fun b ob e => Heap.get?_push_of_some _ e
  have sign : ∀ i v, SignAt (S l) i v → ∃ c u, c ∈ l ∧ l[i]? = some c ∧ v = .str (S [c]) u := by
    rintro i v ⟨c, u, e, rfl⟩
    have e' : l[i]? = some c := by simpa [S] using e
    exact ⟨c, u, List.mem_of_getElem? e', e', rfl⟩
  refine comp_block_walkC (RR := fun acc C => compPost (model pg w) A E none Q acc C) (hW A hh) (by rw [sizeLine_eq]; have := C.size; simp [S]; omega) P F hcell hkind hx hSt ?_ ?_ ?_
  · intro b hb
    rw [List.mem_singleton.mp hb]
    show h₁.objs.size < (h₁.push o).objs.size
    rw [Heap.size_push]; exact Nat.lt_succ_self _
  · refine ⟨?_, ?_⟩
    · intro K i v s₃ m₃ E' hC hv hn hm hk _
      obtain ⟨c, u, hc, _, rfl⟩ := sign i v hv
      have kept : ∀ b ob, h₁.get? b = some ob → s₃.heap.get? b = some ob := fun b ob e => hk b ob (by intro q; rw [List.mem_singleton.mp q] at e; exact absurd (hnew.symm.trans e) (by intro q; cases q)) (up b ob e)
      refine wpAny_mono (C.tests c hc u s₃ K s₃.heap m₃ s₃.toks E' ⟨C.wd.keeps kept, hn, fun _ _ e => e⟩ kept hm) (fun ok s₄ q => ?_) fun _ _ e => e
      obtain ⟨q, h', tk', e, k⟩ := q
      exact ⟨by rw [hP]; exact q, h', tk', e, k⟩
    · intro K i v s₃ m₃ E' hC hv hp hn hm hk _
      obtain ⟨c, u, hc, _, rfl⟩ := sign i v hv
      rw [hP] at hp
      have kept : ∀ b ob, h₁.get? b = some ob → s₃.heap.get? b = some ob := fun b ob e => hk b ob (by intro q; rw [List.mem_singleton.mp q] at e; exact absurd (hnew.symm.trans e) (by intro q; cases q)) (up b ob e)
      refine wpAny_mono (C.elts c hc hp u s₃ K s₃.heap m₃ s₃.toks E' ⟨C.wd.keeps kept, hn, fun _ _ e => e⟩ kept hm) (fun y s₄ q => ?_) fun _ _ e => e
      obtain ⟨⟨t', q⟩, h', tk', e, k⟩ := q
      rw [hF0]
      exact ⟨fun l' t'' e => by injection e with e1 e2; rw [S_inj] at e1; subst e1; exact ⟨t', q⟩, h', tk', e, k⟩
  · intro D K h' tk' m' ys vs hD hC hDC hn hl hpl hlen hPv hF hk
    refine ⟨m', hn, fun h'' hs'' => ?_⟩
    obtain ⟨n', e'⟩ := hpl.extBut hs''.extBut hDC
    have hvs : StrsV vs (l.map fun c => [c]) := by
      have key : ∀ (vs : List Value) (l : List Nat), vs.length = l.length → (∀ (j : Nat) (v : Value), vs[j]? = some v → ∃ (c : Nat) (u : Tok), l[j]? = some c ∧ v = Value.str (S [c]) u) → StrsV vs (l.map fun c => [c]) := by
        intro vs
        induction vs with
        | nil => intro l hl _; rw [List.eq_nil_of_length_eq_zero hl.symm]; exact .nil
        | cons v r ih =>
          intro l hl hj
          cases l with
          | nil => simp at hl
          | cons c l =>
            obtain ⟨c', u, e1, e2⟩ := hj 0 v rfl
            cases e1
            exact .cons ⟨u, e2⟩ (ih l (by simpa using hl) fun j v e => hj (j + 1) v e)
      refine key vs l (by rw [hlen]; simp [S]) fun j v e => ?_
      obtain ⟨c, u, _, e1, e2⟩ := sign j v (hPv j v e)
      exact ⟨c, u, e1, e2⟩
    rw [hF0] at hF
    have hout := hvs.comp (p := P) (q := fun x => p (x.getD 0 0)) (f := id) (ys := ys.toList) hP0 hF
    rw [List.filter_map, List.map_map] at hout
    refine C.fin D h'' tk' ys.toList n' (fun b ob e => hs''.extBut b ob (by rintro rfl; exact absurd ((up _ _ e).symm.trans hC) (by intro q; cases q)) (hk b ob (by intro q; rw [List.mem_singleton.mp q] at e; exact absurd (hnew.symm.trans e) (by intro q; cases q)) (up b ob e))) ?_ (by simpa using e') ?_
    · cases q : h₁.get? D with
      | none => rfl
      | some ob => exact absurd ((up _ _ q).symm.trans hD) (by intro q; cases q)
    · have e : (fun x : List Nat => p (x.getD 0 0)) ∘ (fun c : Nat => [c]) = p := by funext c; rfl
      rw [e] at hout
      exact hout
theorem keptCk : KeptH (fun h => Ck w g L m h) := fun _ _ X => X.more fun _ _ e => Heap.get?_push_of_some _ e
theorem x_slice_k {value slice : Expr} {a : List Nat} {t t1 t2 : Tok} {i j : Int} {Q : Value → Shared → Prop} (X : Ck w g L m h) (H : ∀ t' h' tk', Ck w g L m h' → Q (.str (S (cut a (some i) (some j))) t') (st s h' tk')) (hz : a.length ≤ 1000000)
    (hs : ∀ q, subscripted slice false (.str (S a) t) (.ref q) = operate [.ref q, .str (S a) t] (getItem (.str (S a) t) (.ref q)) := by intro _; k_dflt rfl)
    (ht : ∀ r, letTemporaryGo value (.str (S a) t) r = pure () := by intro _; k_dflt rfl) :
    wpAny (model pg w) A (subscriptTail value slice (.str (S a) t) (.ref (st s h tk).heap.objs.size)) Q E { st s h tk with heap := (st s h tk).heap.push { cls := .type "slice", data := .fields #[.int i t1, .int j t2, .none] } } :=
  tail_of_ItemOn (s := { st s h tk with heap := (st s h tk).heap.push { cls := .type "slice", data := .fields #[.int i t1, .int j t2, .none] } }) (SBH.sliceItem_ss (s := st s h tk) keptCk X (fun h' t' k a => by rw [slice_S]; exact H t' h' k a) (by rw [S_length, sizeLine_eq]; omega)) (hs _) ht
/-- an item of a tuple -/
theorem x_tup {value slice : Expr} {tu : Addr} {vs : List Value} {i : Int} {u : Tok} {v : Value} {Q : Value → Shared → Prop} (ht : h.get? tu = some { cls := .type "tuple", data := .seq vs.toArray }) (h0 : 0 ≤ i) (hj : i < 1000) (hx : vs[i.toNat]? = some v) (H : Q v (st s h tk))
    (hs : subscripted slice false (.ref tu) (.int i u) = operate [.ref tu, .int i u] (getItem (.ref tu) (.int i u)) := by k_dflt rfl) :
    wpAny (model pg w) A (subscriptTail value slice (.ref tu) (.int i u)) Q E (st s h tk) := by
  obtain ⟨j, rfl⟩ := Int.eq_ofNat_of_zero_le h0
  have hx : vs[j]? = some v := hx
  have hjl : j < vs.length := (List.getElem?_eq_some_iff.mp hx).1
  refine item_tupleT (s := st s h tk) (j := j) ⟨_, ht, rfl, 0, rfl⟩ (by omega) (by omega) ?_ hx H hs
  unfold seqIndex?
  simp only [show ¬ ((j : Int) < 0) by omega, if_false]
  simp [hjl]
/-- an item of a list -/
theorem x_lst {value slice : Expr} {a : Addr} {vs : List Value} {n : Nat} {i : Int} {u : Tok} {v : Value} {Q : Value → Shared → Prop} (ht : h.get? a = some (PySem.W.listOf vs.toArray n)) (h0 : 0 ≤ i) (hj : i < 1000) (hx : vs[i.toNat]? = some v) (H : Q v (st s h tk))
    (hs : subscripted slice false (.ref a) (.int i u) = operate [.ref a, .int i u] (getItem (.ref a) (.int i u)) := by k_dflt rfl) :
    wpAny (model pg w) A (subscriptTail value slice (.ref a) (.int i u)) Q E (st s h tk) := by
  have hl : (st s h tk).heap.IsList a vs.toArray := ⟨_, ht, rfl, n, rfl⟩
  exact tail_any hl.typeIs slot_list_getitem.lookup (wpAny_getItem_list hl h0 (by omega) (by simpa using hx) H) hs
/-- a list against an empty one -/
theorem q_nenil {a b : Addr} {vs : List Value} {n k : Nat} {Q : Value → Shared → Prop} (ha : h.get? a = some (PySem.W.listOf vs.toArray n)) (hb : h.get? b = some (PySem.W.listOf #[] k)) (hu : A.units < cLine) (H : Q (.bool (!decide (vs = []))) (st s h tk)) :
    wpAny (model pg w) A (compareOp .NotEq (.ref a) (.ref b)) Q E (st s h tk) := by
  have la : (st s h tk).heap.IsList a vs.toArray := ⟨_, ha, rfl, n, rfl⟩
  have lb : (st s h tk).heap.IsList b #[] := ⟨_, hb, rfl, k, rfl⟩
  cases vs with
  | nil => exact EqBoolInt.of_rcne (SeqAt.RcNeAt.lists (e := fun _ => true) la lb rfl hu fun j h1 => absurd h1 (Nat.not_lt_zero _)) H
  | cons v r => exact EqBoolInt.of_rcne (SeqAt.RcNeAt.lists_lengths la lb (by simp) hu) (by simpa using H)
/-- two lists of the same texts -/
theorem q_nesame {a b : Addr} {vs us : List Value} {ls : List (List Nat)} {n k : Nat} {Q : Value → Shared → Prop} (ha : h.get? a = some (PySem.W.listOf vs.toArray n)) (hb : h.get? b = some (PySem.W.listOf us.toArray k)) (hv : StrsV vs ls) (hw : StrsV us ls) (hu : A.units < cLine)
    (H : Q (.bool false) (st s h tk)) : wpAny (model pg w) A (compareOp .NotEq (.ref a) (.ref b)) Q E (st s h tk) := by
  have la : (st s h tk).heap.IsList a vs.toArray := ⟨_, ha, rfl, n, rfl⟩
  have lb : (st s h tk).heap.IsList b us.toArray := ⟨_, hb, rfl, k, rfl⟩
  refine EqBoolInt.of_rcne (SeqAt.RcNeAt.lists (e := fun _ => true) la lb (by simp [hv.length, hw.length]) hu fun j h1 h2 => ?_) (by rw [show (List.range vs.toArray.size).all (fun _ => true) = true from List.all_eq_true.mpr fun _ _ => rfl]; exact H)
  obtain ⟨l1, t1, e1, q1⟩ := hv.idx (i := j) (v := vs.toArray[j]) (by simp)
  obtain ⟨l2, t2, e2, q2⟩ := hw.idx (i := j) (v := us.toArray[j]) (by simp)
  rw [e1] at e2; cases e2
  rw [q1, q2]
  have := SeqAt.EqAt.str_str (A := A.in1) (s := st s h tk) (S l1) t1 (S l1) t2
  simpa using this
end
end Mine
end
section
open PySem PySem.W PySem.Calls PyProof.Rows PyProof PyProof.V
set_option Elab.async false
set_option maxRecDepth 100000
set_option maxHeartbeats 2000000
set_option autoImplicit false
namespace Mine
/-- a dict's object with text keys -/
abbrev SD (w : World) (o : Obj) (kvs : List (Str × Value)) : Prop := o.IsDictOf (PySem.strKind pg w) kvs
section
variable {w : World} {A : Around} {E : Value → Shared → Prop} {s : Shared} {h g : Heap} {tk : Nat} {L a d : Addr} {m : Str → Option Value} {nw : List (Addr × Obj)} {env : Env} {l : List Nat} {t u : Tok} {o : Obj} {kvs : List (Str × Value)} {v : Value}
theorem Wd.nl (W : Wd w g) : g.NoLimit := by obtain ⟨_, _, _, _, T⟩ := W.T; exact T.nolimit
theorem r_dict0 {pos} {Q : Value → Shared → Prop} (X : Cx w g L m nw h) (H : ∀ d o h' tk', Cx w g L m ((d, o) :: nw) h' → SD w o [] → (∀ p ∈ nw, p.1 ≠ d) → (d == sysModules) = false → Q (.ref d) (st s h' tk')) :
    wpAny (model pg w) A (eval (.Dict [] [] pos) env) Q E (st s h tk) :=
  newDict_K (s := st s h tk) X.F X.N X.W.nl fun d h' o F' N' lt lo a _ _ _ => H d o h' _ ⟨X.W, F', N'⟩ a (fun p hp => Nat.ne_of_lt (lt p hp)) lo
theorem r_dictN {keys : List (Option Expr)} {values : List Expr} {pos : Pos} {Q : Value → Shared → Prop} (X : Cx w g L m nw h) (hall : keys.all (·.isSome) = true) (hl : keys.length = values.length) (h0 : keys ≠ []) (hlen : keys.length ≤ 15)
    (H : ∀ d o h', Cx w g L m ((d, o) :: nw) h' → SD w o [] → (∀ p ∈ nw, p.1 ≠ d) → (d == sysModules) = false →
      wpAny (model pg w) A (evalPairs (pairTrees keys values env pos)) (fun vs s₁ => KdnMade pg w (PySem.strKind pg w) d Q vs s₁) E (st s h' tk)) :
    wpAny (model pg w) A (eval (.Dict keys values pos) env) Q E (st s h tk) :=
  kdn_eval (s := st s h tk) X.F X.N X.W.nl hall hl h0 hlen fun d h' o F' N' lt lo a => H d o h' ⟨X.W, F', N'⟩ a (fun p hp => Nat.ne_of_lt (lt p hp)) lo
theorem k_nil {pos : Pos} {Q : List (Value × Value) → Shared → Prop} (H : Q [] s) : wpAny (model pg w) A (evalPairs (pairTrees [] [] env pos)) Q E s := pairTrees_nil_walk H
theorem k_cons {pos : Pos} {k x : Expr} {ks : List (Option Expr)} {xs : List Expr} {Q : List (Value × Value) → Shared → Prop}
    (H : wpAny (model pg w) A (eval k env) (fun kv s₁ => wpAny (model pg w) A (eval x env) (fun xv s₂ => wpAny (model pg w) A (evalPairs (pairTrees ks xs env pos)) (fun r s₃ => Q ((kv, xv) :: r) s₃) E s₂) E s₁) E s) :
    wpAny (model pg w) A (evalPairs (pairTrees (some k :: ks) (x :: xs) env pos)) Q E s := pairTrees_cons_walk H
theorem k_made {vs : List (Value × Value)} {Q : Value → Shared → Prop} (X : Cx w g L m ((d, o) :: nw) h) (hd : SD w o []) (ha : ∀ p ∈ nw, p.1 ≠ d) (hk : allStrKeys vs = true) (hn : ((strPairs vs).map (·.1)).Nodup)
    (H : ∀ o' h' tk', Cx w g L m ((d, o') :: nw) h' → SD w o' (strPairs vs) → Q (.ref d) (st s h' tk')) : KdnMade pg w (PySem.strKind pg w) d Q vs (st s h tk) :=
  kdn_made_str (s := st s h tk) X.F X.N (.head ha) hd hk hn fun h' o' F' N' q => H o' h' _ ⟨X.W, F', N'⟩ q
theorem Cx.dict (X : Cx w g L m nw h) (hp : (d, o) ∈ nw) (hd : SD w o kvs) : h.DictOf (PySem.strKind pg w) d kvs := Heap.dictOf_iff.mpr ⟨o, (X.N _ hp).1, hd⟩
theorem d_in {Q : Value → Shared → Prop} (hD : h.DictOf (PySem.strKind pg w) d kvs) (lo : (d == sysModules) = false) (H : ∀ tk', Q (.bool (valueAt kvs (S l)).isSome) (st s h tk')) :
    wpAny (model pg w) A (compareOp .In (.str (S l) t) (.ref d)) Q E (st s h tk) := wpAny_in_of (s := st s h tk) (knd := PySem.strKind pg w) (strKind_is _ _ _ _) lo hD.mapOf (H _)
theorem d_item {value slice : PySem.Expr} {Q : Value → Shared → Prop} (hD : h.DictOf (PySem.strKind pg w) d kvs) (hv : valueAt kvs (S l) = some v) (H : ∀ tk', Q v (st s h tk'))
    (hs : subscripted slice false (.ref d) (.str (S l) t) = operate [.ref d, .str (S l) t] (getItem (.ref d) (.str (S l) t)) := by k_dflt rfl) :
    wpAny (model pg w) A (subscriptTail value slice (.ref d) (.str (S l) t)) Q E (st s h tk) :=
  tail_any hD.typeIs slot_dict_getitem.lookup (wpAny_getItem_of (s := st s h tk) (knd := PySem.strKind pg w) (strKind_is _ _ _ _) hD.mapOf hv (H _)) hs
theorem r_dset {oe ie : Expr} {p' pos : Pos} {value : Expr} {Q : Flow → Shared → Prop} {K : Shared → Prop}
    (H : wpAny (model pg w) A (eval value env) (fun v s₁ => wpAny (model pg w) A (eval oe env) (fun ov s₂ => wpAny (model pg w) A (eval ie env) (fun iv s₃ => wpAny (model pg w) A (setItem ov iv v) (fun _ => K) E s₃) E s₂) E s₁) E s)
    (hs : swapsWith value (some (.Subscript oe ie p')) pos.line env = pure false := by k_dflt rfl) :
    wpAny (model pg w) A (exec (.Assign [.Subscript oe ie p'] value pos) env) (Seq Q K) E s := wpAny_Assign_Subscript H hs
theorem d_set {gg : Obj → List (Addr × Obj)} {Q : Unit → Shared → Prop} (X : Cx w g L m nw h) (U : UpdF d o nw gg) (hd : SD w o kvs) (hz : kvs.length ≤ 1000000)
    (H : ∀ o' h' tk', Cx w g L m (gg o') h' → SD w o' (stored kvs (S l) v) → Q () (st s h' tk')) : wpAny (model pg w) A (setItem (.ref d) (.str (S l) t) v) Q E (st s h tk) :=
  kda_set (s := st s h tk) (knd := PySem.strKind pg w) X.F X.N U hd (strKind_is _ _ _ _) (by rw [sizeLine_eq]; omega) fun h' o' F' N' q => H o' h' _ ⟨X.W, F', N'⟩ q
end
end Mine
end
section
open PySem PySem.W PySem.Calls PyProof.Rows PyProof
set_option Elab.async false
set_option maxRecDepth 100000
set_option maxHeartbeats 4000000
set_option autoImplicit false
namespace Mine
local macro_rules | `(tactic| walk_at "n") => `(tactic| first
  | (refine' r_name ?l ?k ?n ?v ?_ ?b; (case l => k_dflt rfl); (case k => k_dflt rfl); (case n => k_dflt (first | exact Cx.ns (by assumption) | exact Ck.ns (by assumption))); (case v => k_dflt (first | rfl | assumption)); (case b => k_dflt decide))
  | (refine' r_glob ?l ?k ?g ?e ?w ?_ ?b; (case l => k_dflt rfl); (case k => k_dflt rfl); (case g => k_dflt rfl); (case e => first | exact gl_read _ | exact gl_items _ | exact gl_decoded _ | exact gl_charset _ | exact gl_dict _ | exact gl_text _ | exact gl_unquote _ | exact gl_unslash _ | exact gl_uhv _ | exact gl_plh _ | exact gl_pdh _ | exact gl_cvre _ | exact gl_pieces _ | exact gl_stretches _ | exact gl_charsets _ | assumption); (case w => first | exact Cx.wd (by assumption) | exact Ck.wd (by assumption) | assumption); (case b => k_dflt decide))
  | (refine' r_bi ?l ?k ?g ?h (gl_len _) bb_len ?n ?w ?_ ?b; (case l => k_dflt rfl); (case k => k_dflt rfl); (case g => k_dflt rfl); (case h => k_dflt rfl); (case n => k_dflt decide); (case w => first | exact Cx.wd (by assumption) | exact Ck.wd (by assumption) | assumption); (case b => k_dflt decide))
  | (refine' r_bi ?l ?k ?g ?h (gl_ord _) bb_ord ?n ?w ?_ ?b; (case l => k_dflt rfl); (case k => k_dflt rfl); (case g => k_dflt rfl); (case h => k_dflt rfl); (case n => k_dflt decide); (case w => first | exact Cx.wd (by assumption) | exact Ck.wd (by assumption) | assumption); (case b => k_dflt decide))
  | (refine' r_bi ?l ?k ?g ?h (gl_int _) bb_int ?n ?w ?_ ?b; (case l => k_dflt rfl); (case k => k_dflt rfl); (case g => k_dflt rfl); (case h => k_dflt rfl); (case n => k_dflt decide); (case w => first | exact Cx.wd (by assumption) | exact Ck.wd (by assumption) | assumption); (case b => k_dflt decide))
  | (refine' r_bi ?l ?k ?g ?h (gl_bytes _) bb_bytes ?n ?w ?_ ?b; (case l => k_dflt rfl); (case k => k_dflt rfl); (case g => k_dflt rfl); (case h => k_dflt rfl); (case n => k_dflt decide); (case w => first | exact Cx.wd (by assumption) | exact Ck.wd (by assumption) | assumption); (case b => k_dflt decide))
  | (refine' r_bi ?l ?k ?g ?h (gl_list _) bb_list ?n ?w ?_ ?b; (case l => k_dflt rfl); (case k => k_dflt rfl); (case g => k_dflt rfl); (case h => k_dflt rfl); (case n => k_dflt decide); (case w => first | exact Cx.wd (by assumption) | exact Ck.wd (by assumption) | assumption); (case b => k_dflt decide)))
local macro_rules | `(tactic| walk_at "s") => `(tactic| (with_reducible first
  | (refine' r_cons ?_)
  | (refine' r_nil ?_)
  | (refine' r_assign ?_ ?a; (case a => k_dflt rfl))
  | (refine' r_if ?_)
  | (refine' r_ret ?_)
  | (refine' r_continue ?_)
  | (refine' r_aug ?_)
  | (refine' r_store ?x ?_ ?a ?b; (case x => assumption); (case a => k_dflt rfl); (case b => k_dflt rfl); intro _ _ _)
  | ((show wpAny _ _ (eval (Expr.Name _ _) _) _ _ _); walk_at "n")
  | (refine' r_load ?l ?k ?n ?v ?_; (case l => k_dflt rfl); (case k => k_dflt rfl); (case n => k_dflt (first | exact Cx.ns (by assumption) | exact Ck.ns (by assumption))); (case v => k_dflt (first | rfl | assumption)))
  | (refine' r_int ?_; intro _ _)
  | (refine' r_str ?_; intro _ _)
  | (refine' r_bool ?_)
  | (refine' r_none ?_)
  | (refine' r_expr ?_ ?a ?b; (case a => k_dflt rfl); (case b => k_dflt rfl))
  | (refine' and_none ?_)
  | (refine' r_list0 ?x ?_; (case x => assumption); intro _ _ _ _ _)
  | (refine' gm_append ?x ?_; (case x => assumption))
  | (refine' m_append ?x ?e ?z ?_; (case x => assumption); (case e => first | assumption | exact List.forall_mem_nil _); (case z => omega); intro _ _ _)
  | (refine' e_not ?_)
  | (refine' v_str ?z ?_; (case z => (try simp only [List.length_append, List.length_cons, List.length_nil, lit_nil, lit_dq, lit_sq]); omega); intro _)
  | (refine' gm_strip ?_)
  | (refine' m_strip ?z ?_; (case z => omega); intro _ _)
  | (refine' r_binop ?_)
  | (refine' r_cmp ?_ ?a; (case a => k_dflt rfl))
  | (refine' r_ifexp ?_)
  | (refine' t_cmp ?_ ?a; (case a => k_dflt rfl))
  | (refine' t_not ?_)
  | (refine' t_and0 ?_)
  | (refine' t_or0 ?_)
  | (refine' t_and ?_)
  | (refine' t_or ?_)
  | (refine' t_name ?_)
  | (refine' t_call ?_)
  | (refine' v_bool ?_)
  | (refine' r_call ?_ ?a; (case a => k_dflt rfl))
  | (refine' r_mcall ?_ ?a; (case a => exact ⟨_, by k_dflt rfl⟩); intro _)
  | (refine' c_fn ?_ ?a ?b; (case a => k_dflt rfl); (case b => k_dflt rfl))
  | (refine' c_me ?_ ?a ?b; (case a => k_dflt rfl); (case b => k_dflt rfl))
  | (refine' c_bi0 ?_)
  | (refine' sp_more ?_ ?a; (case a => k_dflt rfl))
  | (refine' sp_none ?_)
  | (refine' c_def ?w ?k ?_ ?a ?b; (case w => first | exact Cx.wd (by assumption) | exact Ck.wd (by assumption) | assumption); (case k => first | exact kp_38 _ | exact kp_45 _ | exact kp_57 _ | exact kp_62 _ | exact kp_69 _ | exact kp_82 _ | exact kp_89 _ | exact kp_96 _ | exact kp_101 _ | exact kp_106 _ | exact kp_111 _ | exact kp_118 _); (case a => k_dflt rfl); (case b => k_dflt rfl))
  | (refine' c_def0 ?w ?k ?_; (case w => first | exact Cx.wd (by assumption) | exact Ck.wd (by assumption) | assumption); (case k => first | exact kp_82 _ | exact kp_89 _))
  | (refine' in_K ?w ?_; (case w => first | exact Cx.wd (by assumption) | exact Ck.wd (by assumption) | assumption))
  | (refine' r_sub ?_)
  | (refine' s_slice ?_)
  | (refine' s_some ?_)
  | (refine' s_none ?_)
  | (refine' r_neg ?_; intro _ _)
  | (refine' gm_starts ?_)
  | (refine' gm_ends ?_)
  | (refine' m_starts ?c ?_; (case c => first | exact lit_dq | exact lit_star))
  | (refine' m_ends ?c ?_; (case c => first | exact lit_dq | exact lit_star))
  | (refine' r_or2 ?_)
  | (refine' gm_group ?x ?_; (case x => assumption))
  | (refine' m_group ?x ?k ?z ?_; (case x => assumption); (case k => assumption); (case z => omega); intro _ _)
  | (refine' gm_decode ?_)
  | (refine' gm_sub ?w ?_; (case w => first | exact Cx.wd (by assumption) | assumption))
  | (refine' b_addI ?_; intro _ _)
  | (refine' b_subI ?_; intro _ _)
  | (refine' q_ltI ?_)
  | (refine' q_gtI ?_)
  | (refine' q_geI ?_)
  | (refine' q_eqS ?_)
  | (refine' q_neS ?_)
  | (refine' b_iaddS ?_ ?z; (case z => (try simp only [List.length_append, List.length_cons, List.length_nil, lit_nil, lit_dq, lit_sq]); omega); intro _ _)
  | (refine' b_iaddI ?_; intro _ _)
  | (refine' p_len ?_ ?z; (case z => omega); intro _ _)
  | (refine' b_addS ?_ ?z; (case z => (try simp only [List.length_append, List.length_cons, List.length_nil, lit_nil, lit_dq, lit_sq]); omega); intro _ _)
  | (refine' x_item ?a ?b ?_ ?z ?c ?d; (case a => omega); (case b => omega); (case z => omega); (case c => k_dflt rfl); (case d => intro _; k_dflt rfl); intro _ _)
  | (refine' x_slice_ss ?x ?_ ?z ?c ?d; (case x => assumption); (case z => omega); (case c => intro _; k_dflt rfl); (case d => intro _; k_dflt rfl); intro _ _ _ _)
  | (refine' x_slice_sn ?x ?_ ?z ?c ?d; (case x => assumption); (case z => omega); (case c => intro _; k_dflt rfl); (case d => intro _; k_dflt rfl); intro _ _ _ _)
  | (refine' x_slice_ns ?x ?_ ?z ?c ?d; (case x => assumption); (case z => omega); (case c => intro _; k_dflt rfl); (case d => intro _; k_dflt rfl); intro _ _ _ _)
  | (refine' r_dict0 ?x ?_; (case x => assumption); intro _ _ _ _ _ _ _ _)
  | (refine' r_dictN ?x ?a ?b ?c ?e ?_; (case x => assumption); (case a => k_dflt rfl); (case b => k_dflt rfl); (case c => k_dflt (exact List.cons_ne_nil _ _)); (case e => k_dflt decide); intro _ _ _ _ _ _ _)
  | (refine' k_cons ?_)
  | (refine' k_nil ?_)
  | (refine' k_made ?x ?d ?a ?k ?n ?_; (case x => assumption); (case d => assumption); (case a => assumption); (case k => k_dflt rfl); (case n => (simp only [strPairs, List.map]; k_dflt (decide +kernel))); intro _ _ _ _ _)
  | (refine' r_dset ?_ ?a; (case a => k_dflt rfl))
  | (refine' d_set ?x ?u ?d ?z ?_; (case x => assumption); (case u => first | exact UpdF.head (by assumption)); (case d => assumption); (case z => omega); intro _ _ _ _ _)
  | refine br_true ?_
  | refine br_false ?_
  | refine br_ntrue ?_
  | refine br_nfalse ?_
  | (refine br_dec ?_ ?_ <;> intro _)
  | (refine br_ndec ?_ ?_ <;> intro _)
  | (refine br_nndec ?_ ?_ <;> intro _)
  | (refine br_nb ?_ ?_ <;> intro _)
  | (refine br_b ?_ ?_ <;> intro _)
  | refine r_and0 ?_
  | refine r_out ?_
  | refine r_outc ?_
  | refine r_back ?_))

def chsL (t1 t2 t3 t4 : Tok) : List (Str × Value) := [(S (lit "utf-8"), .int 2 t1), (S (lit "iso-8859-1"), .int 3 t2), (S (lit "us-ascii"), .int 4 t3), (S (lit "ascii"), .int 4 t4)]
theorem charsets_spec {w : World} {A : Around} {E : Value → Shared → Prop} {s : Shared} {h : Heap} {tk : Nat} {Q : Value → Shared → Prop} (W : Wd w h) (hdp : A.depth + 2 < recursionLimit)
   (H : ∀ h' tk' a t1 t2 t3 t4, h.StaysIn h' → h.get? a = none → (a == sysModules) = false → h'.DictOf (PySem.strKind pg w) a (chsL t1 t2 t3 t4) → Q (.ref a) (st s h' tk')) :
   wpAny (model pg w) A (call (.ref 89) []) Q E (st s h tk) := by
  refine call_pure W (binds := []) (by rfl) (by rfl) (by omega) (BindsTo.of_eq (by rfl)) (fun y hy => nomatch hy) fun L h₁ tk₁ X => ?_
  have MARK : True := trivial
  repeat' (walk_at "s")
  have lo := ‹(_ == sysModules) = false›; rename_i X9 hd9
  exact H _ _ _ _ _ _ _ X9.F.keep (X9.N _ (.head _)).2.2 lo (X9.dict (.head _) hd9)
end Mine
end
section
open PySem PySem.W PySem.Calls PyProof.Rows PyProof
set_option Elab.async false
set_option maxRecDepth 100000
set_option maxHeartbeats 4000000
set_option autoImplicit false
namespace Mine
local macro_rules | `(tactic| walk_at "m") => `(tactic| first | exact .head _ | exact .tail _ (.head _) | exact .tail _ (.tail _ (.head _)) | exact .tail _ (.tail _ (.tail _ (.head _))) | exact .tail _ (.tail _ (.tail _ (.tail _ (.head _)))) | exact .tail _ (.tail _ (.tail _ (.tail _ (.tail _ (.head _))))) | exact .tail _ (.tail _ (.tail _ (.tail _ (.tail _ (.tail _ (.head _)))))) | exact .tail _ (.tail _ (.tail _ (.tail _ (.tail _ (.tail _ (.tail _ (.head _))))))) | exact .tail _ (.tail _ (.tail _ (.tail _ (.tail _ (.tail _ (.tail _ (.tail _ (.head _)))))))) | exact .tail _ (.tail _ (.tail _ (.tail _ (.tail _ (.tail _ (.tail _ (.tail _ (.tail _ (.head _))))))))))
local macro_rules | `(tactic| walk_at "n") => `(tactic| first
  | (refine' r_name ?l ?k ?n ?v ?_ ?b; (case l => k_dflt rfl); (case k => k_dflt rfl); (case n => k_dflt (first | exact Cx.ns (by assumption) | exact Ck.ns (by assumption))); (case v => k_dflt (first | rfl | assumption)); (case b => k_dflt decide))
  | (refine' r_glob ?l ?k ?g ?e ?w ?_ ?b; (case l => k_dflt rfl); (case k => k_dflt rfl); (case g => k_dflt rfl); (case e => first | exact gl_read _ | exact gl_items _ | exact gl_decoded _ | exact gl_charset _ | exact gl_dict _ | exact gl_text _ | exact gl_unquote _ | exact gl_unslash _ | exact gl_uhv _ | exact gl_plh _ | exact gl_pdh _ | exact gl_cvre _ | exact gl_pieces _ | exact gl_stretches _ | exact gl_charsets _ | assumption); (case w => first | exact Cx.wd (by assumption) | exact Ck.wd (by assumption) | assumption); (case b => k_dflt decide))
  | (refine' r_bi ?l ?k ?g ?h (gl_len _) bb_len ?n ?w ?_ ?b; (case l => k_dflt rfl); (case k => k_dflt rfl); (case g => k_dflt rfl); (case h => k_dflt rfl); (case n => k_dflt decide); (case w => first | exact Cx.wd (by assumption) | exact Ck.wd (by assumption) | assumption); (case b => k_dflt decide))
  | (refine' r_bi ?l ?k ?g ?h (gl_ord _) bb_ord ?n ?w ?_ ?b; (case l => k_dflt rfl); (case k => k_dflt rfl); (case g => k_dflt rfl); (case h => k_dflt rfl); (case n => k_dflt decide); (case w => first | exact Cx.wd (by assumption) | exact Ck.wd (by assumption) | assumption); (case b => k_dflt decide))
  | (refine' r_bi ?l ?k ?g ?h (gl_int _) bb_int ?n ?w ?_ ?b; (case l => k_dflt rfl); (case k => k_dflt rfl); (case g => k_dflt rfl); (case h => k_dflt rfl); (case n => k_dflt decide); (case w => first | exact Cx.wd (by assumption) | exact Ck.wd (by assumption) | assumption); (case b => k_dflt decide))
  | (refine' r_bi ?l ?k ?g ?h (gl_bytes _) bb_bytes ?n ?w ?_ ?b; (case l => k_dflt rfl); (case k => k_dflt rfl); (case g => k_dflt rfl); (case h => k_dflt rfl); (case n => k_dflt decide); (case w => first | exact Cx.wd (by assumption) | exact Ck.wd (by assumption) | assumption); (case b => k_dflt decide))
  | (refine' r_bi ?l ?k ?g ?h (gl_list _) bb_list ?n ?w ?_ ?b; (case l => k_dflt rfl); (case k => k_dflt rfl); (case g => k_dflt rfl); (case h => k_dflt rfl); (case n => k_dflt decide); (case w => first | exact Cx.wd (by assumption) | exact Ck.wd (by assumption) | assumption); (case b => k_dflt decide))
  | (refine' r_nameC ?l ?k ?c ?v ?_ ?b; (case l => k_dflt rfl); (case k => k_dflt rfl); (case c => k_dflt rfl); (case v => k_dflt (first | exact Ck.cell (by assumption) (by assumption) | exact Cx.cell (by assumption) (by walk_at "m") (by assumption))); (case b => k_dflt decide)))
local macro_rules | `(tactic| walk_at "s") => `(tactic| (with_reducible first
  | (refine' r_cons ?_)
  | (refine' r_nil ?_)
  | (refine' r_assign ?_ ?a; (case a => k_dflt rfl))
  | (refine' r_if ?_)
  | (refine' r_ret ?_)
  | (refine' r_continue ?_)
  | (refine' r_aug ?_)
  | (refine' r_store ?x ?_ ?a ?b; (case x => assumption); (case a => k_dflt rfl); (case b => k_dflt rfl); intro _ _ _)
  | ((show wpAny _ _ (eval (Expr.Name _ _) _) _ _ _); walk_at "n")
  | (refine' r_load ?l ?k ?n ?v ?_; (case l => k_dflt rfl); (case k => k_dflt rfl); (case n => k_dflt (first | exact Cx.ns (by assumption) | exact Ck.ns (by assumption))); (case v => k_dflt (first | rfl | assumption)))
  | (refine' r_int ?_; intro _ _)
  | (refine' r_str ?_; intro _ _)
  | (refine' r_bool ?_)
  | (refine' r_none ?_)
  | (refine' r_expr ?_ ?a ?b; (case a => k_dflt rfl); (case b => k_dflt rfl))
  | (refine' and_none ?_)
  | (refine' r_list0 ?x ?_; (case x => assumption); intro _ _ _ _ _)
  | (refine' gm_append ?x ?_; (case x => assumption))
  | (refine' m_append ?x ?e ?z ?_; (case x => assumption); (case e => first | assumption | exact List.forall_mem_nil _); (case z => omega); intro _ _ _)
  | (refine' e_not ?_)
  | (refine' v_str ?z ?_; (case z => (try simp only [List.length_append, List.length_cons, List.length_nil, lit_nil, lit_dq, lit_sq]); omega); intro _)
  | (refine' gm_strip ?_)
  | (refine' m_strip ?z ?_; (case z => omega); intro _ _)
  | (refine' r_binop ?_)
  | (refine' r_cmp ?_ ?a; (case a => k_dflt rfl))
  | (refine' r_ifexp ?_)
  | (refine' t_cmp ?_ ?a; (case a => k_dflt rfl))
  | (refine' t_not ?_)
  | (refine' t_and0 ?_)
  | (refine' t_or0 ?_)
  | (refine' t_and ?_)
  | (refine' t_or ?_)
  | (refine' t_name ?_)
  | (refine' t_call ?_)
  | (refine' v_bool ?_)
  | (refine' r_call ?_ ?a; (case a => k_dflt rfl))
  | (refine' r_mcall ?_ ?a; (case a => exact ⟨_, by k_dflt rfl⟩); intro _)
  | (refine' c_fn ?_ ?a ?b; (case a => k_dflt rfl); (case b => k_dflt rfl))
  | (refine' c_me ?_ ?a ?b; (case a => k_dflt rfl); (case b => k_dflt rfl))
  | (refine' c_bi0 ?_)
  | (refine' sp_more ?_ ?a; (case a => k_dflt rfl))
  | (refine' sp_none ?_)
  | (refine' c_def ?w ?k ?_ ?a ?b; (case w => first | exact Cx.wd (by assumption) | exact Ck.wd (by assumption) | assumption); (case k => first | exact kp_38 _ | exact kp_45 _ | exact kp_57 _ | exact kp_62 _ | exact kp_69 _ | exact kp_82 _ | exact kp_89 _ | exact kp_96 _ | exact kp_101 _ | exact kp_106 _ | exact kp_111 _ | exact kp_118 _); (case a => k_dflt rfl); (case b => k_dflt rfl))
  | (refine' c_def0 ?w ?k ?_; (case w => first | exact Cx.wd (by assumption) | exact Ck.wd (by assumption) | assumption); (case k => first | exact kp_82 _ | exact kp_89 _))
  | (refine' in_K ?w ?_; (case w => first | exact Cx.wd (by assumption) | exact Ck.wd (by assumption) | assumption))
  | (refine' r_sub ?_)
  | (refine' s_slice ?_)
  | (refine' s_some ?_)
  | (refine' s_none ?_)
  | (refine' r_neg ?_; intro _ _)
  | (refine' gm_starts ?_)
  | (refine' gm_ends ?_)
  | (refine' m_starts ?c ?_; (case c => first | exact lit_dq | exact lit_star))
  | (refine' m_ends ?c ?_; (case c => first | exact lit_dq | exact lit_star))
  | (refine' r_or2 ?_)
  | (refine' gm_group ?x ?_; (case x => assumption))
  | (refine' m_group ?x ?k ?z ?_; (case x => assumption); (case k => assumption); (case z => omega); intro _ _)
  | (refine' gm_decode ?_)
  | (refine' gm_sub ?w ?_; (case w => first | exact Cx.wd (by assumption) | assumption))
  | (refine' b_addI ?_; intro _ _)
  | (refine' b_subI ?_; intro _ _)
  | (refine' q_ltI ?_)
  | (refine' q_gtI ?_)
  | (refine' q_geI ?_)
  | (refine' q_eqS ?_)
  | (refine' q_neS ?_)
  | (refine' b_iaddS ?_ ?z; (case z => (try simp only [List.length_append, List.length_cons, List.length_nil, lit_nil, lit_dq, lit_sq]); omega); intro _ _)
  | (refine' b_iaddI ?_; intro _ _)
  | (refine' p_len ?_ ?z; (case z => omega); intro _ _)
  | (refine' b_addS ?_ ?z; (case z => (try simp only [List.length_append, List.length_cons, List.length_nil, lit_nil, lit_dq, lit_sq]); omega); intro _ _)
  | (refine' x_item ?a ?b ?_ ?z ?c ?d; (case a => omega); (case b => omega); (case z => omega); (case c => k_dflt rfl); (case d => intro _; k_dflt rfl); intro _ _)
  | (refine' x_slice_ss ?x ?_ ?z ?c ?d; (case x => assumption); (case z => omega); (case c => intro _; k_dflt rfl); (case d => intro _; k_dflt rfl); intro _ _ _ _)
  | (refine' x_slice_sn ?x ?_ ?z ?c ?d; (case x => assumption); (case z => omega); (case c => intro _; k_dflt rfl); (case d => intro _; k_dflt rfl); intro _ _ _ _)
  | (refine' x_slice_ns ?x ?_ ?z ?c ?d; (case x => assumption); (case z => omega); (case c => intro _; k_dflt rfl); (case d => intro _; k_dflt rfl); intro _ _ _ _)
  | (refine' r_storeX ?x ?_ ?a ?b; (case x => assumption); (case a => k_dflt rfl); (case b => k_dflt rfl); intro _ _ _)
  | (refine' x_slice_k ?x ?_ ?z ?c ?d; (case x => assumption); (case z => omega); (case c => intro _; k_dflt rfl); (case d => intro _; k_dflt rfl); intro _ _ _ _)
  | (refine' x_tup ?t ?i ?j ?x ?_ ?c; (case t => k_dflt (first | exact Cx.at_ (by assumption) (by walk_at "m") | exact Ck.keep (by assumption) _ _ (by assumption))); (case i => omega); (case j => omega); (case x => k_dflt (first | assumption | rfl)); (case c => k_dflt rfl))
  | (refine' x_lst ?t ?i ?j ?x ?_ ?c; (case t => k_dflt (first | exact Cx.at_ (by assumption) (by walk_at "m") | exact Ck.keep (by assumption) _ _ (by assumption))); (case i => omega); (case j => omega); (case x => k_dflt (first | assumption | rfl)); (case c => k_dflt rfl))
  | (refine' q_nenil ?a ?b ?u ?_; (case a => k_dflt (exact Cx.at_ (by assumption) (by walk_at "m"))); (case b => k_dflt (exact Cx.at_ (by assumption) (by walk_at "m"))); (case u => ((try simp only [Around.deeper_units]); omega)))
  | (refine' r_dict0 ?x ?_; (case x => assumption); intro _ _ _ _ _ _ _ _)
  | (refine' r_dictN ?x ?a ?b ?c ?e ?_; (case x => assumption); (case a => k_dflt rfl); (case b => k_dflt rfl); (case c => k_dflt (exact List.cons_ne_nil _ _)); (case e => k_dflt decide); intro _ _ _ _ _ _ _)
  | (refine' k_cons ?_)
  | (refine' k_nil ?_)
  | (refine' k_made ?x ?d ?a ?k ?n ?_; (case x => assumption); (case d => assumption); (case a => assumption); (case k => k_dflt rfl); (case n => (simp only [strPairs, List.map]; k_dflt (decide +kernel))); intro _ _ _ _ _)
  | (refine' r_dset ?_ ?a; (case a => k_dflt rfl))
  | (refine' d_set ?x ?u ?d ?z ?_; (case x => assumption); (case u => first | exact UpdF.head (by assumption)); (case d => assumption); (case z => omega); intro _ _ _ _ _)
  | (refine' b_iaddB ?_ ?z; (case z => (try simp only [List.length_append, List.length_cons, List.length_nil]); omega); intro _ _)
  | (refine' r_bytes0 ?_; intro _ _)
  | (refine' r_bytesC ?_; intro _ _)
  | (refine' r_list1 ?_ ?e; (case e => k_dflt rfl))
  | (refine' d_end ?x ?_; (case x => assumption); intro _ _ _ _)
  | (refine' r_listN ?_)
  | (refine' l_end ?x ?z ?_; (case x => assumption); (case z => simp only [List.length_cons, List.length_nil]; omega); intro _ _ _ _)
  | (refine' r_asgtup ?_ ?a ?b; (case a => k_dflt rfl); (case b => k_dflt rfl))
  | (refine' r_tuple ?_)
  | (refine' t_end ?x ?z ?_; (case x => assumption); (case z => simp only [List.length_cons, List.length_nil]; omega); intro _ _ _)
  | (refine' r_unpack3 ?h ?x ?t ?_; (case h => k_dflt assumption); (case x => assumption); (case t => k_dflt (exact (Cx.N (by assumption) _ (.head _)).1)); intro _ _)
  | (refine' c_ty ?_ ?a ?b; (case a => k_dflt rfl); (case b => k_dflt rfl))
  | (refine' in_S ?_)
  | (refine' p_ord ?_; intro _ _)
  | (refine' c_bytes1 ?h ?x ?v ?_; (case h => k_dflt assumption); (case x => assumption); (case v => omega); intro _ _ _ _)
  | refine br_true ?_
  | refine br_false ?_
  | refine br_ntrue ?_
  | refine br_nfalse ?_
  | (refine br_dec ?_ ?_ <;> intro _)
  | (refine br_ndec ?_ ?_ <;> intro _)
  | (refine br_nndec ?_ ?_ <;> intro _)
  | (refine br_nb ?_ ?_ <;> intro _)
  | (refine br_b ?_ ?_ <;> intro _)
  | refine r_and0 ?_
  | refine r_out ?_
  | refine r_outc ?_
  | refine r_back ?_))


theorem Cx.adds {w : World} {g h h' : Heap} {L : Addr} {m : Str → Option Value} {nw : List (Addr × Obj)} (l : List (Addr × Obj)) (X : Cx w g L m nw h) (k : h.StaysIn h') (hl : ∀ p ∈ l, h.get? p.1 = none ∧ h'.get? p.1 = some p.2) : Cx w g L m (l ++ nw) h' := by
  have X' := X.more k
  refine ⟨X'.W, X'.F, fun p hp => ?_⟩
  rcases List.mem_append.mp hp with hp | hp
  · obtain ⟨hn, e⟩ := hl p hp
    refine ⟨e, ?_, ?_⟩
    · intro q
      obtain ⟨o', _, _, e', _⟩ := X.F.ns
      rw [← q, hn] at e'; cases e'
    · cases q : g.get? p.1 with
      | none => rfl
      | some o' => rw [X.F.keep _ _ q] at hn; cases hn
  · exact X'.N p hp
theorem stx_cases (j : Nat) (hj : j < 4) : j = 0 ∨ j = 1 ∨ j = 2 ∨ j = 3 := by omega
theorem dcd_stx (f : Nat → List Nat) (j : Nat) (hj : j < 4) (r : List Nat) : dcd f (stx j ++ r) = f j ++ dcd f r := by
  rcases stx_cases j hj with rfl | rfl | rfl | rfl
  · show dcd f (37 :: 52 :: 49 :: r) = _; rw [dcd]
  · show dcd f (37 :: 67 :: 51 :: 37 :: 65 :: 57 :: r) = _; rw [dcd]
  · show dcd f (37 :: 70 :: 70 :: r) = _; rw [dcd]
  · show dcd f (37 :: 69 :: 50 :: 37 :: 56 :: 50 :: r) = _; rw [dcd]
theorem sound_stx (j : Nat) (hj : j < 4) (r : List Nat) (h : Sound (stx j ++ r)) : Sound r := by
  rcases stx_cases j hj with rfl | rfl | rfl | rfl
  · have h : Sound (37 :: 52 :: 49 :: r) := h
    cases h with
    | ch h _ _ => exact absurd rfl h
    | s0 h => exact h
  · have h : Sound (37 :: 67 :: 51 :: 37 :: 65 :: 57 :: r) := h
    cases h with
    | ch h _ _ => exact absurd rfl h
    | s1 h => exact h
  · have h : Sound (37 :: 70 :: 70 :: r) := h
    cases h with
    | ch h _ _ => exact absurd rfl h
    | s2 h => exact h
  · have h : Sound (37 :: 69 :: 50 :: 37 :: 56 :: 50 :: r) := h
    cases h with
    | ch h _ _ => exact absurd rfl h
    | s3 h => exact h
theorem sound_plain {c : Nat} {r : List Nat} (h : Sound (c :: r)) (hn : ∀ j, j < 4 → ¬ ((c :: r).take (stx j).length = stx j)) : c ≠ 37 ∧ Sound r := by
  cases h with
  | ch h _ hr => exact ⟨h, hr⟩
  | s0 _ => exact absurd rfl (hn 0 (by omega))
  | s1 _ => exact absurd rfl (hn 1 (by omega))
  | s2 _ => exact absurd rfl (hn 2 (by omega))
  | s3 _ => exact absurd rfl (hn 3 (by omega))
theorem cut_len (x : List Nat) (i n : Nat) (hi : i ≤ x.length) : cut x (some (i : Int)) (some ((i : Int) + (n : Int))) = (x.drop i).take n := by
  unfold cut
  rw [clipN_nat hi]
  have e : clipN x.length (some ((i : Int) + (n : Int))) x.length = min (i + n) x.length := by unfold clipN; dsimp only; split <;> omega
  rw [e]
  by_cases h : i + n ≤ x.length
  · rw [Nat.min_eq_left h, List.drop_take, Nat.add_sub_cancel_left]
  · rw [Nat.min_eq_right (by omega), List.take_of_length_le (Nat.le_refl _), List.take_of_length_le (by simp; omega)]
theorem RowAt.det {h : Heap} {b : Addr} {j j' : Nat} (x : RowAt h b j) (y : RowAt h b j') : stx j = stx j' := by
  obtain ⟨_, _, _, _, _, e⟩ := x
  obtain ⟨_, _, _, _, _, e'⟩ := y
  rw [e] at e'
  injection e' with e'
  injection e' with _ _ e' _
  injection e' with e'
  have := congrArg (fun a : Array Value => a[0]?) e'
  simp only [List.getElem?_toArray, List.getElem?_cons_zero, Option.some.injEq, Value.str.injEq, S_inj] at this
  exact this.1
theorem stx_len (j : Nat) (hj : j < 4) : 3 ≤ (stx j).length ∧ (stx j).length ≤ 6 := by
  rcases stx_cases j hj with rfl | rfl | rfl | rfl <;> decide
def colC (k : Nat) : Nat → List Nat := if k = 2 then fU else if k = 3 then fL else fA
theorem paired_eq : ∀ {vs ys : List Value}, Paired (fun v y : Value => y = v) vs ys → ys = vs := by
  intro vs ys h
  induction h with
  | nil => rfl
  | cons e _ ih => rw [e, ih]
theorem colC_le (k j : Nat) : (colC k j).length ≤ 2 := by
  unfold colC
  split
  · exact colF_le (lit "utf-8") j
  · split
    · exact colF_le (lit "iso-8859-1") j
    · exact colF_le (lit "ascii") j
def DecI (x : List Nat) (k : Nat) (cA cT : Addr) (n : Nat) (m : Str → Option Value) (nw : List (Addr × Obj)) : Prop :=
  ∃ (i : Nat) (o : List Nat) (oA oT : Obj) (t1 t2 t3 t4 : Tok), m "column" = some (.int (k : Int) t1) ∧ m "out" = some (.str (S o) t2) ∧ nw = [(cA, oA), (cT, oT)] ∧ oA.data = .cell (some (.int (i : Int) t3)) ∧ oT.data = .cell (some (.str (S x) t4)) ∧ i ≤ x.length ∧ n = x.length - i ∧ o.length ≤ i ∧
    o ++ dcd (colC k) (x.drop i) = dcd (colC k) x ∧ Sound (x.drop i)
theorem law_decoded_spec {w : World} {A : Around} {E : Value → Shared → Prop} {s : Shared} {h : Heap} {tk : Nat} {Q : Value → Shared → Prop} {x : List Nat} {k : Nat} {t u : Tok} (W : Wd w h) (hh : A.handled = none) (hdp : A.depth + 6 < recursionLimit) (hu : A.units + 40 < cLine) (hx : x.length ≤ 1000) (hs : Sound x) (hk : k = 2 ∨ k = 3 ∨ k = 4)
   (H : ∀ h' tk' t', h.StaysIn h' → Q (.str (S (dcd (colC k) x)) t') (st s h' tk')) :
   wpAny (model pg w) A (call (.ref 106) [.str (S x) t, .int (k : Int) u]) Q E (st s h tk) := by
  refine call_cell2 W (p := "text") (q := "column") (n1 := "at") (n2 := "text") (c1 := fun L => L + 1 + 1) (c2 := fun L => L + 1) (by rfl) (by rfl) (by omega) (by rfl) (by rfl) (by rfl) (fun L => by rfl) (by decide +kernel) (by decide +kernel) fun L h₁ tk₁ oA oT X hA hT hap => ?_
  rw [if_neg (by decide +kernel)] at hA
  rw [if_pos rfl] at hT
  have MARK : True := trivial
  repeat' (walk_at "s")
  rename_i X1 _ _
  refine r_storeC X1 rfl (.head (by intro p hp; rcases List.mem_singleton.mp hp with rfl; exact hap.symm)) hA fun h2 oA2 tk2 X2 hA2 => ?_
  clear MARK
  have MARK : True := trivial
  repeat' (walk_at "s")
  refine r_while (DecI x k (L + 1 + 1) (L + 1)) X2 x.length ⟨0, [], oA2, oT, _, _, _, _, rfl, by rw [lit_nil]; rfl, rfl, hA2, hT, by omega, by omega, by simp, by simp, by simpa using hs⟩ ?_
  clear X2 X1 X hA2 hA hT
  rintro n m nw h3 tk3 X ⟨i, o, oA, oT, t1, t2, t3, t4, hm1, hm2, rfl, hA, hT, hi, rfl, hol, hgo, hso⟩
  clear MARK
  have MARK : True := trivial
  repeat' (walk_at "s")
  all_goals (try simp only [tn_n] at *)
  · -- a turn
    have hil : i < x.length := by omega
    refine r_asgcomp (cl := [("text", L + 1), ("at", L + 1 + 1)]) hh (by rfl) (by rfl) (by decide) rfl (by decide) rfl (by rfl) (by rfl) (by intro _; rfl) ?_
    clear MARK
    have MARK : True := trivial
    repeat' (walk_at "s")
    refine stretches_spec X.wd (by rw [dd]; omega) fun h4 tk4 a b0 b1 b2 b3 k4 ha ha4 r0 r1 r2 r3 ⟨f0, f1, f2, f3⟩ => ?_
    have r0' := r0; have r1' := r1; have r2' := r2; have r3' := r3
    obtain ⟨v00, v01, v02, v03, v04, g0⟩ := r0'
    obtain ⟨v10, v11, v12, v13, v14, g1⟩ := r1'
    obtain ⟨v20, v21, v22, v23, v24, g2⟩ := r2'
    obtain ⟨v30, v31, v32, v33, v34, g3⟩ := r3'
    have X4 := X.adds [(b0, _), (b1, _), (b2, _), (b3, _)] k4 (by
      intro p hp
      simp only [List.mem_cons, List.not_mem_nil, or_false] at hp
      rcases hp with rfl | rfl | rfl | rfl
      · exact ⟨f0, g0⟩
      · exact ⟨f1, g1⟩
      · exact ⟨f2, g2⟩
      · exact ⟨f3, g3⟩)
    simp only [List.cons_append, List.nil_append] at X4
    let Mt : Nat → Prop := fun j => (x.drop i).take (stx j).length = stx j
    let P : Value → Prop := fun v => ∃ b j, j < 4 ∧ v = Value.ref b ∧ RowAt h4 b j ∧ Mt j
    obtain ⟨p, hp⟩ : ∃ p : Value → Bool, ∀ v, p v = true ↔ P v := ⟨fun v => @decide (P v) (Classical.propDecidable _), fun v => @decide_eq_true_iff (P v) (Classical.propDecidable _)⟩
    have hvs : ∀ v ∈ [Value.ref b0, Value.ref b1, Value.ref b2, Value.ref b3], ∃ b j, j < 4 ∧ v = Value.ref b ∧ RowAt h4 b j := by
      intro v hv
      simp only [List.mem_cons, List.not_mem_nil, or_false] at hv
      rcases hv with rfl | rfl | rfl | rfl
      · exact ⟨_, 0, by omega, rfl, r0⟩
      · exact ⟨_, 1, by omega, rfl, r1⟩
      · exact ⟨_, 2, by omega, rfl, r2⟩
      · exact ⟨_, 3, by omega, rfl, r3⟩
    have hall : ∀ j, j < 4 → ∃ b, Value.ref b ∈ [Value.ref b0, Value.ref b1, Value.ref b2, Value.ref b3] ∧ RowAt h4 b j := by
      intro j hj
      rcases stx_cases j hj with rfl | rfl | rfl | rfl
      · exact ⟨b0, by simp, r0⟩
      · exact ⟨b1, by simp, r1⟩
      · exact ⟨b2, by simp, r2⟩
      · exact ⟨b3, by simp, r3⟩
    have cT4 : h4.IsCell (L + 1) (some (.str (S x) t4)) := X4.cell (.tail _ (.tail _ (.tail _ (.tail _ (.tail _ (.head _)))))) hT
    have cA4 : h4.IsCell (L + 1 + 1) (some (.int (i : Int) t3)) := X4.cell (.tail _ (.tail _ (.tail _ (.tail _ (.head _))))) hA
    refine ⟨_, a, h4, tk4, _, _, [Value.ref b0, Value.ref b1, Value.ref b2, Value.ref b3], 0, p, fun v y => y = v, rfl, rfl, X4, ha4, by simp, ?_, ?_, ?_⟩
    · intro v hv s' C g m₃ tk5 E' Xk hkk hm
      obtain ⟨b, j, hj, rfl, hr⟩ := hvs v hv
      have hr' := hr
      obtain ⟨u0, u1, u2, u3, u4, er⟩ := hr'
      have cT : g.IsCell (L + 1) (some (.str (S x) t4)) := let ⟨o, e, d⟩ := cT4; ⟨o, hkk _ _ e, d⟩
      have cA : g.IsCell (L + 1 + 1) (some (.int (i : Int) t3)) := let ⟨o, e, d⟩ := cA4; ⟨o, hkk _ _ e, d⟩
      have er' := hkk _ _ er
      have hsl := stx_len j hj
      refine wpAny_tests_one ?_
      clear X X4 hT hA cT4 cA4 g0 g1 g2 g3 er MARK
      have MARK : True := trivial
      repeat' (walk_at "s")
      refine bk_end (by assumption) ?_
      rw [cut_len x i _ hi, Bool.eq_iff_iff, decide_eq_true_eq, hp]
      constructor
      · intro e; exact ⟨b, j, hj, rfl, hr, e⟩
      · rintro ⟨b', j', hj', e, hr', hM⟩
        injection e with e
        subst e
        rw [hr.det hr']; exact hM
    · intro v hv _ s' C g m₃ tk5 E' Xk hk hm
      clear MARK
      have MARK : True := trivial
      repeat' (walk_at "s")
      exact bk_end Xk rfl
    · intro D h' tk' ys n' X5 hP
      have hys := paired_eq hP
      have hin : ∀ v ∈ ys, ∃ b j, j < 4 ∧ v = Value.ref b ∧ RowAt h4 b j ∧ Mt j := fun v hv => by rw [hys] at hv; exact (hp v).mp (List.mem_filter.mp hv).2
      have hemp : ys = [] → ∀ j, j < 4 → ¬ Mt j := by
        intro e j hj hM
        obtain ⟨b, hb, hr⟩ := hall j hj
        have : Value.ref b ∈ ys := by rw [hys]; exact List.mem_filter.mpr ⟨hb, (hp _).mpr ⟨b, j, hj, rfl, hr, hM⟩⟩
        rw [e] at this; cases this
      have hMt : ∀ j, Mt j = ((x.drop i).take (stx j).length = stx j) := fun _ => rfl
      have hpos : 0 ≤ (i : Int) := by omega
      clear X X4 cT4 cA4
      cases ys with
      | nil =>
        have hpl := sound_plain (c := x.getD i 0) (r := x.drop (i + 1)) (by rw [← drop_cons hil]; exact hso) (fun j hj => by rw [← drop_cons hil, ← hMt]; exact hemp rfl j hj)
        clear MARK
        have MARK : True := trivial
        repeat' (walk_at "s")
        · exact absurd ‹decide ([] = []) = false› (by simp)
        · have X7 := (‹Cx w h L (upd (upd m _ _) _ _) _ _› : Cx w h L _ _ _).sub (nw' := [(L + 1 + 1, oA), (L + 1, oT)]) (fun p hp => .tail _ (.tail _ (.tail _ (.tail _ (.tail _ (.tail _ hp))))))
          refine r_storeC X7 rfl (.head (by intro p hp; rcases List.mem_singleton.mp hp with rfl; exact hap.symm)) hA fun h8 oA8 tk8 X8 hA8 => ?_
          clear MARK
          have MARK : True := trivial
          repeat' (walk_at "s")
          refine turn_ex ⟨_, _, X8, x.length - (i + 1), by omega, ?_⟩
          refine ⟨i + 1, o ++ [x.getD i 0], oA8, oT, _, _, _, _, hm1, rfl, rfl, hA8, hT, by omega, rfl, by simp; omega, ?_, hpl.2⟩
          rw [← hgo, drop_cons hil, dcd_ch _ hpl.1]; simp
      | cons v r =>
        obtain ⟨b, j, hj, rfl, hr, hM⟩ := hin v (.head _)
        obtain ⟨q0, q1, q2, q3, q4, er⟩ := hr
        have hv0 : Value.ref b ∈ [Value.ref b0, Value.ref b1, Value.ref b2, Value.ref b3] := (List.mem_filter (p := p)).mp (by rw [← hys]; exact List.mem_cons_self ..) |>.1
        have X6 := X5.sub (nw' := [(D, PySem.W.listOf (Value.ref b :: r).toArray n'), (b, { cls := .type "tuple", data := .seq #[.str (S (stx j)) q0, .bytes (B8 (sby j)) q1, .str (S (fU j)) q2, .str (S (fL j)) q3, .str (S (fA j)) q4] }), (L + 1 + 1, oA), (L + 1, oT)]) (by
          intro p hp
          rcases List.mem_cons.mp hp with rfl | hp
          · exact .head _
          · rcases List.mem_cons.mp hp with rfl | hp
            · simp only [List.mem_cons, List.not_mem_nil, or_false, Value.ref.injEq] at hv0
              rcases hv0 with rfl | rfl | rfl | rfl
              · rw [g0] at er; rw [← Option.some.inj er]; exact .tail _ (.head _)
              · rw [g1] at er; rw [← Option.some.inj er]; exact .tail _ (.tail _ (.head _))
              · rw [g2] at er; rw [← Option.some.inj er]; exact .tail _ (.tail _ (.tail _ (.head _)))
              · rw [g3] at er; rw [← Option.some.inj er]; exact .tail _ (.tail _ (.tail _ (.tail _ (.head _))))
            · exact .tail _ (.tail _ (.tail _ (.tail _ (.tail _ hp)))))
        have hsl := stx_len j hj
        obtain ⟨tc, hc⟩ : ∃ tc, [Value.str (S (stx j)) q0, .bytes (B8 (sby j)) q1, .str (S (fU j)) q2, .str (S (fL j)) q3, .str (S (fA j)) q4][k]? = some (Value.str (S (colC k j)) tc) := by
          rcases hk with rfl | rfl | rfl
          · exact ⟨_, rfl⟩
          · exact ⟨_, rfl⟩
          · exact ⟨_, rfl⟩
        have hcl : (colC k j).length ≤ 2 := colC_le k j
        have hk4 : k ≤ 4 := by omega
        clear X5 g0 g1 g2 g3 MARK
        have MARK : True := trivial
        repeat' (walk_at "s")
        · have X7 := (‹Cx w h L (upd (upd m _ _) _ _) _ _› : Cx w h L _ _ _).sub (nw' := [(L + 1 + 1, oA), (L + 1, oT)]) (fun p hp => .tail _ (.tail _ (.tail _ hp)))
          refine r_storeC X7 rfl (.head (by intro p hp; rcases List.mem_singleton.mp hp with rfl; exact hap.symm)) hA fun h8 oA8 tk8 X8 hA8 => ?_
          clear MARK
          have MARK : True := trivial
          repeat' (walk_at "s")
          have hM' : (x.drop i).take (stx j).length = stx j := hM
          have hlen : i + (stx j).length ≤ x.length := by
            have := congrArg List.length hM'
            simp at this; omega
          have hsplit : x.drop i = stx j ++ x.drop (i + (stx j).length) := by
            conv => lhs; rw [← List.take_append_drop (stx j).length (x.drop i)]
            rw [hM', List.drop_drop]
          refine turn_ex ⟨_, _, X8, x.length - (i + (stx j).length), by omega, ?_⟩
          refine ⟨i + (stx j).length, o ++ colC k j, oA8, oT, _, _, _, _, hm1, rfl, rfl, hA8, hT, hlen, rfl, by simp; omega, ?_, sound_stx j hj _ (hsplit ▸ hso)⟩
          rw [← hgo, hsplit, dcd_stx _ j hj]; simp
        · exact absurd ‹Value.ref b :: r = []› (List.cons_ne_nil _ _)
  · -- the end
    exact out_str (by rw [← hgo, List.drop_eq_nil_of_le (by omega)]; simp [dcd]) (H _ _ _ X.F.keep)
end Mine
end
section
open PySem PySem.W PySem.Calls PyProof.Rows PyProof PyProof.V
set_option Elab.async false
set_option maxRecDepth 100000
set_option maxHeartbeats 2000000
set_option autoImplicit false
namespace Mine
/-- the charsets -/
def encs : List (List Nat) := [lit "utf-8", lit "iso-8859-1", lit "us-ascii", lit "ascii"]
/-- a text by its charset -/
def decL (enc rest : List Nat) : List Nat := if enc ∈ encs then dcd (colF enc) rest else rest
def csOk (v : List Nat) (p q : Nat) : Bool := decide (q + 1 < v.length) && ((v.take p).all (tokAt 14) && ((v.take q).drop (p + 1)).all (tokAt 14)) && (v.drop (q + 1)).all (tokAt 60)
/-- a value that is a charset, a language and a rest; else the value -/
def csL (v : List Nat) : List Nat := if csOk v (ix 39 v) (ix 39 v + 1 + ix 39 (v.drop (ix 39 v + 1))) then decL (lowL (v.take (ix 39 v))) (v.drop (ix 39 v + 1 + ix 39 (v.drop (ix 39 v + 1)) + 1)) else v
theorem arr_getD (v : List Nat) (j : Nat) : v.toArray.getD j 0 = v.getD j 0 := by simp
theorem tok_ne {c : Nat} (h : tokAt 14 c = true) : c ≠ 39 := by rintro rfl; rw [tok_sq] at h; cases h
theorem Cond.ix {v : List Nat} {p q : Nat} (C : Cond v.toArray v.length p q) : p = ix 39 v ∧ q = Mine.ix 39 v + 1 + Mine.ix 39 (v.drop (Mine.ix 39 v + 1)) := by
  have hab := C.ab
  have hbl := C.bl
  have e1 : Mine.ix 39 v = p := ix_eq (by omega) (by rw [← arr_getD]; exact C.xa) fun j hj => by rw [← arr_getD]; exact tok_ne (C.t1 j hj)
  refine ⟨e1.symm, ?_⟩
  rw [e1]
  have e2 : Mine.ix 39 (v.drop (p + 1)) = q - (p + 1) := ix_eq (by simp; omega) (by rw [getD_drop, show p + 1 + (q - (p + 1)) = q by omega, ← arr_getD]; exact C.xb) fun j hj => by
    rw [getD_drop, ← arr_getD]; exact tok_ne (C.t2 _ (by omega) (by omega))
  omega
theorem all_seg {v : List Nat} {P : Nat → Bool} {a b : Nat} (hb : b ≤ v.length) : ((v.take b).drop a).all P = true ↔ ∀ j, a ≤ j → j < b → P (v.getD j 0) = true := by
  rw [List.all_eq_true]
  constructor
  · intro h j h1 h2
    refine h _ (List.mem_iff_getElem.mpr ⟨j - a, by simp; omega, ?_⟩)
    simp [show a + (j - a) = j by omega, show j < v.length by omega]
  · intro h c hc
    obtain ⟨k, hk, rfl⟩ := List.mem_iff_getElem.mp hc
    simp at hk
    have := h (a + k) (by omega) (by omega)
    simpa [show a + k < v.length by omega] using this
theorem csOk_iff {v : List Nat} {p q : Nat} (hpq : p < q) : csOk v p q = true ↔ q + 1 < v.length ∧ (∀ j, j < p → tokAt 14 (v.getD j 0) = true) ∧ (∀ j, p < j → j < q → tokAt 14 (v.getD j 0) = true) ∧ ∀ j, q < j → j < v.length → tokAt 60 (v.getD j 0) = true := by
  unfold csOk
  by_cases h : q + 1 < v.length
  · have a1 := all_seg (v := v) (P := tokAt 14) (a := 0) (b := p) (by omega)
    have a2 := all_seg (v := v) (P := tokAt 14) (a := p + 1) (b := q) (by omega)
    have a3 := all_seg (v := v) (P := tokAt 60) (a := q + 1) (b := v.length) (Nat.le_refl _)
    rw [List.drop_zero] at a1
    rw [List.take_of_length_le (Nat.le_refl _)] at a3
    simp only [Bool.and_eq_true, decide_eq_true_eq, h, true_and]
    rw [a1, a2, a3]
    constructor
    · rintro ⟨⟨b1, b2⟩, b3⟩
      exact ⟨fun j hj => b1 j (Nat.zero_le _) hj, fun j h1 h2 => b2 j h1 h2, fun j h1 h2 => b3 j h1 h2⟩
    · rintro ⟨b1, b2, b3⟩
      exact ⟨⟨fun j _ hj => b1 j hj, fun j h1 h2 => b2 j h1 h2⟩, fun j h1 h2 => b3 j h1 h2⟩
  · simp [h]
theorem csL_hit {v : List Nat} {p q : Nat} (C : Cond v.toArray v.length p q) : csL v = decL (lowL (v.take p)) (v.drop (q + 1)) := by
  obtain ⟨e1, e2⟩ := C.ix
  unfold csL
  rw [← e1] at e2 ⊢
  rw [← e2, if_pos]
  refine (csOk_iff C.ab).mpr ⟨C.bl, fun j hj => ?_, fun j h1 h2 => ?_, fun j h1 h2 => ?_⟩
  · rw [← arr_getD]; exact C.t1 j hj
  · rw [← arr_getD]; exact C.t2 j h1 h2
  · rw [← arr_getD]; exact C.t3 j h1 h2
theorem csOk_cond {v : List Nat} (h : csOk v (ix 39 v) (ix 39 v + 1 + ix 39 (v.drop (ix 39 v + 1))) = true) : Cond v.toArray v.length (ix 39 v) (ix 39 v + 1 + ix 39 (v.drop (ix 39 v + 1))) := by
  obtain ⟨h1, h2, h3, h4⟩ := (csOk_iff (by omega)).mp h
  have hx := ix_at 39 v (by omega)
  have hy := ix_at 39 (v.drop (ix 39 v + 1)) (by simp; omega)
  rw [getD_drop] at hy
  exact ⟨by omega, h1, by rw [arr_getD]; exact hx, by rw [arr_getD]; exact hy, fun j hj => by rw [arr_getD]; exact h2 j hj, fun j a b => by rw [arr_getD]; exact h3 j a b, fun j a b => by rw [arr_getD]; exact h4 j a b⟩
theorem csL_miss {v : List Nat} (C : ∀ p q, ¬ Cond v.toArray v.length p q) : csL v = v := by
  unfold csL
  rw [if_neg]
  intro h
  exact C _ _ (csOk_cond h)
def marksL : List Nat := lit "!#$%&*+-.^_`|~0123456789ABCDEFGHIJKLMNOPQRSTUVWXYZabcdefghijklmnopqrstuvwxyz"
theorem tok_marks {c : Nat} (h : c < 128) : tokAt 14 c = decide (c ∈ marksL) := by
  have : ∀ c, c < 128 → tokAt 14 c = decide (c ∈ marksL) := by decide +kernel
  exact this c h
theorem tok_marks2 {c : Nat} (h : c < 128) : tokAt 60 c = decide (c ∈ marksL ++ lit "'") := by
  have : ∀ c, c < 128 → tokAt 60 c = decide (c ∈ marksL ++ lit "'") := by decide +kernel
  exact this c h
theorem Sound.ascii {x : List Nat} (h : Sound x) : ∀ c ∈ x, c < 128 := by
  induction h with
  | nil => intro c hc; cases hc
  | ch _ h2 _ ih => intro c hc; simp only [List.mem_cons] at hc; rcases hc with rfl | hc <;> first | omega | exact ih c hc
  | s0 _ ih => intro c hc; simp only [List.mem_cons] at hc; rcases hc with rfl | rfl | rfl | hc <;> first | omega | exact ih c hc
  | s1 _ ih => intro c hc; simp only [List.mem_cons] at hc; rcases hc with rfl | rfl | rfl | rfl | rfl | rfl | hc <;> first | omega | exact ih c hc
  | s2 _ ih => intro c hc; simp only [List.mem_cons] at hc; rcases hc with rfl | rfl | rfl | hc <;> first | omega | exact ih c hc
  | s3 _ ih => intro c hc; simp only [List.mem_cons] at hc; rcases hc with rfl | rfl | rfl | rfl | rfl | rfl | hc <;> first | omega | exact ih c hc
theorem colF_C {l : List Nat} (h : l ∈ encs) : ∃ k, (k = 2 ∨ k = 3 ∨ k = 4) ∧ colC k = colF l ∧ ∀ t1 t2 t3 t4, ∃ t, valueAt (chsL t1 t2 t3 t4) (S l) = some (.int (k : Int) t) := by
  unfold encs at h
  simp only [List.mem_cons, List.not_mem_nil, or_false] at h
  have n12 : lit "iso-8859-1" ≠ lit "utf-8" := by decide +kernel
  have n31 : lit "us-ascii" ≠ lit "utf-8" := by decide +kernel
  have n32 : lit "us-ascii" ≠ lit "iso-8859-1" := by decide +kernel
  have n41 : lit "ascii" ≠ lit "utf-8" := by decide +kernel
  have n42 : lit "ascii" ≠ lit "iso-8859-1" := by decide +kernel
  have n43 : lit "ascii" ≠ lit "us-ascii" := by decide +kernel
  rcases h with rfl | rfl | rfl | rfl
  · exact ⟨2, .inl rfl, by unfold colF; rw [if_pos rfl]; rfl, fun t1 t2 t3 t4 => ⟨t1, by simp [valueAt, chsL]⟩⟩
  · exact ⟨3, .inr (.inl rfl), by unfold colF; rw [if_neg n12, if_pos rfl]; rfl, fun t1 t2 t3 t4 => ⟨t2, by simp [valueAt, chsL, S_inj, n12.symm]⟩⟩
  · exact ⟨4, .inr (.inr rfl), by unfold colF; rw [if_neg n31, if_neg n32]; rfl, fun t1 t2 t3 t4 => ⟨t3, by simp [valueAt, chsL, S_inj, n31.symm, n32.symm]⟩⟩
  · exact ⟨4, .inr (.inr rfl), by unfold colF; rw [if_neg n41, if_neg n42]; rfl, fun t1 t2 t3 t4 => ⟨t4, by simp [valueAt, chsL, S_inj, n41.symm, n42.symm, n43.symm]⟩⟩
theorem chs_in (l : List Nat) (t1 t2 t3 t4 : Tok) : (valueAt (chsL t1 t2 t3 t4) (S l)).isSome = decide (l ∈ encs) := by
  by_cases h : l ∈ encs
  · obtain ⟨k, _, _, hv⟩ := colF_C h
    obtain ⟨t, e⟩ := hv t1 t2 t3 t4
    rw [e]; simp [h]
  · have h' := h
    unfold encs at h'
    simp only [List.mem_cons, List.not_mem_nil, or_false, not_or] at h'
    obtain ⟨a, b, c, d⟩ := h'
    simp [valueAt, chsL, S_inj, Ne.symm a, Ne.symm b, Ne.symm c, Ne.symm d, h]
end Mine
end
section
open PySem PySem.W PySem.Calls PyProof.Rows PyProof PyProof.V
set_option Elab.async false
set_option maxRecDepth 100000
set_option maxHeartbeats 2000000
set_option autoImplicit false
namespace Mine
/-- signs that stand in no stretch -/
def sep (c : Nat) : Prop := c ∉ [37, 52, 49, 67, 51, 65, 57, 70, 69, 50, 56]
theorem Sound.split {l : List Nat} (h : Sound l) : ∀ {a b : List Nat} {c : Nat}, l = a ++ c :: b → sep c → Sound a ∧ Sound b := by
  induction h with
  | nil => intro a b c e; simp at e
  | @ch d r h1 h2 hr ih =>
    intro a b c e hc
    cases a with
    | nil => injection e with e1 e2; subst e2; exact ⟨.nil, hr⟩
    | cons d' a' =>
      injection e with e1 e2
      subst e1
      obtain ⟨x, y⟩ := ih e2 hc
      exact ⟨.ch h1 h2 x, y⟩
  | s0 hr ih =>
    intro a b c e hc
    rcases a with _ | ⟨a1, _ | ⟨a2, _ | ⟨a3, a⟩⟩⟩ <;> simp only [List.nil_append, List.cons_append, List.cons.injEq] at e
    · obtain ⟨rfl, _⟩ := e; exact absurd hc (by simp [sep])
    · obtain ⟨_, rfl, _⟩ := e; exact absurd hc (by simp [sep])
    · obtain ⟨_, _, rfl, _⟩ := e; exact absurd hc (by simp [sep])
    · obtain ⟨rfl, rfl, rfl, e⟩ := e
      obtain ⟨x, y⟩ := ih e hc
      exact ⟨.s0 x, y⟩
  | s2 hr ih =>
    intro a b c e hc
    rcases a with _ | ⟨a1, _ | ⟨a2, _ | ⟨a3, a⟩⟩⟩ <;> simp only [List.nil_append, List.cons_append, List.cons.injEq] at e
    · obtain ⟨rfl, _⟩ := e; exact absurd hc (by simp [sep])
    · obtain ⟨_, rfl, _⟩ := e; exact absurd hc (by simp [sep])
    · obtain ⟨_, _, rfl, _⟩ := e; exact absurd hc (by simp [sep])
    · obtain ⟨rfl, rfl, rfl, e⟩ := e
      obtain ⟨x, y⟩ := ih e hc
      exact ⟨.s2 x, y⟩
  | s1 hr ih =>
    intro a b c e hc
    rcases a with _ | ⟨a1, _ | ⟨a2, _ | ⟨a3, _ | ⟨a4, _ | ⟨a5, _ | ⟨a6, a⟩⟩⟩⟩⟩⟩ <;> simp only [List.nil_append, List.cons_append, List.cons.injEq] at e
    · obtain ⟨rfl, _⟩ := e; exact absurd hc (by simp [sep])
    · obtain ⟨_, rfl, _⟩ := e; exact absurd hc (by simp [sep])
    · obtain ⟨_, _, rfl, _⟩ := e; exact absurd hc (by simp [sep])
    · obtain ⟨_, _, _, rfl, _⟩ := e; exact absurd hc (by simp [sep])
    · obtain ⟨_, _, _, _, rfl, _⟩ := e; exact absurd hc (by simp [sep])
    · obtain ⟨_, _, _, _, _, rfl, _⟩ := e; exact absurd hc (by simp [sep])
    · obtain ⟨rfl, rfl, rfl, rfl, rfl, rfl, e⟩ := e
      obtain ⟨x, y⟩ := ih e hc
      exact ⟨.s1 x, y⟩
  | s3 hr ih =>
    intro a b c e hc
    rcases a with _ | ⟨a1, _ | ⟨a2, _ | ⟨a3, _ | ⟨a4, _ | ⟨a5, _ | ⟨a6, a⟩⟩⟩⟩⟩⟩ <;> simp only [List.nil_append, List.cons_append, List.cons.injEq] at e
    · obtain ⟨rfl, _⟩ := e; exact absurd hc (by simp [sep])
    · obtain ⟨_, rfl, _⟩ := e; exact absurd hc (by simp [sep])
    · obtain ⟨_, _, rfl, _⟩ := e; exact absurd hc (by simp [sep])
    · obtain ⟨_, _, _, rfl, _⟩ := e; exact absurd hc (by simp [sep])
    · obtain ⟨_, _, _, _, rfl, _⟩ := e; exact absurd hc (by simp [sep])
    · obtain ⟨_, _, _, _, _, rfl, _⟩ := e; exact absurd hc (by simp [sep])
    · obtain ⟨rfl, rfl, rfl, rfl, rfl, rfl, e⟩ := e
      obtain ⟨x, y⟩ := ih e hc
      exact ⟨.s3 x, y⟩
theorem Sound.append {a b : List Nat} (h : Sound a) (k : Sound b) : Sound (a ++ b) := by
  induction h with
  | nil => exact k
  | ch h1 h2 _ ih => exact .ch h1 h2 ih
  | s0 _ ih => exact .s0 ih
  | s1 _ ih => exact .s1 ih
  | s2 _ ih => exact .s2 ih
  | s3 _ ih => exact .s3 ih
theorem Sound.at {l : List Nat} (h : Sound l) {j : Nat} (hj : j < l.length) (hc : sep (l.getD j 0)) : Sound (l.take j) ∧ Sound (l.drop (j + 1)) := by
  refine h.split (c := l.getD j 0) ?_ hc
  rw [← drop_cons hj, List.take_append_drop]
theorem Sound.behind {p r : List Nat} (h : Sound (p ++ r)) (hp : ∀ c ∈ p, sep c) : Sound r := by
  induction p with
  | nil => exact h
  | cons c p ih => exact ih (h.split (a := []) (c := c) rfl (hp c (.head _))).2 fun d hd => hp d (.tail _ hd)
theorem Sound.ahead {r q : List Nat} (h : Sound (r ++ q)) (hq : ∀ c ∈ q, sep c) : Sound r := by
  cases q with
  | nil => simpa using h
  | cons c q => exact (h.split (a := r) (c := c) rfl (hq c (.head _))).1
theorem sep_blank {c : Nat} (h : c = 32 ∨ c = 9) : sep c := by rcases h with rfl | rfl <;> simp [sep]
theorem Sound.stp {l : List Nat} (h : Sound l) : Sound (stp l) := by
  obtain ⟨p, q, e, hp, hq⟩ := stp_split l
  rw [e] at h
  exact (h.ahead fun c hc => sep_blank (hq c hc)).behind fun c hc => sep_blank (hp c hc)
theorem stx_no (j : Nat) (hj : j < 4) : ∀ c ∈ stx j, c ≠ 92 := by
  rcases stx_cases j hj with rfl | rfl | rfl | rfl <;> decide
theorem Sound.cases {l : List Nat} (h : Sound l) : l = [] ∨ (∃ c r, l = c :: r ∧ c ≠ 37 ∧ c < 128 ∧ Sound r) ∨ ∃ j r, j < 4 ∧ l = Mine.stx j ++ r ∧ Sound r := by
  cases h with
  | nil => exact .inl rfl
  | ch h1 h2 h3 => exact .inr (.inl ⟨_, _, rfl, h1, h2, h3⟩)
  | s0 h => exact .inr (.inr ⟨0, _, by omega, rfl, h⟩)
  | s1 h => exact .inr (.inr ⟨1, _, by omega, rfl, h⟩)
  | s2 h => exact .inr (.inr ⟨2, _, by omega, rfl, h⟩)
  | s3 h => exact .inr (.inr ⟨3, _, by omega, rfl, h⟩)
theorem Sound.pre {j : Nat} (hj : j < 4) {r : List Nat} (h : Sound r) : Sound (Mine.stx j ++ r) := by
  rcases stx_cases j hj with rfl | rfl | rfl | rfl
  · exact .s0 h
  · exact .s1 h
  · exact .s2 h
  · exact .s3 h
theorem Sound.readGo : ∀ (n : Nat) (l : List Nat), l.length ≤ n → Sound l → Sound (Mine.readGo l) := by
  intro n
  induction n with
  | zero => intro l hl h; rw [List.eq_nil_of_length_eq_zero (Nat.le_zero.mp hl)]; exact .nil
  | succ n ih =>
    intro l hl h
    rcases h.cases with rfl | ⟨c, r, rfl, h1, h2, h3⟩ | ⟨j, r, hj, rfl, h3⟩
    · exact .nil
    · by_cases hc : c = 92
      · subst hc
        rw [readGo.eq_def]; dsimp only; rw [if_pos rfl]
        rcases h3.cases with rfl | ⟨d, r', rfl, k1, k2, k3⟩ | ⟨j, r', hj, rfl, k3⟩
        · exact .ch h1 h2 .nil
        · simp at hl
          exact .ch k1 k2 (ih _ (by omega) k3)
        · have hsl := stx_len j hj
          have hn := stx_no j hj
          rw [List.length_cons, List.length_append] at hl
          have hr := ih r' (by omega) k3
          have := Sound.pre hj hr
          rcases stx_cases j hj with rfl | rfl | rfl | rfl
          all_goals (show Sound (37 :: Mine.readGo (_ ++ r')))
          · rw [show ([52, 49] : List Nat) ++ r' = [52, 49] ++ r' from rfl]
            show Sound (37 :: Mine.readGo ([52, 49] ++ r'))
            rw [readGo_plain _ _ (by decide)]; exact this
          · show Sound (37 :: Mine.readGo ([67, 51, 37, 65, 57] ++ r'))
            rw [readGo_plain _ _ (by decide)]; exact this
          · show Sound (37 :: Mine.readGo ([70, 70] ++ r'))
            rw [readGo_plain _ _ (by decide)]; exact this
          · show Sound (37 :: Mine.readGo ([69, 50, 37, 56, 50] ++ r'))
            rw [readGo_plain _ _ (by decide)]; exact this
      · rw [readGo.eq_def]; dsimp only; rw [if_neg hc]
        simp at hl
        exact .ch h1 h2 (ih _ (by omega) h3)
    · have hsl := stx_len j hj
      rw [List.length_append] at hl
      rw [readGo_plain _ _ (stx_no j hj)]
      exact Sound.pre hj (ih r (by omega) h3)
theorem Sound.readL {l : List Nat} (h : Sound l) : Sound (readL l) := by
  unfold Mine.readL
  split
  · rename_i hq
    unfold quoted at hq
    simp only [Bool.and_eq_true, decide_eq_true_eq, beq_iff_eq] at hq
    obtain ⟨⟨h1, h2⟩, h3⟩ := hq
    refine Sound.readGo _ _ (Nat.le_refl _) ?_
    have k1 := (h.at (j := l.length - 1) (by omega) (by rw [h3]; simp [sep])).1
    have e0 : (l.take (l.length - 1)).getD 0 0 = 34 := by
      rw [← h2]; simp [show 0 < l.length - 1 by omega, show 0 < l.length by omega]
    exact (k1.at (j := 0) (by simp; omega) (by rw [e0]; simp [sep])).2
  · exact h
theorem go_sound : ∀ (b : Bool) (cur r : List Nat) (ps : List (List Nat)), go b cur r = some ps → Sound (cur ++ r) → ∀ l ∈ ps, Sound l := by
  intro b cur r
  induction b, cur, r using go.induct with
  | case1 cur => intro ps h; simp [go] at h
  | case2 cur => intro ps h hs; rw [go_f_nil] at h; cases h; intro l hl; rw [List.mem_singleton.mp hl]; simpa using hs
  | case3 cur c r ih => intro ps h hs; rw [go_t_bs] at h; exact ih ps h (by simpa using hs)
  | case4 cur r ih => intro ps h hs; rw [go_t_q] at h; exact ih ps h (by simpa using hs)
  | case5 cur c r h1 h2 ih =>
    intro ps h hs
    by_cases hc : c = 92
    · cases r with
      | nil => rw [hc, go_t_bs1] at h; cases h
      | cons d r => exact absurd rfl (h1 d r hc)
    · rw [go_t_o _ _ _ hc h2] at h; exact ih ps h (by simpa using hs)
  | case6 cur r ih =>
    intro ps h hs
    rw [go_f_c] at h
    obtain ⟨k1, k2⟩ := hs.split (a := cur) (c := 44) rfl (by simp [sep])
    cases e : go false [] r with
    | none => rw [e] at h; cases h
    | some qs =>
      rw [e] at h; cases h
      intro l hl
      rcases List.mem_cons.mp hl with rfl | hl
      · exact k1
      · exact ih qs e (by simpa using k2) l hl
  | case7 cur r ih => intro ps h hs; rw [go_f_q] at h; exact ih ps h (by simpa using hs)
  | case8 cur c r h1 h2 ih => intro ps h hs; rw [go_f_o _ _ _ h1 h2] at h; exact ih ps h (by simpa using hs)
theorem go_len : ∀ (b : Bool) (cur r : List Nat) (ps : List (List Nat)), go b cur r = some ps → ps.length ≤ r.length + 1 ∧ ∀ l ∈ ps, l.length ≤ cur.length + r.length := by
  intro b cur r
  induction b, cur, r using go.induct with
  | case1 cur => intro ps h; simp [go] at h
  | case2 cur => intro ps h; rw [go_f_nil] at h; cases h; simp
  | case3 cur c r ih => intro ps h; rw [go_t_bs] at h; obtain ⟨a, b⟩ := ih ps h; refine ⟨by simp; omega, fun l hl => ?_⟩; have := b l hl; simp at this ⊢; omega
  | case4 cur r ih => intro ps h; rw [go_t_q] at h; obtain ⟨a, b⟩ := ih ps h; refine ⟨by simp; omega, fun l hl => ?_⟩; have := b l hl; simp at this ⊢; omega
  | case5 cur c r h1 h2 ih =>
    intro ps h
    by_cases hc : c = 92
    · cases r with
      | nil => rw [hc, go_t_bs1] at h; cases h
      | cons d r => exact absurd rfl (h1 d r hc)
    · rw [go_t_o _ _ _ hc h2] at h; obtain ⟨a, b⟩ := ih ps h; refine ⟨by simp; omega, fun l hl => ?_⟩; have := b l hl; simp at this ⊢; omega
  | case6 cur r ih =>
    intro ps h
    rw [go_f_c] at h
    cases e : go false [] r with
    | none => rw [e] at h; cases h
    | some qs =>
      rw [e] at h; cases h
      obtain ⟨a, b⟩ := ih qs e
      refine ⟨by simp; omega, fun l hl => ?_⟩
      rcases List.mem_cons.mp hl with rfl | hl
      · simp
      · have := b l hl; simp at this ⊢; omega
  | case7 cur r ih => intro ps h; rw [go_f_q] at h; obtain ⟨a, b⟩ := ih ps h; refine ⟨by simp; omega, fun l hl => ?_⟩; have := b l hl; simp at this ⊢; omega
  | case8 cur c r h1 h2 ih => intro ps h; rw [go_f_o _ _ _ h1 h2] at h; obtain ⟨a, b⟩ := ih ps h; refine ⟨by simp; omega, fun l hl => ?_⟩; have := b l hl; simp at this ⊢; omega
theorem readL_le (l : List Nat) : (readL l).length ≤ l.length := by
  unfold readL
  split
  · have := readGo_le _ ((l.take (l.length - 1)).drop 1) (Nat.le_refl _)
    simp at this ⊢; omega
  · exact Nat.le_refl _
theorem items_sound {x : List Nat} (hs : Sound x) : ∀ l ∈ itemsL x, Sound l := by
  intro l hl
  unfold itemsL at hl
  split at hl
  · cases hl
  · rename_i cs e
    obtain ⟨c, hc, rfl⟩ := List.mem_map.mp hl
    exact ((go_sound _ _ _ _ e (by simpa using hs) c (List.mem_filter.mp hc).1).stp).readL
theorem items_len (x : List Nat) : (itemsL x).length ≤ x.length + 1 ∧ ∀ l ∈ itemsL x, l.length ≤ x.length := by
  unfold itemsL
  split
  · exact ⟨by simp, fun l hl => by cases hl⟩
  · rename_i cs e
    obtain ⟨a, b⟩ := go_len _ _ _ _ e
    refine ⟨by rw [List.length_map]; exact Nat.le_trans (List.length_filter_le _ _) a, fun l hl => ?_⟩
    obtain ⟨c, hc, rfl⟩ := List.mem_map.mp hl
    have := b c (List.mem_filter.mp hc).1
    have h1 := readL_le (stp c)
    have h2 := stp_le c
    simp at this; omega
theorem Sound.rest {v : List Nat} (h : Sound v) {p q : Nat} (C : Cond v.toArray v.length p q) : Sound (v.drop (q + 1)) :=
  (h.at (j := q) (by have := C.bl; omega) (by rw [← arr_getD, C.xb]; simp [sep])).2
theorem csL_le {v : List Nat} (h : Sound v) : (csL v).length ≤ v.length := by
  by_cases hc : ∃ p q, Cond v.toArray v.length p q
  · obtain ⟨p, q, C⟩ := hc
    rw [csL_hit C]
    unfold decL
    split
    · have := dcd_len (f := colF (lowL (v.take p))) (colF_le _) (h.rest C)
      simp at this ⊢; omega
    · simp
  · rw [csL_miss fun p q C => hc ⟨p, q, C⟩]; exact Nat.le_refl _
/-- a dict's entries -/
def stL (kl : List (List Nat × Option (List Nat))) (k : List Nat) (v : Option (List Nat)) : List (List Nat × Option (List Nat)) :=
  if kl.any (fun e => e.1 = k) then kl.map (fun e => if e.1 = k then (e.1, v) else e) else kl ++ [(k, v)]
def pairL (it : List Nat) : Option (List Nat × Option (List Nat)) :=
  if ix 61 it < it.length then
    if stp (it.take (ix 61 it)) = [] then none
    else if (stp (it.take (ix 61 it))).getD ((stp (it.take (ix 61 it))).length - 1) 0 = 42 then
      some ((stp (it.take (ix 61 it))).take ((stp (it.take (ix 61 it))).length - 1), some (readL (csL (stp (it.drop (ix 61 it + 1))))))
    else some (stp (it.take (ix 61 it)), some (readL (stp (it.drop (ix 61 it + 1)))))
  else if stp it = [] then none else some (stp it, none)
def putL (kl : List (List Nat × Option (List Nat))) (it : List Nat) : List (List Nat × Option (List Nat)) := match pairL it with
  | none => kl
  | some (k, v) => stL kl k v
def dictL (x : List Nat) : List (List Nat × Option (List Nat)) := (itemsL x).foldl putL []
def VR (v : Value) : Option (List Nat) → Prop
  | none => v = .none
  | some l => ∃ t, v = .str (S l) t
abbrev DK (kvs : List (Str × Value)) (kl : List (List Nat × Option (List Nat))) : Prop := Paired (fun p q => p.1 = S q.1 ∧ VR p.2 q.2) kvs kl
theorem DK.any {kvs kl} (h : DK kvs kl) (k : List Nat) : kvs.any (fun kv => kv.1 = S k) = kl.any (fun e => e.1 = k) := by
  induction h with
  | nil => rfl
  | cons e _ ih => rw [List.any_cons, List.any_cons, ih, e.1]; simp [S_inj]
theorem DK.store {kvs kl} (h : DK kvs kl) {v : Value} {ov : Option (List Nat)} (hv : VR v ov) (k : List Nat) : DK (stored kvs (S k) v) (stL kl k ov) := by
  unfold stored stL
  rw [h.any k]
  split
  · rename_i hany
    clear hany
    induction h with
    | nil => exact .nil
    | @cons p q _ _ e _ ih =>
      rw [List.map_cons, List.map_cons]
      refine .cons ?_ ih
      by_cases hk : q.1 = k
      · rw [if_pos (by rw [e.1, hk]), if_pos hk]; exact ⟨e.1, hv⟩
      · rw [if_neg (by rw [e.1, S_inj]; exact hk), if_neg hk]; exact e
  · exact Paired.snoc h ⟨rfl, hv⟩
theorem DK.length {kvs kl} (h : DK kvs kl) : kvs.length = kl.length := by
  induction h with
  | nil => rfl
  | cons _ _ ih => simp [ih]
theorem stL_len (kl k v) : (stL kl k v).length ≤ kl.length + 1 := by
  unfold stL; split <;> simp
theorem putL_len (kl it) : (putL kl it).length ≤ kl.length + 1 := by
  unfold putL; split
  · omega
  · exact stL_len _ _ _
theorem fold_len : ∀ (ls : List (List Nat)) (kl : List (List Nat × Option (List Nat))), (ls.foldl putL kl).length ≤ kl.length + ls.length
  | [], kl => Nat.le_refl _
  | l :: r, kl => by
    have := fold_len r (putL kl l)
    have := putL_len kl l
    simp only [List.foldl_cons, List.length_cons]; omega
theorem fold_snoc {ls : List (List Nat)} {i : Nat} {l : List Nat} (h : ls[i]? = some l) : (ls.take (i + 1)).foldl putL [] = putL ((ls.take i).foldl putL []) l := by
  obtain ⟨hi, e⟩ := List.getElem?_eq_some_iff.mp h
  rw [List.take_add_one, h, List.foldl_append]; rfl
end Mine
end
section
open PySem PySem.W PySem.Calls PyProof.Rows PyProof PyProof.V
set_option Elab.async false
set_option maxRecDepth 100000
set_option maxHeartbeats 2000000
set_option autoImplicit false
namespace Mine
-- rules whose answer is told by an equation at hand
section
variable {w : World} {A : Around} {E : Value → Shared → Prop} {s : Shared} {h g : Heap} {tk : Nat} {L : Addr} {m : Str → Option Value} {nw : List (Addr × Obj)} {a r : List Nat} {t u t1 : Tok} {i j : Int} {value slice : Expr} {Q : Value → Shared → Prop}
theorem x_snE (X : Cx w g L m nw h) (he : cut a (some i) none = r) (H : ∀ t' h' tk', Cx w g L m nw h' → Q (.str (S r) t') (st s h' tk')) (hz : a.length ≤ 1000000)
    (hs : ∀ q, subscripted slice false (.str (S a) t) (.ref q) = operate [.ref q, .str (S a) t] (getItem (.str (S a) t) (.ref q)) := by intro _; k_dflt rfl)
    (ht : ∀ r, letTemporaryGo value (.str (S a) t) r = pure () := by intro _; k_dflt rfl) :
    wpAny (model pg w) A (subscriptTail value slice (.str (S a) t) (.ref (st s h tk).heap.objs.size)) Q E { st s h tk with heap := (st s h tk).heap.push { cls := .type "slice", data := .fields #[.int i t1, .none, .none] } } :=
  x_slice_sn X (fun t' h' tk' Y => by rw [he]; exact H t' h' tk' Y) hz hs ht
theorem x_nsE (X : Cx w g L m nw h) (he : cut a none (some j) = r) (H : ∀ t' h' tk', Cx w g L m nw h' → Q (.str (S r) t') (st s h' tk')) (hz : a.length ≤ 1000000)
    (hs : ∀ q, subscripted slice false (.str (S a) t) (.ref q) = operate [.ref q, .str (S a) t] (getItem (.str (S a) t) (.ref q)) := by intro _; k_dflt rfl)
    (ht : ∀ r, letTemporaryGo value (.str (S a) t) r = pure () := by intro _; k_dflt rfl) :
    wpAny (model pg w) A (subscriptTail value slice (.str (S a) t) (.ref (st s h tk).heap.objs.size)) Q E { st s h tk with heap := (st s h tk).heap.push { cls := .type "slice", data := .fields #[.none, .int j t1, .none] } } :=
  x_slice_ns X (fun t' h' tk' Y => by rw [he]; exact H t' h' tk' Y) hz hs ht
theorem m_stripE (he : stp a = r) (hz : a.length ≤ 1000000) (H : ∀ t' tk', Q (.str (S r) t') (st s h tk')) : wpAny (model pg w) A (call (.builtin "str.strip") [.str (S a) t, .str (S (lit " \t")) u]) Q E (st s h tk) :=
  m_strip hz (by rw [he]; exact H)
theorem br_dT {X Y : Prop} {p : Prop} [Decidable p] (h : p) (H : X) : (decide p = true → X) ∧ (decide p = false → Y) := ⟨fun _ => H, fun e => absurd h (of_decide_eq_false e)⟩
theorem br_dF {X Y : Prop} {p : Prop} [Decidable p] (h : ¬ p) (H : Y) : (decide p = true → X) ∧ (decide p = false → Y) := ⟨fun e => absurd (of_decide_eq_true e) h, fun _ => H⟩
theorem br_nT {X Y : Prop} {p : Prop} [Decidable p] (h : p) (H : Y) : ((!decide p) = true → X) ∧ ((!decide p) = false → Y) := ⟨fun e => absurd h (by simpa using e), fun _ => H⟩
theorem br_nF {X Y : Prop} {p : Prop} [Decidable p] (h : ¬ p) (H : X) : ((!decide p) = true → X) ∧ ((!decide p) = false → Y) := ⟨fun _ => H, fun e => absurd (by simpa using e) h⟩
theorem br_nnT {X Y : Prop} {p : Prop} [Decidable p] (h : p) (H : X) : ((!!decide p) = true → X) ∧ ((!!decide p) = false → Y) := ⟨fun _ => H, fun e => absurd h (by simpa using e)⟩
theorem br_nnF {X Y : Prop} {p : Prop} [Decidable p] (h : ¬ p) (H : Y) : ((!!decide p) = true → X) ∧ ((!!decide p) = false → Y) := ⟨fun e => absurd (by simpa using e) h, fun _ => H⟩
end
theorem cut_last (K : List Nat) : cut K (some ((K.length : Int) - 1)) none = K.drop (K.length - 1) := by
  unfold cut clipN
  dsimp only
  rw [List.take_of_length_le (Nat.le_refl _)]
  congr 1
  split <;> omega
theorem cut_butlast (K : List Nat) : cut K none (some ((K.length : Int) - 1)) = K.take (K.length - 1) := by
  unfold cut clipN
  dsimp only
  rw [List.drop_zero]
  congr 1
  split <;> omega
theorem drop_last {K : List Nat} (h : K ≠ []) (c : Nat) : K.drop (K.length - 1) = [c] ↔ K.getD (K.length - 1) 0 = c := by
  have hl : 0 < K.length := List.length_pos_iff.mpr h
  rw [drop_cons (i := K.length - 1) (by omega), List.drop_eq_nil_of_le (by omega)]
  simp
end Mine
end
section
open PySem PySem.W PySem.Calls PyProof.Rows PyProof PyProof.V
set_option Elab.async false
set_option maxRecDepth 100000
set_option maxHeartbeats 4000000
set_option autoImplicit false
namespace Mine
local macro_rules | `(tactic| walk_at "m") => `(tactic| first | exact .head _ | exact .tail _ (.head _) | exact .tail _ (.tail _ (.head _)) | exact .tail _ (.tail _ (.tail _ (.head _))) | exact .tail _ (.tail _ (.tail _ (.tail _ (.head _)))) | exact .tail _ (.tail _ (.tail _ (.tail _ (.tail _ (.head _))))) | exact .tail _ (.tail _ (.tail _ (.tail _ (.tail _ (.tail _ (.head _)))))) | exact .tail _ (.tail _ (.tail _ (.tail _ (.tail _ (.tail _ (.tail _ (.head _))))))) | exact .tail _ (.tail _ (.tail _ (.tail _ (.tail _ (.tail _ (.tail _ (.tail _ (.head _)))))))) | exact .tail _ (.tail _ (.tail _ (.tail _ (.tail _ (.tail _ (.tail _ (.tail _ (.tail _ (.head _))))))))))
local macro_rules | `(tactic| walk_at "n") => `(tactic| first
  | (refine' r_name ?l ?k ?n ?v ?_ ?b; (case l => k_dflt rfl); (case k => k_dflt rfl); (case n => k_dflt (first | exact Cx.ns (by assumption) | exact Ck.ns (by assumption))); (case v => k_dflt (first | rfl | assumption)); (case b => k_dflt decide))
  | (refine' r_glob ?l ?k ?g ?e ?w ?_ ?b; (case l => k_dflt rfl); (case k => k_dflt rfl); (case g => k_dflt rfl); (case e => first | exact gl_read _ | exact gl_items _ | exact gl_decoded _ | exact gl_charset _ | exact gl_dict _ | exact gl_text _ | exact gl_unquote _ | exact gl_unslash _ | exact gl_uhv _ | exact gl_plh _ | exact gl_pdh _ | exact gl_cvre _ | exact gl_pieces _ | exact gl_stretches _ | exact gl_charsets _ | assumption); (case w => first | exact Cx.wd (by assumption) | exact Ck.wd (by assumption) | assumption); (case b => k_dflt decide))
  | (refine' r_bi ?l ?k ?g ?h (gl_len _) bb_len ?n ?w ?_ ?b; (case l => k_dflt rfl); (case k => k_dflt rfl); (case g => k_dflt rfl); (case h => k_dflt rfl); (case n => k_dflt decide); (case w => first | exact Cx.wd (by assumption) | exact Ck.wd (by assumption) | assumption); (case b => k_dflt decide))
  | (refine' r_bi ?l ?k ?g ?h (gl_ord _) bb_ord ?n ?w ?_ ?b; (case l => k_dflt rfl); (case k => k_dflt rfl); (case g => k_dflt rfl); (case h => k_dflt rfl); (case n => k_dflt decide); (case w => first | exact Cx.wd (by assumption) | exact Ck.wd (by assumption) | assumption); (case b => k_dflt decide))
  | (refine' r_bi ?l ?k ?g ?h (gl_int _) bb_int ?n ?w ?_ ?b; (case l => k_dflt rfl); (case k => k_dflt rfl); (case g => k_dflt rfl); (case h => k_dflt rfl); (case n => k_dflt decide); (case w => first | exact Cx.wd (by assumption) | exact Ck.wd (by assumption) | assumption); (case b => k_dflt decide))
  | (refine' r_bi ?l ?k ?g ?h (gl_bytes _) bb_bytes ?n ?w ?_ ?b; (case l => k_dflt rfl); (case k => k_dflt rfl); (case g => k_dflt rfl); (case h => k_dflt rfl); (case n => k_dflt decide); (case w => first | exact Cx.wd (by assumption) | exact Ck.wd (by assumption) | assumption); (case b => k_dflt decide))
  | (refine' r_bi ?l ?k ?g ?h (gl_list _) bb_list ?n ?w ?_ ?b; (case l => k_dflt rfl); (case k => k_dflt rfl); (case g => k_dflt rfl); (case h => k_dflt rfl); (case n => k_dflt decide); (case w => first | exact Cx.wd (by assumption) | exact Ck.wd (by assumption) | assumption); (case b => k_dflt decide))
  | (refine' r_nameC ?l ?k ?c ?v ?_ ?b; (case l => k_dflt rfl); (case k => k_dflt rfl); (case c => k_dflt rfl); (case v => k_dflt (first | exact Ck.cell (by assumption) (by assumption) | exact Cx.cell (by assumption) (by walk_at "m") (by assumption))); (case b => k_dflt decide)))
local macro_rules | `(tactic| walk_at "s") => `(tactic| (with_reducible first
  | (refine' r_cons ?_)
  | (refine' r_nil ?_)
  | (refine' r_assign ?_ ?a; (case a => k_dflt rfl))
  | (refine' r_if ?_)
  | (refine' r_ret ?_)
  | (refine' r_continue ?_)
  | (refine' r_aug ?_)
  | (refine' r_store ?x ?_ ?a ?b; (case x => assumption); (case a => k_dflt rfl); (case b => k_dflt rfl); intro _ _ _)
  | ((show wpAny _ _ (eval (Expr.Name _ _) _) _ _ _); walk_at "n")
  | (refine' r_load ?l ?k ?n ?v ?_; (case l => k_dflt rfl); (case k => k_dflt rfl); (case n => k_dflt (first | exact Cx.ns (by assumption) | exact Ck.ns (by assumption))); (case v => k_dflt (first | rfl | assumption)))
  | (refine' r_int ?_; intro _ _)
  | (refine' r_str ?_; intro _ _)
  | (refine' r_bool ?_)
  | (refine' r_none ?_)
  | (refine' r_expr ?_ ?a ?b; (case a => k_dflt rfl); (case b => k_dflt rfl))
  | (refine' and_none ?_)
  | (refine' r_list0 ?x ?_; (case x => assumption); intro _ _ _ _ _)
  | (refine' gm_append ?x ?_; (case x => assumption))
  | (refine' m_append ?x ?e ?z ?_; (case x => assumption); (case e => first | assumption | exact List.forall_mem_nil _); (case z => omega); intro _ _ _)
  | (refine' e_not ?_)
  | (refine' v_str ?z ?_; (case z => (try simp only [List.length_append, List.length_cons, List.length_nil, lit_nil, lit_dq, lit_sq]); omega); intro _)
  | (refine' gm_strip ?_)
  | (refine' m_strip ?z ?_; (case z => omega); intro _ _)
  | (refine' r_binop ?_)
  | (refine' r_cmp ?_ ?a; (case a => k_dflt rfl))
  | (refine' r_ifexp ?_)
  | (refine' t_cmp ?_ ?a; (case a => k_dflt rfl))
  | (refine' t_not ?_)
  | (refine' t_and0 ?_)
  | (refine' t_or0 ?_)
  | (refine' t_and ?_)
  | (refine' t_or ?_)
  | (refine' t_name ?_)
  | (refine' t_call ?_)
  | (refine' v_bool ?_)
  | (refine' r_call ?_ ?a; (case a => k_dflt rfl))
  | (refine' r_mcall ?_ ?a; (case a => exact ⟨_, by k_dflt rfl⟩); intro _)
  | (refine' c_fn ?_ ?a ?b; (case a => k_dflt rfl); (case b => k_dflt rfl))
  | (refine' c_me ?_ ?a ?b; (case a => k_dflt rfl); (case b => k_dflt rfl))
  | (refine' c_bi0 ?_)
  | (refine' sp_more ?_ ?a; (case a => k_dflt rfl))
  | (refine' sp_none ?_)
  | (refine' c_def ?w ?k ?_ ?a ?b; (case w => first | exact Cx.wd (by assumption) | exact Ck.wd (by assumption) | assumption); (case k => first | exact kp_38 _ | exact kp_45 _ | exact kp_57 _ | exact kp_62 _ | exact kp_69 _ | exact kp_82 _ | exact kp_89 _ | exact kp_96 _ | exact kp_101 _ | exact kp_106 _ | exact kp_111 _ | exact kp_118 _); (case a => k_dflt rfl); (case b => k_dflt rfl))
  | (refine' c_def0 ?w ?k ?_; (case w => first | exact Cx.wd (by assumption) | exact Ck.wd (by assumption) | assumption); (case k => first | exact kp_82 _ | exact kp_89 _))
  | (refine' in_K ?w ?_; (case w => first | exact Cx.wd (by assumption) | exact Ck.wd (by assumption) | assumption))
  | (refine' r_sub ?_)
  | (refine' s_slice ?_)
  | (refine' s_some ?_)
  | (refine' s_none ?_)
  | (refine' r_neg ?_; intro _ _)
  | (refine' gm_starts ?_)
  | (refine' gm_ends ?_)
  | (refine' m_starts ?c ?_; (case c => first | exact lit_dq | exact lit_star))
  | (refine' m_ends ?c ?_; (case c => first | exact lit_dq | exact lit_star))
  | (refine' r_or2 ?_)
  | (refine' gm_group ?x ?_; (case x => assumption))
  | (refine' m_group ?x ?k ?z ?_; (case x => assumption); (case k => assumption); (case z => omega); intro _ _)
  | (refine' gm_decode ?_)
  | (refine' gm_sub ?w ?_; (case w => first | exact Cx.wd (by assumption) | assumption))
  | (refine' b_addI ?_; intro _ _)
  | (refine' b_subI ?_; intro _ _)
  | (refine' q_ltI ?_)
  | (refine' q_gtI ?_)
  | (refine' q_geI ?_)
  | (refine' q_eqS ?_)
  | (refine' q_neS ?_)
  | (refine' b_iaddS ?_ ?z; (case z => (try simp only [List.length_append, List.length_cons, List.length_nil, lit_nil, lit_dq, lit_sq]); omega); intro _ _)
  | (refine' b_iaddI ?_; intro _ _)
  | (refine' p_len ?_ ?z; (case z => omega); intro _ _)
  | (refine' b_addS ?_ ?z; (case z => (try simp only [List.length_append, List.length_cons, List.length_nil, lit_nil, lit_dq, lit_sq]); omega); intro _ _)
  | (refine' x_item ?a ?b ?_ ?z ?c ?d; (case a => omega); (case b => omega); (case z => omega); (case c => k_dflt rfl); (case d => intro _; k_dflt rfl); intro _ _)
  | (refine' x_slice_ss ?x ?_ ?z ?c ?d; (case x => assumption); (case z => omega); (case c => intro _; k_dflt rfl); (case d => intro _; k_dflt rfl); intro _ _ _ _)
  | (refine' x_slice_sn ?x ?_ ?z ?c ?d; (case x => assumption); (case z => omega); (case c => intro _; k_dflt rfl); (case d => intro _; k_dflt rfl); intro _ _ _ _)
  | (refine' x_slice_ns ?x ?_ ?z ?c ?d; (case x => assumption); (case z => omega); (case c => intro _; k_dflt rfl); (case d => intro _; k_dflt rfl); intro _ _ _ _)
  | (refine' r_storeX ?x ?_ ?a ?b; (case x => assumption); (case a => k_dflt rfl); (case b => k_dflt rfl); intro _ _ _)
  | (refine' x_slice_k ?x ?_ ?z ?c ?d; (case x => assumption); (case z => omega); (case c => intro _; k_dflt rfl); (case d => intro _; k_dflt rfl); intro _ _ _ _)
  | (refine' x_tup ?t ?i ?j ?x ?_ ?c; (case t => k_dflt (first | exact Cx.at_ (by assumption) (by walk_at "m") | exact Ck.keep (by assumption) _ _ (by assumption))); (case i => omega); (case j => omega); (case x => k_dflt (first | assumption | rfl)); (case c => k_dflt rfl))
  | (refine' x_lst ?t ?i ?j ?x ?_ ?c; (case t => k_dflt (first | exact Cx.at_ (by assumption) (by walk_at "m") | exact Ck.keep (by assumption) _ _ (by assumption))); (case i => omega); (case j => omega); (case x => k_dflt (first | assumption | rfl)); (case c => k_dflt rfl))
  | (refine' q_nenil ?a ?b ?u ?_; (case a => k_dflt (exact Cx.at_ (by assumption) (by walk_at "m"))); (case b => k_dflt (exact Cx.at_ (by assumption) (by walk_at "m"))); (case u => ((try simp only [Around.deeper_units]); omega)))
  | (refine' gm_find ?_)
  | (refine' m_findz ?c ?f ?_; (case c => first | exact lit_sq | exact lit_eq); (case f => assumption); intro _ _)
  | (refine' gm_lower ?_)
  | (refine' m_lower ?z ?_; (case z => omega); intro _ _)
  | (refine' gm_part ?_)
  | (refine' nin_S ?_)
  | (refine' d_in ?d ?l ?_; (case d => assumption); (case l => assumption); intro _)
  | (refine' d_item ?d ?v ?_ ?c; (case d => assumption); (case v => assumption); (case c => k_dflt rfl); intro _)
  | (refine' q_isn ?_)
  | (refine' q_isnr ?_)
  | (refine' r_dict0 ?x ?_; (case x => assumption); intro _ _ _ _ _ _ _ _)
  | (refine' r_dictN ?x ?a ?b ?c ?e ?_; (case x => assumption); (case a => k_dflt rfl); (case b => k_dflt rfl); (case c => k_dflt (exact List.cons_ne_nil _ _)); (case e => k_dflt decide); intro _ _ _ _ _ _ _)
  | (refine' k_cons ?_)
  | (refine' k_nil ?_)
  | (refine' k_made ?x ?d ?a ?k ?n ?_; (case x => assumption); (case d => assumption); (case a => assumption); (case k => k_dflt rfl); (case n => (simp only [strPairs, List.map]; k_dflt (decide +kernel))); intro _ _ _ _ _)
  | (refine' r_dset ?_ ?a; (case a => k_dflt rfl))
  | (refine' d_set ?x ?u ?d ?z ?_; (case x => assumption); (case u => first | exact UpdF.head (by assumption)); (case d => assumption); (case z => omega); intro _ _ _ _ _)
  | (refine' b_iaddB ?_ ?z; (case z => (try simp only [List.length_append, List.length_cons, List.length_nil]); omega); intro _ _)
  | (refine' r_bytes0 ?_; intro _ _)
  | (refine' r_bytesC ?_; intro _ _)
  | (refine' r_list1 ?_ ?e; (case e => k_dflt rfl))
  | (refine' d_end ?x ?_; (case x => assumption); intro _ _ _ _)
  | (refine' r_listN ?_)
  | (refine' l_end ?x ?z ?_; (case x => assumption); (case z => simp only [List.length_cons, List.length_nil]; omega); intro _ _ _ _)
  | (refine' r_asgtup ?_ ?a ?b; (case a => k_dflt rfl); (case b => k_dflt rfl))
  | (refine' r_tuple ?_)
  | (refine' t_end ?x ?z ?_; (case x => assumption); (case z => simp only [List.length_cons, List.length_nil]; omega); intro _ _ _)
  | (refine' r_unpack3 ?h ?x ?t ?_; (case h => k_dflt assumption); (case x => assumption); (case t => k_dflt (exact (Cx.N (by assumption) _ (.head _)).1)); intro _ _)
  | (refine' c_ty ?_ ?a ?b; (case a => k_dflt rfl); (case b => k_dflt rfl))
  | (refine' in_S ?_)
  | (refine' p_ord ?_; intro _ _)
  | (refine' c_bytes1 ?h ?x ?v ?_; (case h => k_dflt assumption); (case x => assumption); (case v => omega); intro _ _ _ _)
  | refine br_true ?_
  | refine br_false ?_
  | refine br_ntrue ?_
  | refine br_nfalse ?_
  | (refine br_dec ?_ ?_ <;> intro _)
  | (refine br_ndec ?_ ?_ <;> intro _)
  | (refine br_nndec ?_ ?_ <;> intro _)
  | (refine br_nb ?_ ?_ <;> intro _)
  | (refine br_b ?_ ?_ <;> intro _)
  | refine r_and0 ?_
  | refine r_out ?_
  | refine r_outc ?_
  | refine r_back ?_))


theorem cut_n1 {x : List Nat} {q : Nat} (h : q < x.length) : cut x (some ((q : Int) + 1)) none = x.drop (q + 1) := cut_n (b := q + 1) (by omega)
theorem cut_to {x : List Nat} {p : Nat} (h : p ≤ x.length) : cut x none (some (p : Int)) = x.take p := by
  unfold cut; rw [clipN_nat h]; simp [clipN]
theorem cut_1n {x : List Nat} {p q : Nat} (h : p < x.length) (h2 : q ≤ x.length) : cut x (some ((p : Int) + 1)) (some (q : Int)) = (x.take q).drop (p + 1) := cut_nn (b := p + 1) (by omega) h2
theorem nil_iff {ys : List Value} {l M : List Nat} (h : StrsV ys ((l.filter fun c => !decide (c ∈ M)).map fun c => [c])) : ys = [] ↔ ∀ c ∈ l, c ∈ M := by
  have e := h.length
  rw [List.length_map] at e
  constructor
  · intro q c hc
    rw [q] at e
    have : (l.filter fun c => !decide (c ∈ M)) = [] := List.eq_nil_of_length_eq_zero e.symm
    have := (List.filter_eq_nil_iff.mp this) c hc
    simpa using this
  · intro q
    have : (l.filter fun c => !decide (c ∈ M)) = [] := List.filter_eq_nil_iff.mpr fun c hc => by simpa using q c hc
    rw [this] at e
    exact List.eq_nil_of_length_eq_zero e
theorem law_charset_spec {w : World} {A : Around} {E : Value → Shared → Prop} {s : Shared} {h : Heap} {tk : Nat} {Q : Value → Shared → Prop} {v : List Nat} {t : Tok} (W : Wd w h) (hh : A.handled = none) (hdp : A.depth + 8 < recursionLimit) (hu : A.units + 50 < cLine) (hx : v.length ≤ 1000) (hs : Sound v)
   (hsr : ∀ p q, Cond v.toArray v.length p q → Sound (v.drop (q + 1))) (H : ∀ h' tk' t', h.StaysIn h' → Q (.str (S (csL v)) t') (st s h' tk')) :
   wpAny (model pg w) A (call (.ref 111) [.str (S v) t]) Q E (st s h tk) := by
  refine call_pure1 W (p := "value") (by rfl) (by rfl) (by omega) (by rfl) (by rfl) fun L h₁ tk₁ X => ?_
  obtain ⟨tM, hM⟩ := gl_marks w
  rw [S_lit "!#$%&*+-.^_`|~0123456789ABCDEFGHIJKLMNOPQRSTUVWXYZabcdefghijklmnopqrstuvwxyz"] at hM
  change nsIn (hd.heap_39 w.params) mainGlobals (Str.ofString "_law_marks") = some (some (.str (S marksL) tM)) at hM
  have hml : marksL.length ≤ 100 := by decide +kernel
  by_cases hp : ix 39 v < v.length
  · have e1 : fnd 39 v 0 = (ix 39 v : Int) := by rw [fnd_0, if_pos hp]
    have MARK : True := trivial
    repeat' (walk_at "s")
    by_cases hq : ix 39 (v.drop (ix 39 v + 1)) < (v.drop (ix 39 v + 1)).length
    · have e2 : fnd 39 v (ix 39 v + 1) = ((ix 39 v + 1 + ix 39 (v.drop (ix 39 v + 1)) : Nat) : Int) := by unfold fnd; rw [if_pos hq]
      refine m_find3 lit_sq (i := ix 39 v + 1) (by omega) (by omega) fun t' tk' => ?_
      rw [e2]
      obtain ⟨p, hpe⟩ : ∃ p, ix 39 v = p := ⟨_, rfl⟩
      obtain ⟨q, hqe⟩ : ∃ q, p + 1 + ix 39 (v.drop (p + 1)) = q := ⟨_, rfl⟩
      have hcs : csL v = if csOk v p q then decL (lowL (v.take p)) (v.drop (q + 1)) else v := by unfold csL; rw [hpe, hqe]
      have hcond : csOk v p q = true → Cond v.toArray v.length p q := fun hc => by
        have := csOk_cond (v := v)
        rw [hpe, hqe] at this; exact this hc
      have hql : q < v.length := by rw [← hqe, ← hpe]; simp at hq; omega
      have hpq : p < q := by omega
      have hpl : p < v.length := by omega
      simp only [hpe, hqe] at *
      have c1 := cut_n1 hql
      have c2 := cut_to (x := v) (p := p) (by omega)
      have c3 := cut_1n (q := q) hpl (by omega)
      have hasc := hs.ascii
      clear MARK
      have MARK : True := trivial
      repeat' (walk_at "s")
      all_goals (try simp only [lit_nil, c1, c2, c3] at *)
      all_goals (try omega)
      · -- an empty rest
        refine out_str ?_ (H _ _ _ (Cx.F (by assumption)).keep)
        rw [hcs, if_neg]
        intro hc
        have := (hcond hc).bl
        have : (v.drop (q + 1)).length = 0 := by rw [‹v.drop (q + 1) = []›]; rfl
        simp at this; omega
      · refine r_compS (cl := []) hh (by rfl) (by decide) rfl (by decide) rfl (by intro _; rfl) ?_
        clear MARK
        have MARK : True := trivial
        repeat' (walk_at "s")
        rw [cut_1n (q := q) hpl (by omega)]
        have hl1 : (v.take p).length ≤ 1000 := by simp; omega
        have hl2 : ((v.take q).drop (p + 1)).length ≤ 1000 := by simp; omega
        have hl3 : (v.drop (q + 1)).length ≤ 1000 := by simp; omega
        repeat' (walk_at "s")
        have X5 := (‹Cx w h L _ _ _› : Cx w h L _ _ _)
        refine ⟨_, _, _, _, fun c => !decide (c ∈ marksL), rfl, rfl, by simp; omega, X5.wd, ?_, ?_, ?_⟩
        · intro c hc t s' C g m₃ tk5 E' Xk hkk hm
          refine wpAny_tests_one ?_
          clear MARK
          have MARK : True := trivial
          repeat' (walk_at "s")
          exact bk_end (by assumption) rfl
        · intro c hc _ t s' C g m₃ tk5 E' Xk hkk hm
          repeat' (walk_at "s")
          exact bk_end (by assumption) ⟨_, rfl⟩
        · intro D h' tk' ys n' k5 hD hD' hys
          have X6 := X5.add k5 hD hD'
          have hy := nil_iff hys
          clear MARK
          have MARK : True := trivial
          repeat' (walk_at "s")
          · -- a sign that is no mark
            refine ⟨fun _ => ?_, fun e => by cases e⟩
            repeat' (walk_at "s")
            refine out_str ?_ (H _ _ _ (Cx.F (by assumption)).keep)
            rw [hcs, if_neg]
            intro hc
            have C := hcond hc
            refine absurd (hy.mpr fun c hcm => ?_) ‹¬ ys = []›
            have hca : c < 128 := by
              rcases List.mem_append.mp hcm with hcm | hcm
              · exact hasc c (List.mem_of_mem_take hcm)
              · exact hasc c (List.mem_of_mem_take (List.mem_of_mem_drop hcm))
            have htk : tokAt 14 c = true := by
              rcases List.mem_append.mp hcm with hcm | hcm
              · obtain ⟨k, hk, rfl⟩ := List.mem_iff_getElem.mp hcm
                simp at hk
                have := C.t1 k (by omega)
                simpa [show k < v.length by omega] using this
              · obtain ⟨k, hk, rfl⟩ := List.mem_iff_getElem.mp hcm
                simp at hk
                have := C.t2 (p + 1 + k) (by omega) (by omega)
                simpa [show p + 1 + k < v.length by omega] using this
            rw [tok_marks hca] at htk
            exact of_decide_eq_true htk
          · have hall := hy.mp ‹ys = []›
            refine r_compS (cl := []) hh (by rfl) (by decide) rfl (by decide) rfl (by intro _; rfl) ?_
            clear MARK
            have MARK : True := trivial
            repeat' (walk_at "s")
            have X7 := (‹Cx w h L _ _ _› : Cx w h L _ _ _)
            refine ⟨_, _, _, _, fun c => !decide (c ∈ marksL ++ lit "'"), rfl, rfl, by omega, X7.wd, ?_, ?_, ?_⟩
            · intro c hc t s' C g m₃ tk5 E' Xk hkk hm
              refine wpAny_tests_one ?_
              clear MARK
              have MARK : True := trivial
              repeat' (walk_at "s")
              exact bk_end (by assumption) rfl
            · intro c hc _ t s' C g m₃ tk5 E' Xk hkk hm
              repeat' (walk_at "s")
              exact bk_end (by assumption) ⟨_, rfl⟩
            · intro D2 h'2 tk'2 ys2 n'2 k52 hD2 hD'2 hys2
              have X8 := X7.add k52 hD2 hD'2
              have hy2 := nil_iff hys2
              clear MARK
              have MARK : True := trivial
              repeat' (walk_at "s")
              · -- a sign that is no mark in the rest
                refine out_str ?_ (H _ _ _ (Cx.F (by assumption)).keep)
                rw [hcs, if_neg]
                intro hc
                have C := hcond hc
                refine absurd (hy2.mpr fun c hcm => ?_) ‹¬ ys2 = []›
                have hca := hasc c (List.mem_of_mem_drop hcm)
                have htk : tokAt 60 c = true := by
                  obtain ⟨k, hk, rfl⟩ := List.mem_iff_getElem.mp hcm
                  simp at hk
                  have := C.t3 (q + 1 + k) (by omega) (by omega)
                  simpa [show q + 1 + k < v.length by omega] using this
                rw [tok_marks2 hca] at htk
                exact of_decide_eq_true htk
              · have hall2 := hy2.mp ‹ys2 = []›
                have hok : csOk v p q = true := by
                  have hne : ¬ v.drop (q + 1) = [] := by assumption
                  have hq1 : q + 1 < v.length := by
                    rcases Nat.lt_or_ge (q + 1) v.length with h | h
                    · exact h
                    · exact absurd (List.drop_eq_nil_of_le h) hne
                  unfold csOk
                  simp only [Bool.and_eq_true, decide_eq_true_eq, hq1, true_and, List.all_eq_true]
                  refine ⟨⟨fun c hc => ?_, fun c hc => ?_⟩, fun c hc => ?_⟩
                  · rw [tok_marks (hasc c (List.mem_of_mem_take hc))]
                    exact decide_eq_true (hall c (List.mem_append_left _ hc))
                  · rw [tok_marks (hasc c (List.mem_of_mem_take (List.mem_of_mem_drop hc)))]
                    exact decide_eq_true (hall c (List.mem_append_right _ hc))
                  · rw [tok_marks2 (hasc c (List.mem_of_mem_drop hc))]
                    exact decide_eq_true (hall2 c hc)
                rw [hok, if_pos rfl] at hcs
                have hsr' := hsr p q (hcond hok)
                have X9 := (‹Cx w h L (upd (upd (upd (upd (upd (upd _ _ _) _ _) _ _) _ _) _ _) _ _) _ _› : Cx w h L _ _ _)
                refine charsets_spec X9.wd (by rw [dd]; omega) fun h10 tk10 d1 t1 t2 t3 t4 k10 hd1 lo1 hD1 => ?_
                have X10 := X9.more k10
                clear MARK
                have MARK : True := trivial
                repeat' (walk_at "s")
                all_goals (rw [chs_in] at *)
                · -- a charset that is one of the four
                  have hmem : lowL (v.take p) ∈ encs := by simpa using ‹decide (lowL (v.take p) ∈ encs) = true›
                  obtain ⟨k, hk, hkc, hval⟩ := colF_C hmem
                  refine charsets_spec X10.wd (by rw [dd]; omega) fun h11 tk11 d2 u1 u2 u3 u4 k11 hd2 lo2 hD2 => ?_
                  have X11 := X10.more k11
                  obtain ⟨tv, hv⟩ := hval u1 u2 u3 u4
                  clear MARK
                  have MARK : True := trivial
                  repeat' (walk_at "s")
                  refine' law_decoded_spec ?yw ?yh ?yd ?yu ?yx ?ys ?yk ?yH
                  case yw => exact X11.wd
                  case yh => exact hh
                  case yd => rw [dd]; omega
                  case yu => rw [Around.deeper_units]; omega
                  case yx => exact hl3
                  case ys => exact hsr'
                  case yk => exact hk
                  intro h12 tk12 t12 k12
                  refine out_str ?_ (H _ _ _ fun b o e => k12 _ _ (X11.F.keep _ _ e))
                  rw [hcs, hkc]
                  unfold decL
                  rw [if_pos hmem]
                · have hmem : ¬ lowL (v.take p) ∈ encs := by simpa using ‹decide (lowL (v.take p) ∈ encs) = false›
                  refine out_str ?_ (H _ _ _ X10.F.keep)
                  rw [hcs]
                  unfold decL
                  rw [if_neg hmem]
    · have e2 : fnd 39 v (ix 39 v + 1) = -1 := by unfold fnd; rw [if_neg hq]
      have hcs : csL v = v := by
        unfold csL
        rw [if_neg]
        intro hc
        have C := csOk_cond hc
        have := C.bl
        apply hq; simp; omega
      refine m_find3 lit_sq (i := ix 39 v + 1) (by omega) (by omega) fun t' tk' => ?_
      rw [e2]
      clear MARK
      have MARK : True := trivial
      repeat' (walk_at "s")
      all_goals first
        | omega
        | exact out_str hcs.symm (H _ _ _ (Cx.F (by assumption)).keep)
  · have e1 : fnd 39 v 0 = -1 := by rw [fnd_0, if_neg hp]
    have hcs : csL v = v := by
      unfold csL
      rw [if_neg]
      intro hc
      have C := csOk_cond hc
      have := C.bl
      omega
    have MARK : True := trivial
    repeat' (walk_at "s")
    refine m_find3 lit_sq (i := 0) (by omega) (Nat.zero_le _) fun t' tk' => ?_
    rw [e1]
    clear MARK
    have MARK : True := trivial
    repeat' (walk_at "s")
    all_goals first
      | omega
      | exact out_str hcs.symm (H _ _ _ (Cx.F (by assumption)).keep)
end Mine
end
section
open PySem PySem.W PySem.Calls PyProof.Rows PyProof PyProof.V
set_option Elab.async false
set_option maxRecDepth 100000
set_option maxHeartbeats 4000000
set_option autoImplicit false
namespace Mine
local macro_rules | `(tactic| walk_at "m") => `(tactic| first | exact .head _ | exact .tail _ (.head _) | exact .tail _ (.tail _ (.head _)) | exact .tail _ (.tail _ (.tail _ (.head _))) | exact .tail _ (.tail _ (.tail _ (.tail _ (.head _)))) | exact .tail _ (.tail _ (.tail _ (.tail _ (.tail _ (.head _))))) | exact .tail _ (.tail _ (.tail _ (.tail _ (.tail _ (.tail _ (.head _)))))) | exact .tail _ (.tail _ (.tail _ (.tail _ (.tail _ (.tail _ (.tail _ (.head _))))))) | exact .tail _ (.tail _ (.tail _ (.tail _ (.tail _ (.tail _ (.tail _ (.tail _ (.head _)))))))) | exact .tail _ (.tail _ (.tail _ (.tail _ (.tail _ (.tail _ (.tail _ (.tail _ (.tail _ (.head _))))))))))
local macro_rules | `(tactic| walk_at "n") => `(tactic| first
  | (refine' r_name ?l ?k ?n ?v ?_ ?b; (case l => k_dflt rfl); (case k => k_dflt rfl); (case n => k_dflt (first | exact Cx.ns (by assumption) | exact Ck.ns (by assumption))); (case v => k_dflt (first | rfl | assumption)); (case b => k_dflt decide))
  | (refine' r_glob ?l ?k ?g ?e ?w ?_ ?b; (case l => k_dflt rfl); (case k => k_dflt rfl); (case g => k_dflt rfl); (case e => first | exact gl_read _ | exact gl_items _ | exact gl_decoded _ | exact gl_charset _ | exact gl_dict _ | exact gl_text _ | exact gl_unquote _ | exact gl_unslash _ | exact gl_uhv _ | exact gl_plh _ | exact gl_pdh _ | exact gl_cvre _ | exact gl_pieces _ | exact gl_stretches _ | exact gl_charsets _ | assumption); (case w => first | exact Cx.wd (by assumption) | exact Ck.wd (by assumption) | assumption); (case b => k_dflt decide))
  | (refine' r_bi ?l ?k ?g ?h (gl_len _) bb_len ?n ?w ?_ ?b; (case l => k_dflt rfl); (case k => k_dflt rfl); (case g => k_dflt rfl); (case h => k_dflt rfl); (case n => k_dflt decide); (case w => first | exact Cx.wd (by assumption) | exact Ck.wd (by assumption) | assumption); (case b => k_dflt decide))
  | (refine' r_bi ?l ?k ?g ?h (gl_ord _) bb_ord ?n ?w ?_ ?b; (case l => k_dflt rfl); (case k => k_dflt rfl); (case g => k_dflt rfl); (case h => k_dflt rfl); (case n => k_dflt decide); (case w => first | exact Cx.wd (by assumption) | exact Ck.wd (by assumption) | assumption); (case b => k_dflt decide))
  | (refine' r_bi ?l ?k ?g ?h (gl_int _) bb_int ?n ?w ?_ ?b; (case l => k_dflt rfl); (case k => k_dflt rfl); (case g => k_dflt rfl); (case h => k_dflt rfl); (case n => k_dflt decide); (case w => first | exact Cx.wd (by assumption) | exact Ck.wd (by assumption) | assumption); (case b => k_dflt decide))
  | (refine' r_bi ?l ?k ?g ?h (gl_bytes _) bb_bytes ?n ?w ?_ ?b; (case l => k_dflt rfl); (case k => k_dflt rfl); (case g => k_dflt rfl); (case h => k_dflt rfl); (case n => k_dflt decide); (case w => first | exact Cx.wd (by assumption) | exact Ck.wd (by assumption) | assumption); (case b => k_dflt decide))
  | (refine' r_bi ?l ?k ?g ?h (gl_list _) bb_list ?n ?w ?_ ?b; (case l => k_dflt rfl); (case k => k_dflt rfl); (case g => k_dflt rfl); (case h => k_dflt rfl); (case n => k_dflt decide); (case w => first | exact Cx.wd (by assumption) | exact Ck.wd (by assumption) | assumption); (case b => k_dflt decide))
  | (refine' r_nameC ?l ?k ?c ?v ?_ ?b; (case l => k_dflt rfl); (case k => k_dflt rfl); (case c => k_dflt rfl); (case v => k_dflt (first | exact Ck.cell (by assumption) (by assumption) | exact Cx.cell (by assumption) (by walk_at "m") (by assumption))); (case b => k_dflt decide)))
local macro_rules | `(tactic| walk_at "s") => `(tactic| (with_reducible first
  | (refine' x_snE ?x ?e ?_ ?z ?c ?d; (case x => assumption); (case e => assumption); (case z => omega); (case c => intro _; k_dflt rfl); (case d => intro _; k_dflt rfl); intro _ _ _ _)
  | (refine' x_nsE ?x ?e ?_ ?z ?c ?d; (case x => assumption); (case e => assumption); (case z => omega); (case c => intro _; k_dflt rfl); (case d => intro _; k_dflt rfl); intro _ _ _ _)
  | (refine' m_stripE ?e ?z ?_; (case e => assumption); (case z => omega); intro _ _)
  | (refine' br_dT ?h ?_; (case h => (first | assumption | omega | rfl | exact List.cons_ne_nil _ _)))
  | (refine' br_dF ?h ?_; (case h => (first | assumption | omega | rfl | exact List.cons_ne_nil _ _)))
  | (refine' br_nT ?h ?_; (case h => (first | assumption | omega | rfl | exact List.cons_ne_nil _ _)))
  | (refine' br_nF ?h ?_; (case h => (first | assumption | omega | rfl | exact List.cons_ne_nil _ _)))
  | (refine' br_nnT ?h ?_; (case h => (first | assumption | omega | rfl | exact List.cons_ne_nil _ _)))
  | (refine' br_nnF ?h ?_; (case h => (first | assumption | omega | rfl | exact List.cons_ne_nil _ _)))
  | (refine' r_cons ?_)
  | (refine' r_nil ?_)
  | (refine' r_assign ?_ ?a; (case a => k_dflt rfl))
  | (refine' r_if ?_)
  | (refine' r_ret ?_)
  | (refine' r_continue ?_)
  | (refine' r_aug ?_)
  | (refine' r_store ?x ?_ ?a ?b; (case x => assumption); (case a => k_dflt rfl); (case b => k_dflt rfl); intro _ _ _)
  | ((show wpAny _ _ (eval (Expr.Name _ _) _) _ _ _); walk_at "n")
  | (refine' r_load ?l ?k ?n ?v ?_; (case l => k_dflt rfl); (case k => k_dflt rfl); (case n => k_dflt (first | exact Cx.ns (by assumption) | exact Ck.ns (by assumption))); (case v => k_dflt (first | rfl | assumption)))
  | (refine' r_int ?_; intro _ _)
  | (refine' r_str ?_; intro _ _)
  | (refine' r_bool ?_)
  | (refine' r_none ?_)
  | (refine' r_expr ?_ ?a ?b; (case a => k_dflt rfl); (case b => k_dflt rfl))
  | (refine' and_none ?_)
  | (refine' r_list0 ?x ?_; (case x => assumption); intro _ _ _ _ _)
  | (refine' gm_append ?x ?_; (case x => assumption))
  | (refine' m_append ?x ?e ?z ?_; (case x => assumption); (case e => first | assumption | exact List.forall_mem_nil _); (case z => omega); intro _ _ _)
  | (refine' e_not ?_)
  | (refine' v_str ?z ?_; (case z => (try simp only [List.length_append, List.length_cons, List.length_nil, lit_nil, lit_dq, lit_sq]); omega); intro _)
  | (refine' gm_strip ?_)
  | (refine' m_strip ?z ?_; (case z => omega); intro _ _)
  | (refine' r_binop ?_)
  | (refine' r_cmp ?_ ?a; (case a => k_dflt rfl))
  | (refine' r_ifexp ?_)
  | (refine' t_cmp ?_ ?a; (case a => k_dflt rfl))
  | (refine' t_not ?_)
  | (refine' t_and0 ?_)
  | (refine' t_or0 ?_)
  | (refine' t_and ?_)
  | (refine' t_or ?_)
  | (refine' t_name ?_)
  | (refine' t_call ?_)
  | (refine' v_bool ?_)
  | (refine' r_call ?_ ?a; (case a => k_dflt rfl))
  | (refine' r_mcall ?_ ?a; (case a => exact ⟨_, by k_dflt rfl⟩); intro _)
  | (refine' c_fn ?_ ?a ?b; (case a => k_dflt rfl); (case b => k_dflt rfl))
  | (refine' c_me ?_ ?a ?b; (case a => k_dflt rfl); (case b => k_dflt rfl))
  | (refine' c_bi0 ?_)
  | (refine' sp_more ?_ ?a; (case a => k_dflt rfl))
  | (refine' sp_none ?_)
  | (refine' c_def ?w ?k ?_ ?a ?b; (case w => first | exact Cx.wd (by assumption) | exact Ck.wd (by assumption) | assumption); (case k => first | exact kp_38 _ | exact kp_45 _ | exact kp_57 _ | exact kp_62 _ | exact kp_69 _ | exact kp_82 _ | exact kp_89 _ | exact kp_96 _ | exact kp_101 _ | exact kp_106 _ | exact kp_111 _ | exact kp_118 _); (case a => k_dflt rfl); (case b => k_dflt rfl))
  | (refine' c_def0 ?w ?k ?_; (case w => first | exact Cx.wd (by assumption) | exact Ck.wd (by assumption) | assumption); (case k => first | exact kp_82 _ | exact kp_89 _))
  | (refine' in_K ?w ?_; (case w => first | exact Cx.wd (by assumption) | exact Ck.wd (by assumption) | assumption))
  | (refine' r_sub ?_)
  | (refine' s_slice ?_)
  | (refine' s_some ?_)
  | (refine' s_none ?_)
  | (refine' r_neg ?_; intro _ _)
  | (refine' gm_starts ?_)
  | (refine' gm_ends ?_)
  | (refine' m_starts ?c ?_; (case c => first | exact lit_dq | exact lit_star))
  | (refine' m_ends ?c ?_; (case c => first | exact lit_dq | exact lit_star))
  | (refine' r_or2 ?_)
  | (refine' gm_group ?x ?_; (case x => assumption))
  | (refine' m_group ?x ?k ?z ?_; (case x => assumption); (case k => assumption); (case z => omega); intro _ _)
  | (refine' gm_decode ?_)
  | (refine' gm_sub ?w ?_; (case w => first | exact Cx.wd (by assumption) | assumption))
  | (refine' b_addI ?_; intro _ _)
  | (refine' b_subI ?_; intro _ _)
  | (refine' q_ltI ?_)
  | (refine' q_gtI ?_)
  | (refine' q_geI ?_)
  | (refine' q_eqS ?_)
  | (refine' q_neS ?_)
  | (refine' b_iaddS ?_ ?z; (case z => (try simp only [List.length_append, List.length_cons, List.length_nil, lit_nil, lit_dq, lit_sq]); omega); intro _ _)
  | (refine' b_iaddI ?_; intro _ _)
  | (refine' p_len ?_ ?z; (case z => omega); intro _ _)
  | (refine' b_addS ?_ ?z; (case z => (try simp only [List.length_append, List.length_cons, List.length_nil, lit_nil, lit_dq, lit_sq]); omega); intro _ _)
  | (refine' x_item ?a ?b ?_ ?z ?c ?d; (case a => omega); (case b => omega); (case z => omega); (case c => k_dflt rfl); (case d => intro _; k_dflt rfl); intro _ _)
  | (refine' x_slice_ss ?x ?_ ?z ?c ?d; (case x => assumption); (case z => omega); (case c => intro _; k_dflt rfl); (case d => intro _; k_dflt rfl); intro _ _ _ _)
  | (refine' x_slice_sn ?x ?_ ?z ?c ?d; (case x => assumption); (case z => omega); (case c => intro _; k_dflt rfl); (case d => intro _; k_dflt rfl); intro _ _ _ _)
  | (refine' x_slice_ns ?x ?_ ?z ?c ?d; (case x => assumption); (case z => omega); (case c => intro _; k_dflt rfl); (case d => intro _; k_dflt rfl); intro _ _ _ _)
  | (refine' r_storeX ?x ?_ ?a ?b; (case x => assumption); (case a => k_dflt rfl); (case b => k_dflt rfl); intro _ _ _)
  | (refine' x_slice_k ?x ?_ ?z ?c ?d; (case x => assumption); (case z => omega); (case c => intro _; k_dflt rfl); (case d => intro _; k_dflt rfl); intro _ _ _ _)
  | (refine' x_tup ?t ?i ?j ?x ?_ ?c; (case t => k_dflt (first | exact Cx.at_ (by assumption) (by walk_at "m") | exact Ck.keep (by assumption) _ _ (by assumption))); (case i => omega); (case j => omega); (case x => k_dflt (first | assumption | rfl)); (case c => k_dflt rfl))
  | (refine' x_lst ?t ?i ?j ?x ?_ ?c; (case t => k_dflt (first | exact Cx.at_ (by assumption) (by walk_at "m") | exact Ck.keep (by assumption) _ _ (by assumption))); (case i => omega); (case j => omega); (case x => k_dflt (first | assumption | rfl)); (case c => k_dflt rfl))
  | (refine' q_nenil ?a ?b ?u ?_; (case a => k_dflt (exact Cx.at_ (by assumption) (by walk_at "m"))); (case b => k_dflt (exact Cx.at_ (by assumption) (by walk_at "m"))); (case u => ((try simp only [Around.deeper_units]); omega)))
  | (refine' gm_find ?_)
  | (refine' m_findz ?c ?f ?_; (case c => first | exact lit_sq | exact lit_eq); (case f => assumption); intro _ _)
  | (refine' gm_lower ?_)
  | (refine' m_lower ?z ?_; (case z => omega); intro _ _)
  | (refine' gm_part ?_)
  | (refine' nin_S ?_)
  | (refine' d_in ?d ?l ?_; (case d => assumption); (case l => assumption); intro _)
  | (refine' d_item ?d ?v ?_ ?c; (case d => assumption); (case v => assumption); (case c => k_dflt rfl); intro _)
  | (refine' q_isn ?_)
  | (refine' q_isnr ?_)
  | (refine' r_dict0 ?x ?_; (case x => assumption); intro _ _ _ _ _ _ _ _)
  | (refine' r_dictN ?x ?a ?b ?c ?e ?_; (case x => assumption); (case a => k_dflt rfl); (case b => k_dflt rfl); (case c => k_dflt (exact List.cons_ne_nil _ _)); (case e => k_dflt decide); intro _ _ _ _ _ _ _)
  | (refine' k_cons ?_)
  | (refine' k_nil ?_)
  | (refine' k_made ?x ?d ?a ?k ?n ?_; (case x => assumption); (case d => assumption); (case a => assumption); (case k => k_dflt rfl); (case n => (simp only [strPairs, List.map]; k_dflt (decide +kernel))); intro _ _ _ _ _)
  | (refine' r_dset ?_ ?a; (case a => k_dflt rfl))
  | (refine' d_set ?x ?u ?d ?z ?_; (case x => assumption); (case u => first | exact UpdF.head (by assumption)); (case d => assumption); (case z => omega); intro _ _ _ _ _)
  | (refine' b_iaddB ?_ ?z; (case z => (try simp only [List.length_append, List.length_cons, List.length_nil]); omega); intro _ _)
  | (refine' r_bytes0 ?_; intro _ _)
  | (refine' r_bytesC ?_; intro _ _)
  | (refine' r_list1 ?_ ?e; (case e => k_dflt rfl))
  | (refine' d_end ?x ?_; (case x => assumption); intro _ _ _ _)
  | (refine' r_listN ?_)
  | (refine' l_end ?x ?z ?_; (case x => assumption); (case z => simp only [List.length_cons, List.length_nil]; omega); intro _ _ _ _)
  | (refine' r_asgtup ?_ ?a ?b; (case a => k_dflt rfl); (case b => k_dflt rfl))
  | (refine' r_tuple ?_)
  | (refine' t_end ?x ?z ?_; (case x => assumption); (case z => simp only [List.length_cons, List.length_nil]; omega); intro _ _ _)
  | (refine' r_unpack3 ?h ?x ?t ?_; (case h => k_dflt assumption); (case x => assumption); (case t => k_dflt (exact (Cx.N (by assumption) _ (.head _)).1)); intro _ _)
  | (refine' c_ty ?_ ?a ?b; (case a => k_dflt rfl); (case b => k_dflt rfl))
  | (refine' in_S ?_)
  | (refine' p_ord ?_; intro _ _)
  | (refine' c_bytes1 ?h ?x ?v ?_; (case h => k_dflt assumption); (case x => assumption); (case v => omega); intro _ _ _ _)
  | refine br_true ?_
  | refine br_false ?_
  | refine br_ntrue ?_
  | refine br_nfalse ?_
  | (refine br_dec ?_ ?_ <;> intro _)
  | (refine br_ndec ?_ ?_ <;> intro _)
  | (refine br_nndec ?_ ?_ <;> intro _)
  | (refine br_nb ?_ ?_ <;> intro _)
  | (refine br_b ?_ ?_ <;> intro _)
  | refine r_and0 ?_
  | refine r_out ?_
  | refine r_outc ?_
  | refine r_back ?_))


def LdJ (w : World) (x : List Nat) (d : Addr) (i : Nat) (m : Str → Option Value) (nw : List (Addr × Obj)) : Prop :=
  ∃ (o : Obj) (kvs : List (Str × Value)), m "kept" = some (.ref d) ∧ nw = [(d, o)] ∧ SD w o kvs ∧ DK kvs (((itemsL x).take i).foldl putL [])
theorem law_dict_spec {w : World} {A : Around} {E : Value → Shared → Prop} {s : Shared} {h : Heap} {tk : Nat} {Q : Value → Shared → Prop} {x : List Nat} {t : Tok} (W : Wd w h) (hh : A.handled = none) (hdp : A.depth + 12 < recursionLimit) (hu : A.units + 70 < cLine) (hx : x.length ≤ 500) (hs : Sound x)
   (H : ∀ h' tk' d kvs, h.StaysIn h' → h.get? d = none → (d == sysModules) = false → h'.DictOf (PySem.strKind pg w) d kvs → DK kvs (dictL x) → Q (.ref d) (st s h' tk')) :
   wpAny (model pg w) A (call (.ref 118) [.str (S x) t]) Q E (st s h tk) := by
  refine call_pure1 W (p := "text") (by rfl) (by rfl) (by omega) (by rfl) (by rfl) fun L h₁ tk₁ X => ?_
  have MARK : True := trivial
  repeat' (walk_at "s")
  refine r_for (g := h) rfl rfl (by intro _; rfl) ?_
  repeat' (walk_at "s")
  rename_i d o _ _ _ hsd _ hlo _ _ X1
  refine law_items_spec X1.wd (by exact hh) (by rw [dd]; omega) (by omega) fun h2 tk2 a vs k k2 ha ha2 hvs => ?_
  obtain ⟨il, il2⟩ := items_len x
  have isn := items_sound hs
  have hvl := hvs.length
  have hda : d ≠ a := by rintro rfl; rw [(X1.N _ (.head _)).1] at ha; cases ha
  have X2 := (X1.add k2 ha ha2).sub (nw' := [(d, o)] ++ [(a, PySem.W.listOf vs.toArray k)]) (by
    intro p hp
    rcases List.mem_cons.mp hp with rfl | hp
    · exact .tail _ (.head _)
    · rcases List.mem_singleton.mp hp with rfl
      exact .head _)
  clear X1 X
  refine it_list (by exact hh) X2 (by intro p hp; rcases List.mem_singleton.mp hp with rfl; exact hda) (fun s' => s' = s) rfl (LdJ w x d) ⟨o, [], rfl, rfl, hsd, .nil⟩ ?_ ?_
  · rintro i v I oI m nw s' h3 tk3 hiv rfl ⟨o3, kvs, hm1, rfl, hsd3, hdk⟩ hap hcls hdat X3
    obtain ⟨l, tl, hl, rfl⟩ := hvs.idx (by simpa using hiv)
    have hll := il2 l (List.mem_of_getElem? hl)
    have hls := isn l (List.mem_of_getElem? hl)
    have hkl : kvs.length ≤ 1000 := by
      have := fold_len ((itemsL x).take i) []
      rw [← hdk.length] at this
      simp at this; omega
    have hfs := fold_snoc hl
    have hstl := stp_le l
    simp only [List.cons_append, List.nil_append] at X3
    have hU : ∀ p ∈ [(I, oI), (a, PySem.W.listOf vs.toArray k)], p.1 ≠ d := fun p hp => (hap _ (.head _) p hp).symm
    clear X2 MARK
    by_cases hp : ix 61 l < l.length
    · have e1 : fnd 61 l 0 = (ix 61 l : Int) := by rw [fnd_0, if_pos hp]
      have hpr : pairL l = if stp (l.take (ix 61 l)) = [] then none
        else if (stp (l.take (ix 61 l))).getD ((stp (l.take (ix 61 l))).length - 1) 0 = 42 then
          some ((stp (l.take (ix 61 l))).take ((stp (l.take (ix 61 l))).length - 1), some (readL (csL (stp (l.drop (ix 61 l + 1))))))
        else some (stp (l.take (ix 61 l)), some (readL (stp (l.drop (ix 61 l + 1))))) := by unfold pairL; rw [if_pos hp]
      have hsV : Sound (stp (l.drop (ix 61 l + 1))) := (hls.at hp (by rw [ix_at 61 l hp]; simp [sep])).2.stp
      have hz1 := stp_le (l.take (ix 61 l))
      have hz2 := stp_le (l.drop (ix 61 l + 1))
      obtain ⟨K, hK⟩ : ∃ K, stp (l.take (ix 61 l)) = K := ⟨_, rfl⟩
      obtain ⟨V, hV⟩ : ∃ V, stp (l.drop (ix 61 l + 1)) = V := ⟨_, rfl⟩
      simp only [hK, hV] at hpr hsV hz1 hz2
      have c1 := cut_n1 hp
      have c2 := cut_to (x := l) (p := ix 61 l) (by omega)
      have c3 := cut_last K
      have c4 := cut_butlast K
      have hl1 : (l.take (ix 61 l)).length ≤ 500 := by simp; omega
      have hl2 : (l.drop (ix 61 l + 1)).length ≤ 500 := by simp; omega
      have hVc := csL_le hsV
      have MARK : True := trivial
      repeat' (walk_at "s")
      · -- an empty name
        have hk0 : K = [] := by rw [← lit_nil]; assumption
        refine' fe_cont (nw' := [(d, o3)]) ?zX1 rfl hap ?zJ1
        case zX1 => assumption
        refine ⟨o3, kvs, hm1, rfl, hsd3, ?_⟩
        rw [hfs]; unfold putL; rw [hpr, if_pos hk0]; exact hdk
      · have hk0 : ¬ K = [] := by rw [← lit_nil]; assumption
        have hst : K.getD (K.length - 1) 0 = 42 := by rw [← drop_last hk0, ← lit_star]; assumption
        have X5 := (‹Cx w h L (upd (upd (upd (upd (upd _ _ _) _ _) _ _) _ _) _ _) _ _› : Cx w h L _ _ _)
        refine' law_charset_spec ?yw ?yh ?yd ?yu ?yx ?ys ?yr ?yH
        case yw => exact X5.wd
        case yh => exact hh
        case yd => rw [dd]; omega
        case yu => rw [Around.deeper_units]; omega
        case yx => omega
        case ys => exact hsV
        case yr => exact fun p q C => hsV.rest C
        intro h6 tk6 t6 k6
        have X6 := X5.more k6
        clear MARK
        have MARK : True := trivial
        repeat' (walk_at "s")
        have X7 := (‹Cx w h L (upd (upd (upd (upd (upd (upd _ _ _) _ _) _ _) _ _) _ _) _ _) _ _› : Cx w h L _ _ _)
        refine law_read_spec X7.wd (by rw [dd]; omega) (by omega) fun h8 tk8 t8 k8 => ?_
        have X8 := X7.more k8
        clear MARK
        have MARK : True := trivial
        repeat' (walk_at "s")
        refine' fe_next (nw' := [(d, _)]) ?zX2 rfl ?zA2 ?zJ2
        case zX2 => assumption
        case zA2 => exact apart_left hap rfl
        refine ⟨_, _, hm1, rfl, ‹SD w _ (stored _ _ _)›, ?_⟩
        rw [hfs]; unfold putL; rw [hpr, if_neg hk0, if_pos hst]
        exact hdk.store (ov := some _) ⟨_, rfl⟩ _
      · have hk0 : ¬ K = [] := by rw [← lit_nil]; assumption
        have hst : ¬ K.getD (K.length - 1) 0 = 42 := by rw [← drop_last hk0, ← lit_star]; assumption
        have X5 := (‹Cx w h L (upd (upd (upd (upd _ _ _) _ _) _ _) _ _) _ _› : Cx w h L _ _ _)
        refine law_read_spec X5.wd (by rw [dd]; omega) (by omega) fun h8 tk8 t8 k8 => ?_
        have X8 := X5.more k8
        clear MARK
        have MARK : True := trivial
        repeat' (walk_at "s")
        refine' fe_next (nw' := [(d, _)]) ?zX3 rfl ?zA3 ?zJ3
        case zX3 => assumption
        case zA3 => exact apart_left hap rfl
        refine ⟨_, _, hm1, rfl, ‹SD w _ (stored _ _ _)›, ?_⟩
        rw [hfs]; unfold putL; rw [hpr, if_neg hk0, if_neg hst]
        exact hdk.store (ov := some _) ⟨_, rfl⟩ _
    · have e1 : fnd 61 l 0 = -1 := by rw [fnd_0, if_neg hp]
      have hpr : pairL l = if stp l = [] then none else some (stp l, none) := by unfold pairL; rw [if_neg hp]
      have MARK : True := trivial
      repeat' (walk_at "s")
      · have hk0 : stp l = [] := by rw [← lit_nil]; assumption
        refine' fe_cont (nw' := [(d, o3)]) ?zX4 rfl hap ?zJ4
        case zX4 => assumption
        refine ⟨o3, kvs, hm1, rfl, hsd3, ?_⟩
        rw [hfs]; unfold putL; rw [hpr, if_pos hk0]; exact hdk
      · have hk0 : ¬ stp l = [] := by rw [← lit_nil]; assumption
        refine' fe_cont (nw' := [(d, _)]) ?zX5 rfl ?zA5 ?zJ5
        case zX5 => assumption
        case zA5 => exact apart_left hap rfl
        refine ⟨_, _, hm1, rfl, ‹SD w _ (stored _ _ _)›, ?_⟩
        rw [hfs]; unfold putL; rw [hpr, if_neg hk0]
        exact hdk.store (ov := Option.none) rfl _
  · rintro m nw s' h3 tk3 rfl ⟨o3, kvs, hm1, rfl, hsd3, hdk⟩ X3
    rw [List.take_of_length_le (by simp [hvl])] at hdk
    clear MARK
    have MARK : True := trivial
    repeat' (walk_at "s")
    refine H _ _ _ kvs X3.F.keep (X3.N _ (.head _)).2.2 hlo (X3.dict (.head _) hsd3) hdk
end Mine
end
section
open PySem PySem.W PySem.Calls PyProof.Rows PyProof PyProof.V
set_option Elab.async false
set_option maxRecDepth 100000
set_option maxHeartbeats 2000000
set_option autoImplicit false
namespace Mine
section
variable {w : World} {A : Around} {E : Value → Shared → Prop} {s : Shared}
theorem hash_none {Q : Int → Shared → Prop} (h : Q 0xFCA86420 { s with toks := s.toks + 1 }) : wpAny (model pg w) A (pyHash .none) Q E s := by
  show wpAny _ _ (pyHashByItsType .none) _ _ _
  unfold pyHashByItsType
  have hv : [Value.none].any Value.onHeap = false := rfl
  refine wpAny_bind ?_
  rw [cRoomFor, if_neg (by rw [hv]; exact Bool.false_ne_true)]; refine wpAny_pure ?_
  refine wpAny_bind (wpAny_specialOf (T := "NoneType") rfl F.slot_NoneType_hash.lookup ?_)
  show wpAny _ _ (if (some (Value.builtin "NoneType.__hash__") == some Value.none) = true then _ else _) Q E s
  rw [if_neg (by rw [beq_builtin_none]; exact Bool.false_ne_true)]
  refine wpAny_bind (wpAny_specialOf (T := "NoneType") rfl F.slot_NoneType_hash.lookup ?_)
  show wpAny _ _ (callSpecialIfBoundUnlessNone? .none "__hash__" _ >>= _) Q E s
  refine wpAny_bind (wpAny_callSpecialIfBoundUnlessNone?_slot (T := "NoneType") rfl F.slot_NoneType_hash
    (wpAny_call_entry F.slot_NoneType_hash rfl F.entry_NoneType_hash
      (show wpAny _ _ (do ret (← mkInt 0xFCA86420)) _ _ s from wpAny_ret_mkInt ?_) (F.args_NoneType_hash_1 _)))
  show wpAny _ _ (if (decide (-(2 : Int) ^ 63 ≤ 0xFCA86420) && decide ((0xFCA86420 : Int) < 2 ^ 63)) = true then _ else _) Q E _
  rw [if_pos (by decide)]
  exact wpAny_pure h
end
/-- none or a text -/
def isOpt : Option Str → Value → Bool
  | none, .none => true
  | some x, v => Value.isStrOf x v
  | _, _ => false
theorem isOpt_shape {k : Option Str} {v : Value} (h : isOpt k v = true) : (k = none ∧ v = .none) ∨ ∃ x t, k = some x ∧ v = .str x t := by
  cases k with
  | none => cases v <;> first | exact .inl ⟨rfl, rfl⟩ | cases h
  | some x => obtain ⟨t, rfl⟩ := Value.isStrOf_shape (h : Value.isStrOf x v = true); exact .inr ⟨x, t, rfl, rfl⟩
def optKind (w : World) : KeyKind pg w (Option Str) where
  is := isOpt
  hash := fun k => match k with | none => 0xFCA86420 | some x => hashStr w x
  inj := by
    intro v a b h1 h2
    rcases isOpt_shape h1 with ⟨rfl, rfl⟩ | ⟨x, t, rfl, rfl⟩
    · rcases isOpt_shape h2 with ⟨rfl, _⟩ | ⟨x, t, _, e⟩
      · rfl
      · cases e
    · rcases isOpt_shape h2 with ⟨_, e⟩ | ⟨y, u, rfl, e⟩
      · cases e
      · cases e; rfl
  byValue := by
    intro k v h
    rcases isOpt_shape h with ⟨rfl, rfl⟩ | ⟨x, t, rfl, rfl⟩ <;> rfl
  pyHash := by
    intro A E s k v Q h hq
    rcases isOpt_shape h with ⟨rfl, rfl⟩ | ⟨x, t, rfl, rfl⟩
    · exact hash_none hq
    · exact wpAny_pyHash_str hq
  eqBool := by
    intro A E s a b u v Q h1 h2 hq
    rcases isOpt_shape h1 with ⟨rfl, rfl⟩ | ⟨x, t, rfl, rfl⟩
    · rcases isOpt_shape h2 with ⟨rfl, rfl⟩ | ⟨y, u, rfl, rfl⟩
      · unfold PySem.eqBool
        refine wpAny_holding ?_
        refine wpAny_ite_split (fun _ => ?_) (fun hn => absurd rfl hn)
        exact wpAny_bind (wpAny_rule (wpAny_pure (by simpa using hq)))
      · exact SeqAt.EqAt.none_str y u pg w E Q (by simpa using hq)
    · rcases isOpt_shape h2 with ⟨rfl, rfl⟩ | ⟨y, u, rfl, rfl⟩
      · exact SeqAt.EqAt.str_none x t pg w E Q (by simpa using hq)
      · exact wpAny_eqBool_str (by simpa using hq)
  «strs» := by
    intro k x t v h
    rcases isOpt_shape h with ⟨_, e⟩ | ⟨y, u, rfl, e⟩
    · cases e
    · cases e
      exact (strKind pg w).«strs» x x t v h
section
variable {w : World} {A : Around} {E : Value → Shared → Prop} {s : Shared} {h g : Heap} {tk : Nat} {L : Addr} {m : Str → Option Value} {nw : List (Addr × Obj)} {env : Env}
theorem opt_str (x : Str) (t : Tok) : isOpt (some x) (.str x t) = true := by show Value.isStrOf x (.str x t) = true; simp [Value.isStrOf]
theorem kd_add {S' : Option Str → Bool} {n : Nat} {k : Option Str} {key : Value} {sa : Addr} {so : Obj} {Q : Bool → Shared → Prop} (X : Cx w g L m ((sa, so) :: nw) h) (ha : ∀ p ∈ nw, p.1 ≠ sa) (hso : so.SetObjOf (optKind w) S' n) (hb : n + 1 < 100) (hkey : isOpt k key = true) (hsc : key.scannable = true)
    (H : ∀ b h' so' tk', Cx w g L m ((sa, so') :: nw) h' → so'.SetObjOf (optKind w) (fun k' => S' k' || decide (k' = k)) (if S' k then n else n + 1) → Q b (st s h' tk')) :
    wpAny (model pg w) A (setAdd sa key) Q E (st s h tk) :=
  kds_add (s := st s h tk) (knd := optKind w) X.F X.N (.head ha) hso (Nat.lt_trans hb (by decide)) hkey hsc fun h' so' F' N' q => H _ h' so' _ ⟨X.W, F', N'⟩ q
theorem kd_unled {S' : Option Str → Bool} {n : Nat} {sa : Addr} {so : Obj} {Q : Unit → Shared → Prop} (X : Cx w g L m ((sa, so) :: nw) h) (ha : ∀ p ∈ nw, p.1 ≠ sa) (hso : so.SetObjOf (optKind w) S' n) (hb : n < 100)
    (H : ∀ h' so' tk', Cx w g L m ((sa, so') :: nw) h' → so'.SetObjOf (optKind w) S' n → Q () (st s h' tk')) : wpAny (model pg w) A (setUnled sa) Q E (st s h tk) :=
  kds_unled (s := st s h tk) (knd := optKind w) X.F X.N (.head ha) hso (Nat.lt_trans hb (by decide)) fun h' so' F' N' q => H h' so' _ ⟨X.W, F', N'⟩ q
def inEncs : Option (List Nat) → Bool
  | none => false
  | some l => decide (l ∈ encs)
theorem set_encs {k1 k2 k3 k4 : Nat} {p1 p2 p3 p4 pos : Pos} {v : Value} {ov : Option (List Nat)} {Q : Bool → Shared → Prop} (X : Cx w g L m nw h) (hc : kdsCode (hd.heap_39 w.params) env.code = true) (hv : VR v ov)
    (H : ∀ h' tk', Cx w g L m nw h' → Q (inEncs ov) (st s h' tk')) :
    wpAny (model pg w) A (eval (.Set [.Constant (.str (Str.ofString "ascii")) k1 p1, .Constant (.str (Str.ofString "us-ascii")) k2 p2, .Constant (.str (Str.ofString "utf-8")) k3 p3, .Constant (.str (Str.ofString "iso-8859-1")) k4 p4] 0 pos) env)
      (fun b s₂ => KdiMark (model pg w) A E b (fun s₃ => wpAny (model pg w) A (compareOp .In v b) (fun c s₄ => wpAny (model pg w) A (truthy c) Q E s₄) E s₃) s₂) E (st s h tk) := by
  refine kds_eval (s := st s h tk) X.F X.N X.W.K hc (by first | rfl | decide) (by rfl) (by show 4 ≤ 30; omega) fun D h1 led F1 N1 hap _ _ => ?_
  have ha : ∀ p ∈ nw, p.1 ≠ D := fun p hp => Nat.ne_of_lt (hap p hp)
  have X1 : Cx w g L m ((D, _) :: nw) h1 := ⟨X.W, F1, N1⟩
  have z1 := setObjOf_fresh (knd := optKind w) led
  dsimp only [KdsAll]
  refine r_str fun t1 tk1 => r_str fun t2 tk2 => r_str fun t3 tk3 => r_str fun t4 tk4 => ?_
  refine kds_fill_cons (kd_add (k := some (S (lit "ascii"))) X1 ha z1 (by omega) (opt_str _ _) rfl fun b2 h2 so2 tk2 X2 z2 => ?_)
  refine kds_fill_cons (kd_add (k := some (S (lit "us-ascii"))) X2 ha z2 (by split <;> omega) (opt_str _ _) rfl fun b3 h3 so3 tk3 X3 z3 => ?_)
  refine kds_fill_cons (kd_add (k := some (S (lit "utf-8"))) X3 ha z3 (by repeat' split
                                                                          all_goals omega) (opt_str _ _) rfl fun b4 h4 so4 tk4 X4 z4 => ?_)
  refine kds_fill_cons (kd_add (k := some (S (lit "iso-8859-1"))) X4 ha z4 (by repeat' split
                                                                               all_goals omega) (opt_str _ _) rfl fun b5 h5 so5 tk5 X5 z5 => ?_)
  refine kds_fill_unled (by first | rfl | decide) (kd_unled X5 ha z5 (by repeat' split
                                                                         all_goals omega) fun h6 so6 tk6 X6 z6 => ?_)
  refine kdi_mark (kd_unled X6 ha z6 (by repeat' split
                                         all_goals omega) fun h7 so7 tk7 X7 z7 => ?_)
  have hfin : ∀ tk', Q (inEncs ov) (st s h7 tk') := fun tk' => H h7 tk' ⟨X.W, X7.F, fun p hp => X7.N p (.tail _ hp)⟩
  have hcount := z7
  obtain ⟨k, hk, hsc, hS⟩ : ∃ k : Option Str, isOpt k v = true ∧ v.scannable = true ∧ ((((false || decide (k = some (S (lit "ascii")))) || decide (k = some (S (lit "us-ascii")))) || decide (k = some (S (lit "utf-8")))) || decide (k = some (S (lit "iso-8859-1")))) = inEncs ov := by
    cases ov with
    | none => have hv : v = .none := hv; subst hv; exact ⟨none, rfl, rfl, by simp [inEncs]⟩
    | some l =>
      obtain ⟨t, rfl⟩ := hv
      refine ⟨some (S l), opt_str _ _, rfl, ?_⟩
      simp only [Option.some.injEq, S_inj, inEncs, encs, List.mem_cons, List.not_mem_nil, or_false, Bool.false_or]
      rw [Bool.eq_iff_iff]
      simp only [Bool.or_eq_true, decide_eq_true_eq]
      constructor
      · rintro (((h | h) | h) | h)
        · exact .inr (.inr (.inr h))
        · exact .inr (.inr (.inl h))
        · exact .inl h
        · exact .inr (.inl h)
      · rintro (h | h | h | h)
        · exact .inl (.inr h)
        · exact .inr h
        · exact .inl (.inl (.inr h))
        · exact .inl (.inl (.inl h))
  refine kse_in (s := st s h7 tk7) (knd := optKind w) X7.N (.head ha) z7 ?_ hk hsc ?_
  · repeat' split
    all_goals decide
  · rw [hS]
    exact wpAny_truthy_bool (hfin _)
theorem t_encs {x : Str} {px p1 p2 p3 p4 pos pos' : Pos} {k1 k2 k3 k4 : Nat} {whole : Sem Value} {v : Value} {ov : Option (List Nat)} {Q : Bool → Shared → Prop} (X : Cx w g L m nw h) (hl : env.kindOf x = some .local) (hk : env.scope.kind = .function) (hn : h.Ns env.locals m) (hm : m x = some v)
    (hc : kdsCode (hd.heap_39 w.params) env.code = true) (hv : VR v ov) (hdb : (x == ("__debug__" : Str)) = false)
    (H : ∀ h' tk', Cx w g L m nw h' → Q (inEncs ov) (st s h' tk')) :
    wpAny (model pg w) A (isTrue (.Compare (.Name x px) [.In] [.Set [.Constant (.str (Str.ofString "ascii")) k1 p1, .Constant (.str (Str.ofString "us-ascii")) k2 p2, .Constant (.str (Str.ofString "utf-8")) k3 p3, .Constant (.str (Str.ofString "iso-8859-1")) k4 p4] 0 pos] pos') env whole) Q E (st s h tk) := by
  refine kdi_test (by rfl) ?_
  exact r_name hl hk hn hm (set_encs X hc hv H) hdb
end
end Mine
end
section
open PySem PySem.W PySem.Calls PyProof.Rows PyProof PyProof.V
set_option Elab.async false
set_option maxRecDepth 100000
set_option maxHeartbeats 2000000
set_option autoImplicit false
namespace Mine
/-- the tables' ledger, each further object a code -/
def TabX (g : Heap) (T : List (Addr × Obj)) : Prop := TabL g T ∧ ∀ p ∈ T, p.1 = 52 ∨ p.1 = 59 ∨ ∃ vs qq t, p.2.data = .fields vs ∧ vs[1]? = some (.str qq t)
theorem TabX.of {g : Heap} {ps1 ps2 : Array Value} (t : TG g ps1 ps2) : TabX g [(52, tabObj ps1), (59, tabObj ps2)] :=
  ⟨TabL.of t, fun p hp => by
    rcases List.mem_cons.mp hp with rfl | hp
    · exact .inl rfl
    · rcases List.mem_singleton.mp hp with rfl
      exact .inr (.inl rfl)⟩
section
variable {w : World} {A : Around} {E : Value → Shared → Prop} {s : Shared} {h g : Heap} {tk : Nat} {L : Addr} {m : Str → Option Value} {nw : List (Addr × Obj)} {env : Env}
theorem Cx.back2 {pre T : List (Addr × Obj)} {h' : Heap} (X : Cx w g L m (pre ++ T) h) (t : TabL g T) (hp' : ∀ q ∈ pre, q.1 ≠ 52 ∧ q.1 ≠ 59) (k : Kp h h') (T' : Tb h') :
    ∃ T', TabX g T' ∧ Cx w g L m (pre ++ T') h' := by
  obtain ⟨ps1, ps2, C, rfl, hC, t1, t2⟩ := t
  have n1 := (X.N (52, tabObj ps1) (List.mem_append_right _ (.head _)))
  have n2 := (X.N (59, tabObj ps2) (List.mem_append_right _ (.tail _ (.head _))))
  obtain ⟨⟨qs1, e1, u1⟩, ⟨qs2, e2, u2⟩⟩ := T'
  have hns : h'.Ns L m := by
    obtain ⟨o, es, ep, e, r⟩ := X.F.ns
    exact ⟨o, es, ep, k _ _ n1.2.1.symm n2.2.1.symm e, r⟩
  have hkeep : ∀ b o, g.get? b = some o → h'.get? b = some o := fun b o e => k b o (by rintro rfl; rw [n1.2.2] at e; cases e) (by rintro rfl; rw [n2.2.2] at e; cases e) (X.F.keep b o e)
  have one : ∀ c q, h'.CodeRec (.ref c) q → g.CodeRec (.ref c) q ∨ ∃ oc vs t, g.get? c = none ∧ h'.get? c = some oc ∧ oc.data = .fields vs ∧ vs[1]? = some (.str q t) := by
    intro c q ⟨c', oc, vs, t, e0, e1, e2, e3⟩
    cases e0
    cases e : g.get? c with
    | some o =>
      have := hkeep _ _ e
      rw [e1] at this; cases this
      exact .inl ⟨c, oc, vs, t, rfl, e, e2, e3⟩
    | none => exact .inr ⟨oc, vs, t, rfl, e1, e2, e3⟩
  have pick : ∀ (q : Str) (l k : Nat) (ps : Array Value), TOk (fun c' => h'.CodeRec (.ref c') q) l k ps → ∃ C : List (Addr × Obj), (∀ p ∈ C, (∃ vs qq t, p.2.data = .fields vs ∧ vs[1]? = some (.str qq t)) ∧ g.get? p.1 = none ∧ h'.get? p.1 = some p.2) ∧
      TOk (fun c' => g.CodeRec (.ref c') q ∨ ∃ oc vs t, (c', oc) ∈ C ∧ oc.data = .fields vs ∧ vs[1]? = some (.str q t)) l k ps := by
    intro q l k ps hps
    rcases hps with rfl | ⟨c, rfl, r⟩
    · exact ⟨[], fun _ h => (nomatch h), .inl rfl⟩
    · rcases one c q r with r | ⟨oc, vs, t, r1, r2, r3, r4⟩
      · exact ⟨[], fun _ h => (nomatch h), .inr ⟨c, rfl, .inl r⟩⟩
      · refine ⟨[(c, oc)], fun p hp => ?_, .inr ⟨c, rfl, .inr ⟨oc, vs, t, .head _, r3, r4⟩⟩⟩
        rcases List.mem_singleton.mp hp with rfl
        exact ⟨⟨vs, q, t, r3, r4⟩, r1, r2⟩
  obtain ⟨C1, c1, v1⟩ := pick _ _ _ _ u1
  obtain ⟨C2, c2, v2⟩ := pick _ _ _ _ u2
  have hC' : ∀ p ∈ C1 ++ C2, (∃ vs qq t, p.2.data = .fields vs ∧ vs[1]? = some (.str qq t)) ∧ g.get? p.1 = none ∧ h'.get? p.1 = some p.2 := fun p hp => (List.mem_append.mp hp).elim (c1 p) (c2 p)
  refine ⟨_, ⟨⟨qs1, qs2, C1 ++ C2, rfl, fun p hp => let ⟨vs, _, _, a, _⟩ := (hC' p hp).1; ⟨vs, a⟩, v1.imp id fun ⟨c, a, b⟩ => ⟨c, a, b.imp id fun ⟨oc, vs, t, hm, r⟩ => ⟨oc, vs, t, List.mem_append_left _ hm, r⟩⟩,
    v2.imp id fun ⟨c, a, b⟩ => ⟨c, a, b.imp id fun ⟨oc, vs, t, hm, r⟩ => ⟨oc, vs, t, List.mem_append_right _ hm, r⟩⟩⟩, fun p hp => ?_⟩, X.W, ⟨hns, hkeep, X.F.above⟩, fun p hp => ?_⟩
  · rcases List.mem_cons.mp hp with rfl | hp
    · exact .inl rfl
    · rcases List.mem_cons.mp hp with rfl | hp
      · exact .inr (.inl rfl)
      · exact .inr (.inr (hC' p hp).1)
  have pn : ∀ p ∈ pre, h'.get? p.1 = some p.2 ∧ p.1 ≠ L ∧ g.get? p.1 = none := by
    intro p hp
    have n := X.N p (List.mem_append_left _ hp)
    exact ⟨k _ _ (hp' p hp).1 (hp' p hp).2 n.1, n.2⟩
  have hl : ∀ P o vs, h'.get? P = some o → o.data = .fields vs → P ≠ L := by
    rintro P o vs e hd rfl
    obtain ⟨o', es, ep, e', hd', _⟩ := hns
    rw [e] at e'; cases e'; rw [hd] at hd'; cases hd'
  rcases List.mem_append.mp hp with hp | hp
  · exact pn p hp
  · rcases List.mem_cons.mp hp with rfl | hp
    · exact ⟨e1, n1.2⟩
    · rcases List.mem_cons.mp hp with rfl | hp
      · exact ⟨e2, n2.2⟩
      · obtain ⟨⟨vs, _, _, a, _⟩, b, c⟩ := hC' p hp
        exact ⟨c, hl _ _ _ c a, b⟩
/-- an object that came with a call -/
theorem Cx.put {h' : Heap} {D : Addr} {o : Obj} {nw' : List (Addr × Obj)} (X : Cx w g L m nw h) (X' : Cx w g L m nw' h') (hn : h.get? D = none) (e : h'.get? D = some o) : Cx w g L m ((D, o) :: nw') h' := by
  refine ⟨X'.W, X'.F, fun p hp => ?_⟩
  rcases List.mem_cons.mp hp with rfl | hp
  · refine ⟨e, ?_, ?_⟩
    · rintro rfl
      obtain ⟨o', _, _, e', _⟩ := X.F.ns
      rw [hn] at e'; cases e'
    · cases q : g.get? D with
      | none => rfl
      | some o' => rw [X.F.keep _ _ q] at hn; cases hn
  · exact X'.N p hp
/-- a call of a def with one argument and one keyword -/
theorem r_callkw {f : Str} {p pos : Pos} {args : List Expr} {kws : List Keyword} {Q : Value → Shared → Prop}
    (H : wpAny (model pg w) A (eval (.Name f p) env) (fun f s₁ => wpAny (model pg w) A (callWith pos f [] (backTo pos (starEach args env)) (backToKw pos (keywordEach kws env))) Q E s₁) E s) :
    wpAny (model pg w) A (eval (.Call (.Name f p) args kws pos) env) Q E s := wpAny_Call_Name_kw H
theorem c_defkw {pos kp : Pos} {a : Addr} {e ev : Expr} {n : Str} {Q : Value → Shared → Prop} (W : Wd w h) (hk : keepIn (hd.heap_39 w.params) (.ref a) = true)
    (H : wpAny (model pg w) A (eval e env) (fun v s₁ => wpAny (model pg w) A (eval ev env) (fun u s₂ => (hd.heap_39 w.params).In s₂.heap ∧ wpAny (model pg w) A (call (.ref a) [v] [(n, u)]) Q E s₂) E s₁) E (st s h tk))
    (he : starEach [e] env = (false, eval e env) :: starEach [] env := by k_dflt rfl) :
    wpAny (model pg w) A (callWith pos (.ref a) [] (backTo pos (starEach [e] env)) (backToKw pos (keywordEach [⟨some n, ev, kp⟩] env))) Q E (st s h tk) := by
  refine callWith_KW W.K hk rfl ?_ (by rw [he]; rfl) he
  refine spliced_more (wpAny_mono H (fun v s₁ q => ?_) fun _ _ e => e) he
  refine spliced_none ?_
  exact kws_cons (wpAny_mono q (fun u s₂ q2 => kws_nil q2) fun _ _ e => e)
theorem r_named {x : Str} {px pos : Pos} {value : Expr} {Q : Value → Shared → Prop}
    (H : wpAny (model pg w) A (eval value env) (fun v s₁ => wpAny (model pg w) A (storeName env x v) (fun _ s₂ => Q v s₂) E s₁) E s) :
    wpAny (model pg w) A (eval (.NamedExpr (.Name x px) value pos) env) Q E s :=
  wpAny_NamedExpr (wpAny_mono H (fun _ _ q => wpAny_assign_Name q) fun _ _ e => e)
theorem q_isn {Q : Value → Shared → Prop} (H : Q (.bool false) s) : wpAny (model pg w) A (compareOp .IsNot .none .none) Q E s := wpAny_isNot_self rfl H
theorem q_isnr {a : Addr} {Q : Value → Shared → Prop} (H : Q (.bool true) s) : wpAny (model pg w) A (compareOp .IsNot (.ref a) .none) Q E s := wpAny_isNot_other rfl (by intro q; cases q) H
end
theorem readGo_mem : ∀ (n : Nat) (l : List Nat), l.length ≤ n → ∀ c ∈ readGo l, c ∈ l := by
  intro n
  induction n with
  | zero => intro l hl c hc; rw [List.eq_nil_of_length_eq_zero (Nat.le_zero.mp hl)] at hc; cases hc
  | succ n ih =>
    intro l hl c hc
    cases l with
    | nil => cases hc
    | cons d r =>
      rw [readGo.eq_def] at hc
      dsimp only at hc
      simp at hl
      split at hc
      · split at hc
        · exact hc
        · rename_i e r'
          rcases List.mem_cons.mp hc with rfl | hc
          · exact .tail _ (.head _)
          · simp at hl; exact .tail _ (.tail _ (ih r' (by omega) c hc))
      · rcases List.mem_cons.mp hc with rfl | hc
        · exact .head _
        · exact .tail _ (ih r (by omega) c hc)
theorem readL_mem {l : List Nat} {c : Nat} (h : c ∈ readL l) : c ∈ l := by
  unfold readL at h
  split at h
  · exact List.mem_of_mem_take (List.mem_of_mem_drop (readGo_mem _ _ (Nat.le_refl _) c h))
  · exact h
theorem items_mem {x l : List Nat} {c : Nat} (h : l ∈ itemsL x) (hc : c ∈ l) : c ∈ x := by
  unfold itemsL at h
  split at h
  · cases h
  · rename_i cs e
    obtain ⟨p, hp, rfl⟩ := List.mem_map.mp h
    rcases go_mem _ _ _ _ e p (List.mem_filter.mp hp).1 c (stp_mem (readL_mem hc)) with q | q
    · cases q
    · exact q
theorem colF_10 (enc : List Nat) (j c : Nat) (h : c ∈ colF enc j) : c ≠ 10 := by
  have : ∀ f ∈ [fU, fL, fA], ∀ c ∈ f j, c ≠ 10 := by
    intro f hf
    simp only [List.mem_cons, List.not_mem_nil, or_false] at hf
    by_cases hj : j < 4
    · have : j = 0 ∨ j = 1 ∨ j = 2 ∨ j = 3 := by omega
      rcases hf with rfl | rfl | rfl <;> rcases this with rfl | rfl | rfl | rfl <;> decide
    · rcases hf with rfl | rfl | rfl
      · unfold fU; rw [List.getD_eq_getElem?_getD, List.getElem?_eq_none (by simp; omega)]; decide
      · unfold fL; rw [List.getD_eq_getElem?_getD, List.getElem?_eq_none (by simp; omega)]; decide
      · unfold fA; rw [List.getD_eq_getElem?_getD, List.getElem?_eq_none (by simp; omega)]; decide
  unfold colF at h
  split at h
  · exact this _ (by simp) c h
  · split at h
    · exact this _ (by simp) c h
    · exact this _ (by simp) c h
theorem dcd_10 {f : Nat → List Nat} (hf : ∀ j, ∀ c ∈ f j, c ≠ 10) {x : List Nat} (hs : Sound x) (hn : ∀ c ∈ x, c ≠ 10) : ∀ c ∈ dcd f x, c ≠ 10 := by
  induction hs with
  | nil => intro c hc; cases hc
  | ch h1 _ _ ih =>
    intro c hc
    rw [dcd_ch _ h1] at hc
    rcases List.mem_cons.mp hc with rfl | hc
    · exact hn _ (.head _)
    · exact ih (fun d hd => hn d (.tail _ hd)) c hc
  | s0 _ ih => intro c hc; rw [dcd] at hc; rcases List.mem_append.mp hc with hc | hc; exact hf 0 c hc; exact ih (fun d hd => hn d (by simp [hd])) c hc
  | s1 _ ih => intro c hc; rw [dcd] at hc; rcases List.mem_append.mp hc with hc | hc; exact hf 1 c hc; exact ih (fun d hd => hn d (by simp [hd])) c hc
  | s2 _ ih => intro c hc; rw [dcd] at hc; rcases List.mem_append.mp hc with hc | hc; exact hf 2 c hc; exact ih (fun d hd => hn d (by simp [hd])) c hc
  | s3 _ ih => intro c hc; rw [dcd] at hc; rcases List.mem_append.mp hc with hc | hc; exact hf 3 c hc; exact ih (fun d hd => hn d (by simp [hd])) c hc
theorem csL_10 {v : List Nat} (hs : Sound v) (hn : ∀ c ∈ v, c ≠ 10) : ∀ c ∈ csL v, c ≠ 10 := by
  by_cases hc : ∃ p q, Cond v.toArray v.length p q
  · obtain ⟨p, q, C⟩ := hc
    rw [csL_hit C]
    unfold decL
    have hd : ∀ c ∈ v.drop (q + 1), c ≠ 10 := fun c h => hn c (List.mem_of_mem_drop h)
    split
    · exact dcd_10 (colF_10 _) (hs.rest C) hd
    · exact hd
  · rw [csL_miss fun p q C => hc ⟨p, q, C⟩]; exact hn
theorem cut_m1 (K : List Nat) : cut K none (some (-1)) = K.take (K.length - 1) := by
  unfold cut clipN
  dsimp only
  rw [List.drop_zero]
  congr 1
  split <;> omega
/-- a table's entry is another object -/
theorem TabX.ne {w : World} {g h : Heap} {L a : Addr} {m : Str → Option Value} {nw T : List (Addr × Obj)} {o : Obj} (t : TabX g T) (X : Cx w g L m nw h) (hT : ∀ p ∈ T, p ∈ nw) (ha : h.get? a = some o) (h52 : a ≠ 52) (h59 : a ≠ 59)
    (hd : ∀ vs qq t, o.data = .fields vs → vs[1]? ≠ some (.str qq t)) : ∀ p ∈ T, p.1 ≠ a := by
  intro p hp q
  rcases t.2 p hp with e | e | ⟨vs, qq, t, e1, e2⟩
  · exact h52 (q ▸ e)
  · exact h59 (q ▸ e)
  · have := (X.N p (hT p hp)).1
    rw [q, ha] at this
    cases this
    exact hd vs qq t e1 e2
end Mine
end
section
open PySem PySem.W PySem.Calls PyProof.Rows PyProof PyProof.V
set_option Elab.async false
set_option maxRecDepth 100000
set_option maxHeartbeats 4000000
set_option autoImplicit false
namespace Mine
local macro_rules | `(tactic| walk_at "m") => `(tactic| first | exact .head _ | exact .tail _ (.head _) | exact .tail _ (.tail _ (.head _)) | exact .tail _ (.tail _ (.tail _ (.head _))) | exact .tail _ (.tail _ (.tail _ (.tail _ (.head _)))) | exact .tail _ (.tail _ (.tail _ (.tail _ (.tail _ (.head _))))) | exact .tail _ (.tail _ (.tail _ (.tail _ (.tail _ (.tail _ (.head _)))))) | exact .tail _ (.tail _ (.tail _ (.tail _ (.tail _ (.tail _ (.tail _ (.head _))))))) | exact .tail _ (.tail _ (.tail _ (.tail _ (.tail _ (.tail _ (.tail _ (.tail _ (.head _)))))))) | exact .tail _ (.tail _ (.tail _ (.tail _ (.tail _ (.tail _ (.tail _ (.tail _ (.tail _ (.head _))))))))))
local macro_rules | `(tactic| walk_at "n") => `(tactic| first
  | (refine' r_name ?l ?k ?n ?v ?_ ?b; (case l => k_dflt rfl); (case k => k_dflt rfl); (case n => k_dflt (first | exact Cx.ns (by assumption) | exact Ck.ns (by assumption))); (case v => k_dflt (first | rfl | assumption)); (case b => k_dflt decide))
  | (refine' r_glob ?l ?k ?g ?e ?w ?_ ?b; (case l => k_dflt rfl); (case k => k_dflt rfl); (case g => k_dflt rfl); (case e => first | exact gl_read _ | exact gl_items _ | exact gl_decoded _ | exact gl_charset _ | exact gl_dict _ | exact gl_text _ | exact gl_unquote _ | exact gl_unslash _ | exact gl_uhv _ | exact gl_plh _ | exact gl_pdh _ | exact gl_cvre _ | exact gl_pieces _ | exact gl_stretches _ | exact gl_charsets _ | assumption); (case w => first | exact Cx.wd (by assumption) | exact Ck.wd (by assumption) | assumption); (case b => k_dflt decide))
  | (refine' r_bi ?l ?k ?g ?h (gl_len _) bb_len ?n ?w ?_ ?b; (case l => k_dflt rfl); (case k => k_dflt rfl); (case g => k_dflt rfl); (case h => k_dflt rfl); (case n => k_dflt decide); (case w => first | exact Cx.wd (by assumption) | exact Ck.wd (by assumption) | assumption); (case b => k_dflt decide))
  | (refine' r_bi ?l ?k ?g ?h (gl_ord _) bb_ord ?n ?w ?_ ?b; (case l => k_dflt rfl); (case k => k_dflt rfl); (case g => k_dflt rfl); (case h => k_dflt rfl); (case n => k_dflt decide); (case w => first | exact Cx.wd (by assumption) | exact Ck.wd (by assumption) | assumption); (case b => k_dflt decide))
  | (refine' r_bi ?l ?k ?g ?h (gl_int _) bb_int ?n ?w ?_ ?b; (case l => k_dflt rfl); (case k => k_dflt rfl); (case g => k_dflt rfl); (case h => k_dflt rfl); (case n => k_dflt decide); (case w => first | exact Cx.wd (by assumption) | exact Ck.wd (by assumption) | assumption); (case b => k_dflt decide))
  | (refine' r_bi ?l ?k ?g ?h (gl_bytes _) bb_bytes ?n ?w ?_ ?b; (case l => k_dflt rfl); (case k => k_dflt rfl); (case g => k_dflt rfl); (case h => k_dflt rfl); (case n => k_dflt decide); (case w => first | exact Cx.wd (by assumption) | exact Ck.wd (by assumption) | assumption); (case b => k_dflt decide))
  | (refine' r_bi ?l ?k ?g ?h (gl_list _) bb_list ?n ?w ?_ ?b; (case l => k_dflt rfl); (case k => k_dflt rfl); (case g => k_dflt rfl); (case h => k_dflt rfl); (case n => k_dflt decide); (case w => first | exact Cx.wd (by assumption) | exact Ck.wd (by assumption) | assumption); (case b => k_dflt decide))
  | (refine' r_nameC ?l ?k ?c ?v ?_ ?b; (case l => k_dflt rfl); (case k => k_dflt rfl); (case c => k_dflt rfl); (case v => k_dflt (first | exact Ck.cell (by assumption) (by assumption) | exact Cx.cell (by assumption) (by walk_at "m") (by assumption))); (case b => k_dflt decide)))
local macro_rules | `(tactic| walk_at "s") => `(tactic| (with_reducible first
  | (refine' x_snE ?x ?e ?_ ?z ?c ?d; (case x => assumption); (case e => assumption); (case z => omega); (case c => intro _; k_dflt rfl); (case d => intro _; k_dflt rfl); intro _ _ _ _)
  | (refine' x_nsE ?x ?e ?_ ?z ?c ?d; (case x => assumption); (case e => assumption); (case z => omega); (case c => intro _; k_dflt rfl); (case d => intro _; k_dflt rfl); intro _ _ _ _)
  | (refine' m_stripE ?e ?z ?_; (case e => assumption); (case z => omega); intro _ _)
  | (refine' br_dT ?h ?_; (case h => (first | assumption | omega | rfl | exact List.cons_ne_nil _ _)))
  | (refine' br_dF ?h ?_; (case h => (first | assumption | omega | rfl | exact List.cons_ne_nil _ _)))
  | (refine' br_nT ?h ?_; (case h => (first | assumption | omega | rfl | exact List.cons_ne_nil _ _)))
  | (refine' br_nF ?h ?_; (case h => (first | assumption | omega | rfl | exact List.cons_ne_nil _ _)))
  | (refine' br_nnT ?h ?_; (case h => (first | assumption | omega | rfl | exact List.cons_ne_nil _ _)))
  | (refine' br_nnF ?h ?_; (case h => (first | assumption | omega | rfl | exact List.cons_ne_nil _ _)))
  | (refine' r_cons ?_)
  | (refine' r_nil ?_)
  | (refine' r_assign ?_ ?a; (case a => k_dflt rfl))
  | (refine' r_if ?_)
  | (refine' r_ret ?_)
  | (refine' r_continue ?_)
  | (refine' r_aug ?_)
  | (refine' r_store ?x ?_ ?a ?b; (case x => assumption); (case a => k_dflt rfl); (case b => k_dflt rfl); intro _ _ _)
  | ((show wpAny _ _ (eval (Expr.Name _ _) _) _ _ _); walk_at "n")
  | (refine' r_load ?l ?k ?n ?v ?_; (case l => k_dflt rfl); (case k => k_dflt rfl); (case n => k_dflt (first | exact Cx.ns (by assumption) | exact Ck.ns (by assumption))); (case v => k_dflt (first | rfl | assumption)))
  | (refine' r_int ?_; intro _ _)
  | (refine' r_str ?_; intro _ _)
  | (refine' r_bool ?_)
  | (refine' r_none ?_)
  | (refine' r_expr ?_ ?a ?b; (case a => k_dflt rfl); (case b => k_dflt rfl))
  | (refine' and_none ?_)
  | (refine' r_list0 ?x ?_; (case x => assumption); intro _ _ _ _ _)
  | (refine' gm_append ?x ?_; (case x => assumption))
  | (refine' m_append ?x ?e ?z ?_; (case x => assumption); (case e => first | assumption | exact List.forall_mem_nil _); (case z => omega); intro _ _ _)
  | (refine' e_not ?_)
  | (refine' v_str ?z ?_; (case z => (try simp only [List.length_append, List.length_cons, List.length_nil, lit_nil, lit_dq, lit_sq]); omega); intro _)
  | (refine' gm_strip ?_)
  | (refine' m_strip ?z ?_; (case z => omega); intro _ _)
  | (refine' r_binop ?_)
  | (refine' r_cmp ?_ ?a; (case a => k_dflt rfl))
  | (refine' r_ifexp ?_)
  | (refine' t_cmp ?_ ?a; (case a => k_dflt rfl))
  | (refine' t_not ?_)
  | (refine' t_and0 ?_)
  | (refine' t_or0 ?_)
  | (refine' t_and ?_)
  | (refine' t_or ?_)
  | (refine' t_name ?_)
  | (refine' t_call ?_)
  | (refine' v_bool ?_)
  | (refine' r_call ?_ ?a; (case a => k_dflt rfl))
  | (refine' r_mcall ?_ ?a; (case a => exact ⟨_, by k_dflt rfl⟩); intro _)
  | (refine' c_fn ?_ ?a ?b; (case a => k_dflt rfl); (case b => k_dflt rfl))
  | (refine' c_me ?_ ?a ?b; (case a => k_dflt rfl); (case b => k_dflt rfl))
  | (refine' c_bi0 ?_)
  | (refine' sp_more ?_ ?a; (case a => k_dflt rfl))
  | (refine' sp_none ?_)
  | (refine' c_def ?w ?k ?_ ?a ?b; (case w => first | exact Cx.wd (by assumption) | exact Ck.wd (by assumption) | assumption); (case k => first | exact kp_38 _ | exact kp_45 _ | exact kp_57 _ | exact kp_62 _ | exact kp_69 _ | exact kp_82 _ | exact kp_89 _ | exact kp_96 _ | exact kp_101 _ | exact kp_106 _ | exact kp_111 _ | exact kp_118 _); (case a => k_dflt rfl); (case b => k_dflt rfl))
  | (refine' c_def0 ?w ?k ?_; (case w => first | exact Cx.wd (by assumption) | exact Ck.wd (by assumption) | assumption); (case k => first | exact kp_82 _ | exact kp_89 _))
  | (refine' in_K ?w ?_; (case w => first | exact Cx.wd (by assumption) | exact Ck.wd (by assumption) | assumption))
  | (refine' r_sub ?_)
  | (refine' s_slice ?_)
  | (refine' s_some ?_)
  | (refine' s_none ?_)
  | (refine' r_neg ?_; intro _ _)
  | (refine' gm_starts ?_)
  | (refine' gm_ends ?_)
  | (refine' m_starts ?c ?_; (case c => first | exact lit_dq | exact lit_star))
  | (refine' m_ends ?c ?_; (case c => first | exact lit_dq | exact lit_star))
  | (refine' r_or2 ?_)
  | (refine' gm_group ?x ?_; (case x => assumption))
  | (refine' m_group ?x ?k ?z ?_; (case x => assumption); (case k => assumption); (case z => omega); intro _ _)
  | (refine' gm_decode ?_)
  | (refine' gm_sub ?w ?_; (case w => first | exact Cx.wd (by assumption) | assumption))
  | (refine' b_addI ?_; intro _ _)
  | (refine' b_subI ?_; intro _ _)
  | (refine' q_ltI ?_)
  | (refine' q_gtI ?_)
  | (refine' q_geI ?_)
  | (refine' q_eqS ?_)
  | (refine' q_neS ?_)
  | (refine' b_iaddS ?_ ?z; (case z => (try simp only [List.length_append, List.length_cons, List.length_nil, lit_nil, lit_dq, lit_sq]); omega); intro _ _)
  | (refine' b_iaddI ?_; intro _ _)
  | (refine' p_len ?_ ?z; (case z => omega); intro _ _)
  | (refine' b_addS ?_ ?z; (case z => (try simp only [List.length_append, List.length_cons, List.length_nil, lit_nil, lit_dq, lit_sq]); omega); intro _ _)
  | (refine' x_item ?a ?b ?_ ?z ?c ?d; (case a => omega); (case b => omega); (case z => omega); (case c => k_dflt rfl); (case d => intro _; k_dflt rfl); intro _ _)
  | (refine' x_slice_ss ?x ?_ ?z ?c ?d; (case x => assumption); (case z => omega); (case c => intro _; k_dflt rfl); (case d => intro _; k_dflt rfl); intro _ _ _ _)
  | (refine' x_slice_sn ?x ?_ ?z ?c ?d; (case x => assumption); (case z => omega); (case c => intro _; k_dflt rfl); (case d => intro _; k_dflt rfl); intro _ _ _ _)
  | (refine' x_slice_ns ?x ?_ ?z ?c ?d; (case x => assumption); (case z => omega); (case c => intro _; k_dflt rfl); (case d => intro _; k_dflt rfl); intro _ _ _ _)
  | (refine' r_named ?_)
  | (refine' gm_match ?w ?_; (case w => first | exact Cx.wd (by assumption) | assumption))
  | (refine' r_unpack2 ?h ?x ?t ?_; (case h => k_dflt assumption); (case x => assumption); (case t => k_dflt (exact Cx.at_ (by assumption) (.head _))); intro _ _)
  | (refine' r_callkw ?_)
  | (refine' c_defkw ?w ?k ?_ ?e; (case w => first | exact Cx.wd (by assumption) | assumption); (case k => exact kp_45 _); (case e => k_dflt rfl))
  | (refine' r_storeX ?x ?_ ?a ?b; (case x => assumption); (case a => k_dflt rfl); (case b => k_dflt rfl); intro _ _ _)
  | (refine' x_slice_k ?x ?_ ?z ?c ?d; (case x => assumption); (case z => omega); (case c => intro _; k_dflt rfl); (case d => intro _; k_dflt rfl); intro _ _ _ _)
  | (refine' x_tup ?t ?i ?j ?x ?_ ?c; (case t => k_dflt (first | exact Cx.at_ (by assumption) (by walk_at "m") | exact Ck.keep (by assumption) _ _ (by assumption))); (case i => omega); (case j => omega); (case x => k_dflt (first | assumption | rfl)); (case c => k_dflt rfl))
  | (refine' x_lst ?t ?i ?j ?x ?_ ?c; (case t => k_dflt (first | exact Cx.at_ (by assumption) (by walk_at "m") | exact Ck.keep (by assumption) _ _ (by assumption))); (case i => omega); (case j => omega); (case x => k_dflt (first | assumption | rfl)); (case c => k_dflt rfl))
  | (refine' q_nenil ?a ?b ?u ?_; (case a => k_dflt (exact Cx.at_ (by assumption) (by walk_at "m"))); (case b => k_dflt (exact Cx.at_ (by assumption) (by walk_at "m"))); (case u => ((try simp only [Around.deeper_units]); omega)))
  | (refine' gm_find ?_)
  | (refine' m_findz ?c ?f ?_; (case c => first | exact lit_sq | exact lit_eq); (case f => assumption); intro _ _)
  | (refine' gm_lower ?_)
  | (refine' m_lower ?z ?_; (case z => omega); intro _ _)
  | (refine' gm_part ?_)
  | (refine' nin_S ?_)
  | (refine' d_in ?d ?l ?_; (case d => assumption); (case l => assumption); intro _)
  | (refine' d_item ?d ?v ?_ ?c; (case d => assumption); (case v => assumption); (case c => k_dflt rfl); intro _)
  | (refine' q_isn ?_)
  | (refine' q_isnr ?_)
  | (refine' r_dict0 ?x ?_; (case x => assumption); intro _ _ _ _ _ _ _ _)
  | (refine' r_dictN ?x ?a ?b ?c ?e ?_; (case x => assumption); (case a => k_dflt rfl); (case b => k_dflt rfl); (case c => k_dflt (exact List.cons_ne_nil _ _)); (case e => k_dflt decide); intro _ _ _ _ _ _ _)
  | (refine' k_cons ?_)
  | (refine' k_nil ?_)
  | (refine' k_made ?x ?d ?a ?k ?n ?_; (case x => assumption); (case d => assumption); (case a => assumption); (case k => k_dflt rfl); (case n => (simp only [strPairs, List.map]; k_dflt (decide +kernel))); intro _ _ _ _ _)
  | (refine' r_dset ?_ ?a; (case a => k_dflt rfl))
  | (refine' d_set ?x ?u ?d ?z ?_; (case x => assumption); (case u => first | exact UpdF.head (by assumption)); (case d => assumption); (case z => omega); intro _ _ _ _ _)
  | (refine' b_iaddB ?_ ?z; (case z => (try simp only [List.length_append, List.length_cons, List.length_nil]); omega); intro _ _)
  | (refine' r_bytes0 ?_; intro _ _)
  | (refine' r_bytesC ?_; intro _ _)
  | (refine' r_list1 ?_ ?e; (case e => k_dflt rfl))
  | (refine' d_end ?x ?_; (case x => assumption); intro _ _ _ _)
  | (refine' r_listN ?_)
  | (refine' l_end ?x ?z ?_; (case x => assumption); (case z => simp only [List.length_cons, List.length_nil]; omega); intro _ _ _ _)
  | (refine' r_asgtup ?_ ?a ?b; (case a => k_dflt rfl); (case b => k_dflt rfl))
  | (refine' r_tuple ?_)
  | (refine' t_end ?x ?z ?_; (case x => assumption); (case z => simp only [List.length_cons, List.length_nil]; omega); intro _ _ _)
  | (refine' r_unpack3 ?h ?x ?t ?_; (case h => k_dflt assumption); (case x => assumption); (case t => k_dflt (exact (Cx.N (by assumption) _ (.head _)).1)); intro _ _)
  | (refine' c_ty ?_ ?a ?b; (case a => k_dflt rfl); (case b => k_dflt rfl))
  | (refine' in_S ?_)
  | (refine' p_ord ?_; intro _ _)
  | (refine' c_bytes1 ?h ?x ?v ?_; (case h => k_dflt assumption); (case x => assumption); (case v => omega); intro _ _ _ _)
  | refine br_true ?_
  | refine br_false ?_
  | refine br_ntrue ?_
  | refine br_nfalse ?_
  | (refine br_dec ?_ ?_ <;> intro _)
  | (refine br_ndec ?_ ?_ <;> intro _)
  | (refine br_nndec ?_ ?_ <;> intro _)
  | (refine br_nb ?_ ?_ <;> intro _)
  | (refine br_b ?_ ?_ <;> intro _)
  | refine r_and0 ?_
  | refine r_out ?_
  | refine r_outc ?_
  | refine r_back ?_))


def PdJ (w : World) (x : List Nat) (d : Addr) (g : Heap) (i : Nat) (m : Str → Option Value) (nw : List (Addr × Obj)) : Prop :=
  ∃ (o : Obj) (kvs : List (Str × Value)) (T : List (Addr × Obj)), m "result" = some (.ref d) ∧ nw = (d, o) :: T ∧ TabX g T ∧ SD w o kvs ∧ DK kvs (((itemsL x).take i).foldl putL [])
theorem led_ap {d I a : Addr × Obj} {T : List (Addr × Obj)} : ∀ p ∈ (d :: T) ++ [I, a], p ∈ d :: I :: a :: T := by
  intro p hp
  simp only [List.mem_append, List.mem_cons, List.not_mem_nil, or_false] at hp ⊢
  grind
theorem pdh_spec {w : World} {A : Around} {E : Value → Shared → Prop} {s : Shared} {h : Heap} {tk : Nat} {Q : Value → Shared → Prop} {x : List Nat} {t : Tok} (W : Wd w (Gh h)) (T : Tb h) (hh : A.handled = none) (hdp : A.depth + 20 < recursionLimit) (hx : x.length ≤ 500) (hs : Sound x) (hn : ∀ c ∈ x, c ≠ 10)
   (H : ∀ s' h' tk' d kvs, GR s s' → Kp h h' → Tb h' → h.get? d = none → (d == sysModules) = false → h'.DictOf (PySem.strKind pg w) d kvs → DK kvs (dictL x) → Q (.ref d) (st s' h' tk')) :
   wpAny (model pg w) A (call (.ref 69) [.str (S x) t]) Q E (st s h tk) := by
  refine call_imp1 W T (p := "value") (by rfl) (by rfl) (by omega) (by rfl) (by rfl) fun L h₁ tk₁ ps1 ps2 X tg ⟨e1, e2, eL⟩ => ?_
  have MARK : True := trivial
  repeat' (walk_at "s")
  refine r_for (g := Gh h) rfl rfl (by intro _; rfl) ?_
  repeat' (walk_at "s")
  rename_i d o _ _ _ hsd hdn hlo _ _ X1
  have tx0 := TabX.of tg
  refine' plh_spec ?pw ?pt ?ph ?pd ?px ?pn ?pH
  case pw => exact Cx.wgh (pre := [(d, o)]) X1 tx0.1
  case pt => exact Cx.tb (pre := [(d, o)]) X1 tx0.1
  case ph => exact hh
  case pd => rw [dd]; omega
  case px => omega
  case pn => exact hn
  intro s2 h2 tk2 a vs k gr kp2 T2 ha ha2 hvs
  have hd52 : d ≠ 52 ∧ d ≠ 59 := ⟨fun q => hdn _ (.head _) q.symm, fun q => hdn _ (.tail _ (.head _)) q.symm⟩
  obtain ⟨T', tx, X2⟩ := Cx.back2 (pre := [(d, o)]) X1 tx0.1 (by intro q hq; rcases List.mem_singleton.mp hq with rfl; exact hd52) kp2 T2
  have X3 := Cx.put X1 X2 ha ha2
  obtain ⟨il, il2⟩ := items_len x
  have isn := items_sound hs
  have hvl := hvs.length
  have hda : d ≠ a := by rintro rfl; rw [(X1.N _ (.head _)).1] at ha; cases ha
  have ha52 : a ≠ 52 ∧ a ≠ 59 := by
    refine ⟨?_, ?_⟩
    · rintro rfl; rw [(X1.N _ (.tail _ (.head _))).1] at ha; cases ha
    · rintro rfl; rw [(X1.N _ (.tail _ (.tail _ (.head _)))).1] at ha; cases ha
  have X4 := X3.sub (nw' := ((d, o) :: T') ++ [(a, PySem.W.listOf vs.toArray k)]) (by
    intro p hp
    rcases List.mem_append.mp hp with hp | hp
    · exact .tail _ hp
    · rcases List.mem_singleton.mp hp with rfl
      exact .head _)
  have hapa : ∀ p ∈ (d, o) :: T', p.1 ≠ a := by
    intro p hp
    rcases List.mem_cons.mp hp with rfl | hp
    · exact hda
    · exact tx.ne X3 (fun p hp => .tail _ (.tail _ hp)) ha2 ha52.1 ha52.2 (fun vs qq t e => by cases e) p hp
  clear X3 X1 X
  refine it_list (by exact hh) X4 hapa (fun s' => GR s s') gr (PdJ w x d (Gh h)) ⟨o, [], T', rfl, rfl, tx, hsd, .nil⟩ ?_ ?_
  · rintro i v I oI m nw s5 h5 tk5 hiv hB ⟨o5, kvs, T5, hm1, rfl, tx5, hsd5, hdk⟩ hap hcls hdat X5
    obtain ⟨l, tl, hl, rfl⟩ := hvs.idx (by simpa using hiv)
    have hll := il2 l (List.mem_of_getElem? hl)
    have hls := isn l (List.mem_of_getElem? hl)
    have hln : ∀ c ∈ l, c ≠ 10 := fun c hc => hn c (items_mem (List.mem_of_getElem? hl) hc)
    have hkl : kvs.length ≤ 1000 := by
      have := fold_len ((itemsL x).take i) []
      rw [← hdk.length] at this
      simp at this; omega
    have hfs := fold_snoc hl
    have hstl := stp_le l
    have hdI : d ≠ I := hap _ (.head _) _ (.head _)
    obtain ⟨qs1, qs2, C5, eT5, _⟩ := tx5.1
    have hI52 : I ≠ 52 ∧ I ≠ 59 := ⟨fun q => hap (52, tabObj qs1) (by rw [eT5]; exact .tail _ (.head _)) _ (.head _) q.symm, fun q => hap (59, tabObj qs2) (by rw [eT5]; exact .tail _ (.tail _ (.head _))) _ (.head _) q.symm⟩
    have hpre : ∀ q ∈ [(d, o5), (I, oI), (a, PySem.W.listOf vs.toArray k)], q.1 ≠ 52 ∧ q.1 ≠ 59 := by
      intro q hq
      simp only [List.mem_cons, List.not_mem_nil, or_false] at hq
      rcases hq with rfl | rfl | rfl
      · exact hd52
      · exact hI52
      · exact ha52
    have ledU : ∀ T9, TabX (Gh h) T9 → ∀ {m' h'}, Cx w (Gh h) L m' ((d, o5) :: (I, oI) :: (a, PySem.W.listOf vs.toArray k) :: T9) h' → ∀ p ∈ (I, oI) :: (a, PySem.W.listOf vs.toArray k) :: T9, p.1 ≠ d := by
      intro T9 tx9 m' h' X9 p hp
      rcases List.mem_cons.mp hp with rfl | hp
      · exact hdI.symm
      · rcases List.mem_cons.mp hp with rfl | hp
        · exact hda.symm
        · exact tx9.ne X9 (fun p hp => .tail _ (.tail _ (.tail _ hp))) (X9.N _ (.head _)).1 hd52.1 hd52.2 (fun vs qq t e _ => by obtain ⟨es, ep, _, hd, _⟩ := hsd5; rw [hd] at e; cases e) p hp
    have ledAp : ∀ T9, TabX (Gh h) T9 → ∀ {m' h'}, Cx w (Gh h) L m' ((d, o5) :: (I, oI) :: (a, PySem.W.listOf vs.toArray k) :: T9) h' → Apart ((d, o5) :: T9) [(I, oI), (a, PySem.W.listOf vs.toArray k)] := by
      intro T9 tx9 m' h' X9 p hp q hq
      have hI9 := tx9.ne X9 (fun p hp => .tail _ (.tail _ (.tail _ hp))) (X9.N _ (.tail _ (.head _))).1 hI52.1 hI52.2 (fun vs qq t e => by rw [hdat] at e; cases e; simp)
      have ha9 := tx9.ne X9 (fun p hp => .tail _ (.tail _ (.tail _ hp))) (X9.N _ (.tail _ (.tail _ (.head _)))).1 ha52.1 ha52.2 (fun vs qq t e => by cases e)
      rcases List.mem_cons.mp hq with rfl | hq
      · rcases List.mem_cons.mp hp with rfl | hp
        · exact hdI
        · exact hI9 p hp
      · rcases List.mem_singleton.mp hq with rfl
        rcases List.mem_cons.mp hp with rfl | hp
        · exact hda
        · exact ha9 p hp
    have X6 := X5.sub (nw' := (d, o5) :: (I, oI) :: (a, PySem.W.listOf vs.toArray k) :: T5) (by
      intro p hp
      rcases List.mem_cons.mp hp with rfl | hp
      · exact .head _
      · rcases List.mem_cons.mp hp with rfl | hp
        · exact List.mem_append_right _ (.head _)
        · rcases List.mem_cons.mp hp with rfl | hp
          · exact List.mem_append_right _ (.tail _ (.head _))
          · exact List.mem_append_left _ (.tail _ hp))
    have hU := ledU T5 tx5 X6
    clear X4 X5 X2 MARK eT5
    have MARK : True := trivial
    repeat' (walk_at "s")
    refine m_part X6 lit_eq (by omega) (fun hp D ta tb tc h7 tk7 X7 => ?_) (fun hp D ta tb tc h7 tk7 X7 => ?_)
    · have hpr : pairL l = if stp (l.take (ix 61 l)) = [] then none
        else if (stp (l.take (ix 61 l))).getD ((stp (l.take (ix 61 l))).length - 1) 0 = 42 then
          some ((stp (l.take (ix 61 l))).take ((stp (l.take (ix 61 l))).length - 1), some (readL (csL (stp (l.drop (ix 61 l + 1))))))
        else some (stp (l.take (ix 61 l)), some (readL (stp (l.drop (ix 61 l + 1))))) := by unfold pairL; rw [if_pos hp]
      have hsV : Sound (stp (l.drop (ix 61 l + 1))) := (hls.at hp (by rw [ix_at 61 l hp]; simp [sep])).2.stp
      have hnV : ∀ c ∈ stp (l.drop (ix 61 l + 1)), c ≠ 10 := fun c hc => hln c (List.mem_of_mem_drop (stp_mem hc))
      have hz1 := stp_le (l.take (ix 61 l))
      have hz2 := stp_le (l.drop (ix 61 l + 1))
      obtain ⟨K, hK⟩ : ∃ K, stp (l.take (ix 61 l)) = K := ⟨_, rfl⟩
      obtain ⟨V, hV⟩ : ∃ V, stp (l.drop (ix 61 l + 1)) = V := ⟨_, rfl⟩
      simp only [hK, hV] at hpr hsV hnV hz1 hz2
      have c4 := cut_m1 K
      have hl1 : (l.take (ix 61 l)).length ≤ 500 := by simp; omega
      have hl2 : (l.drop (ix 61 l + 1)).length ≤ 500 := by simp; omega
      have hVc := csL_le hsV
      have hVn := csL_10 hsV hnV
      clear X6 MARK
      have MARK : True := trivial
      repeat' (walk_at "s")
      · have hk0 : K = [] := by assumption
        refine' fe_cont (nw' := (d, o5) :: T5) ?zX1 hB ?zA1 ?zJ1
        case zX1 =>
          exact Cx.sub (‹Cx w (Gh h) L (upd (upd (upd (upd (upd _ _ _) _ _) _ _) _ _) _ _) _ _›) (fun p hp => .tail _ (led_ap p hp))
        case zA1 => exact hap
        refine ⟨o5, kvs, T5, hm1, rfl, tx5, hsd5, ?_⟩
        rw [hfs]; unfold putL; rw [hpr, if_pos hk0]; exact hdk
      · have hk0 : ¬ K = [] := by assumption
        have hst : K.getD (K.length - 1) 0 = 42 := (‹1 ≤ K.length ∧ K.getD (K.length - 1) 0 = 42›).2
        have X10 := (‹Cx w (Gh h) L (upd (upd (upd (upd (upd (upd (upd (upd _ _ _) _ _) _ _) _ _) _ _) _ _) _ _) _ _) _ _› : Cx w _ L _ _ _)
        refine call_match X10.wd (by omega) hnV (fun p q ma mb h11 tk11 hC k11 hma hmb hM => ?_) (fun hno tk11 => ?_)
        · -- a charset, a language and a rest
          have X11 := X10.adds [(ma, _), (mb, _)] k11 (by
            intro p hp
            simp only [List.mem_cons, List.not_mem_nil, or_false] at hp
            rcases hp with rfl | rfl
            · exact ⟨hma, hM.1⟩
            · exact ⟨hmb, hM.2⟩)
          simp only [List.cons_append, List.nil_append] at X11
          clear X10 MARK
          have MARK : True := trivial
          repeat' (walk_at "s")
          have X12 := (‹Cx w (Gh h) L (upd (upd (upd (upd (upd (upd (upd (upd (upd _ _ _) _ _) _ _) _ _) _ _) _ _) _ _) _ _) _ _) _ _› : Cx w _ L _ _ _)
          have M : MatV _ V _ p q ma := ⟨mb, X12.at_ (.head _), X12.at_ (.tail _ (.head _))⟩
          refine gm_groups M ?_
          clear MARK
          have MARK : True := trivial
          repeat' (walk_at "s")
          refine m_groups M hC.ab hC.bl (by omega) fun bt t1 t2 h14 tk14 k14 hb hb2 => ?_
          have X14 := X12.add k14 hb hb2
          have hsR := hsV.rest hC
          have hcs := csL_hit hC
          have hlR : (V.drop (q + 1)).length ≤ 500 := by simp; omega
          have hlE : (V.take p).length ≤ 500 := by simp; omega
          clear X12 X11 M MARK
          have MARK : True := trivial
          repeat' (walk_at "s")
          have X15 := (‹Cx w (Gh h) L (upd (upd (upd (upd (upd (upd (upd (upd (upd (upd (upd (upd _ _ _) _ _) _ _) _ _) _ _) _ _) _ _) _ _) _ _) _ _) _ _) _ _) _ _› : Cx w _ L _ _ _)
          refine t_encs (ov := some (lowL (V.take p))) X15 (by rfl) (by rfl) X15.ns (by rfl) (by rfl) ⟨_, rfl⟩ (by decide) fun h16 tk16 X16 => ?_
          refine ⟨fun hq => ?_, fun hq => ?_⟩
          · have hmem : lowL (V.take p) ∈ encs := of_decide_eq_true hq
            unfold decL at hcs
            rw [if_pos hmem] at hcs
            have hdl := dcd_len (f := colF (lowL (V.take p))) (colF_le _) hsR
            clear X15 X14 MARK
            have MARK : True := trivial
            repeat' (walk_at "s")
            refine' unq_spec ?qw ?qh ?qd ?qb ?qx ?qs ?ql ?q2 ?qH
            case qw => exact X16.wd
            case qh => exact hh
            case qd => rw [dd]; omega
            case qb => exact ⟨rfl, rfl⟩
            case qx => omega
            case qs => exact hsR.hex
            case ql => exact hsR.dec _
            case q2 => omega
            intro h17 tk17 t17 k17
            have X17 := X16.more k17
            clear X16 MARK
            have MARK : True := trivial
            repeat' (walk_at "s")
            have Z5 := (‹Cx w (Gh h) L (upd (upd (upd (upd (upd (upd (upd (upd (upd (upd (upd (upd (upd _ _ _) _ _) _ _) _ _) _ _) _ _) _ _) _ _) _ _) _ _) _ _) _ _) _ _) _ _› : Cx w _ L _ _ _)
            have Y5 := Z5.sub (nw' := [(d, o5), (I, oI), (a, PySem.W.listOf vs.toArray k)] ++ T5) (fun p hp => .tail _ (.tail _ (.tail _ (.tail _ hp))))
            refine' uhv_spec ?uw5 ?ut5 ?ud5 ?ux5 ?un5 ?uH5
            case uw5 => exact Cx.wgh (pre := [(d, o5), (I, oI), (a, PySem.W.listOf vs.toArray k)]) Y5 tx5.1
            case ut5 => exact Cx.tb (pre := [(d, o5), (I, oI), (a, PySem.W.listOf vs.toArray k)]) Y5 tx5.1
            case ud5 => rw [dd]; omega
            case ux5 => omega
            case un5 => rw [← hcs]; exact hVn
            intro h8 tk8 t8 k8 T8 n8
            obtain ⟨T9, tx9, X8⟩ := Cx.back2 (pre := [(d, o5), (I, oI), (a, PySem.W.listOf vs.toArray k)]) Y5 tx5.1 hpre k8 T8
            have X9 : Cx w (Gh h) L _ ((d, o5) :: (I, oI) :: (a, PySem.W.listOf vs.toArray k) :: T9) h8 := X8
            have hU9 := ledU T9 tx9 X9
            have hap9 := ledAp T9 tx9 X9
            clear Y5 Z5 X8 MARK
            have MARK : True := trivial
            repeat' (walk_at "s")
            refine' fe_next (nw' := (d, _) :: T9) ?zX5 hB ?zA5 ?zJ5
            case zX5 =>
              exact Cx.sub (‹Cx w (Gh h) L _ ((d, _) :: (I, oI) :: (a, PySem.W.listOf vs.toArray k) :: T9) _›) led_ap
            case zA5 => exact apart_left hap9 rfl
            refine ⟨_, _, T9, hm1, rfl, tx9, ‹SD w _ (stored _ _ _)›, ?_⟩
            rw [hfs]; unfold putL; rw [hpr, if_neg hk0, if_pos hst]
            rw [hcs]
            exact hdk.store (ov := some _) ⟨_, rfl⟩ _
          · have hmem : ¬ lowL (V.take p) ∈ encs := of_decide_eq_false hq
            unfold decL at hcs
            rw [if_neg hmem] at hcs
            clear X15 X14 MARK
            have MARK : True := trivial
            repeat' (walk_at "s")
            have Z6 := X16
            have Y6 := Z6.sub (nw' := [(d, o5), (I, oI), (a, PySem.W.listOf vs.toArray k)] ++ T5) (fun p hp => .tail _ (.tail _ (.tail _ (.tail _ hp))))
            refine' uhv_spec ?uw6 ?ut6 ?ud6 ?ux6 ?un6 ?uH6
            case uw6 => exact Cx.wgh (pre := [(d, o5), (I, oI), (a, PySem.W.listOf vs.toArray k)]) Y6 tx5.1
            case ut6 => exact Cx.tb (pre := [(d, o5), (I, oI), (a, PySem.W.listOf vs.toArray k)]) Y6 tx5.1
            case ud6 => rw [dd]; omega
            case ux6 => omega
            case un6 => rw [← hcs]; exact hVn
            intro h8 tk8 t8 k8 T8 n8
            obtain ⟨T9, tx9, X8⟩ := Cx.back2 (pre := [(d, o5), (I, oI), (a, PySem.W.listOf vs.toArray k)]) Y6 tx5.1 hpre k8 T8
            have X9 : Cx w (Gh h) L _ ((d, o5) :: (I, oI) :: (a, PySem.W.listOf vs.toArray k) :: T9) h8 := X8
            have hU9 := ledU T9 tx9 X9
            have hap9 := ledAp T9 tx9 X9
            clear Y6 Z6 X8 MARK
            have MARK : True := trivial
            repeat' (walk_at "s")
            refine' fe_next (nw' := (d, _) :: T9) ?zX6 hB ?zA6 ?zJ6
            case zX6 =>
              exact Cx.sub (‹Cx w (Gh h) L _ ((d, _) :: (I, oI) :: (a, PySem.W.listOf vs.toArray k) :: T9) _›) led_ap
            case zA6 => exact apart_left hap9 rfl
            refine ⟨_, _, T9, hm1, rfl, tx9, ‹SD w _ (stored _ _ _)›, ?_⟩
            rw [hfs]; unfold putL; rw [hpr, if_neg hk0, if_pos hst]
            rw [hcs]
            exact hdk.store (ov := some _) ⟨_, rfl⟩ _
        · -- none
          have hcs := csL_miss hno
          clear MARK
          have MARK : True := trivial
          repeat' (walk_at "s")
          have X12 := (‹Cx w (Gh h) L (upd (upd (upd (upd (upd (upd (upd (upd (upd _ _ _) _ _) _ _) _ _) _ _) _ _) _ _) _ _) _ _) _ _› : Cx w _ L _ _ _)
          refine t_encs (ov := Option.none) X12 (by rfl) (by rfl) X12.ns (by rfl) (by rfl) rfl (by decide) fun h13 tk13 X13 => ?_
          refine ⟨fun q => absurd q (by decide), fun _ => ?_⟩
          clear X12 X10 MARK
          have MARK : True := trivial
          repeat' (walk_at "s")
          have Z7 := X13
          have Y7 := Z7.sub (nw' := [(d, o5), (I, oI), (a, PySem.W.listOf vs.toArray k)] ++ T5) (fun p hp => .tail _ hp)
          refine' uhv_spec ?uw7 ?ut7 ?ud7 ?ux7 ?un7 ?uH7
          case uw7 => exact Cx.wgh (pre := [(d, o5), (I, oI), (a, PySem.W.listOf vs.toArray k)]) Y7 tx5.1
          case ut7 => exact Cx.tb (pre := [(d, o5), (I, oI), (a, PySem.W.listOf vs.toArray k)]) Y7 tx5.1
          case ud7 => rw [dd]; omega
          case ux7 => omega
          case un7 => exact hnV
          intro h8 tk8 t8 k8 T8 n8
          obtain ⟨T9, tx9, X8⟩ := Cx.back2 (pre := [(d, o5), (I, oI), (a, PySem.W.listOf vs.toArray k)]) Y7 tx5.1 hpre k8 T8
          have X9 : Cx w (Gh h) L _ ((d, o5) :: (I, oI) :: (a, PySem.W.listOf vs.toArray k) :: T9) h8 := X8
          have hU9 := ledU T9 tx9 X9
          have hap9 := ledAp T9 tx9 X9
          clear Y7 Z7 X8 MARK
          have MARK : True := trivial
          repeat' (walk_at "s")
          refine' fe_next (nw' := (d, _) :: T9) ?zX7 hB ?zA7 ?zJ7
          case zX7 =>
            exact Cx.sub (‹Cx w (Gh h) L _ ((d, _) :: (I, oI) :: (a, PySem.W.listOf vs.toArray k) :: T9) _›) led_ap
          case zA7 => exact apart_left hap9 rfl
          refine ⟨_, _, T9, hm1, rfl, tx9, ‹SD w _ (stored _ _ _)›, ?_⟩
          rw [hfs]; unfold putL; rw [hpr, if_neg hk0, if_pos hst]
          rw [hcs]
          exact hdk.store (ov := some _) ⟨_, rfl⟩ _
      · have hk0 : ¬ K = [] := by assumption
        have hst : ¬ K.getD (K.length - 1) 0 = 42 := by
          have := List.length_pos_iff.mpr hk0
          exact fun q => ‹¬ (1 ≤ K.length ∧ K.getD (K.length - 1) 0 = 42)› ⟨this, q⟩
        have Z2 := (‹Cx w (Gh h) L (upd (upd (upd (upd (upd (upd (upd _ _ _) _ _) _ _) _ _) _ _) _ _) _ _) _ _› : Cx w _ L _ _ _)
        have Y2 := Z2.sub (nw' := [(d, o5), (I, oI), (a, PySem.W.listOf vs.toArray k)] ++ T5) (fun p hp => .tail _ hp)
        refine' uhv_spec ?uw2 ?ut2 ?ud2 ?ux2 ?un2 ?uH2
        case uw2 => exact Cx.wgh (pre := [(d, o5), (I, oI), (a, PySem.W.listOf vs.toArray k)]) Y2 tx5.1
        case ut2 => exact Cx.tb (pre := [(d, o5), (I, oI), (a, PySem.W.listOf vs.toArray k)]) Y2 tx5.1
        case ud2 => rw [dd]; omega
        case ux2 => omega
        case un2 => exact hnV
        intro h8 tk8 t8 k8 T8 n8
        obtain ⟨T9, tx9, X8⟩ := Cx.back2 (pre := [(d, o5), (I, oI), (a, PySem.W.listOf vs.toArray k)]) Y2 tx5.1 hpre k8 T8
        have X9 : Cx w (Gh h) L _ ((d, o5) :: (I, oI) :: (a, PySem.W.listOf vs.toArray k) :: T9) h8 := X8
        have hU9 := ledU T9 tx9 X9
        have hap9 := ledAp T9 tx9 X9
        clear Y2 Z2 X8 MARK
        have MARK : True := trivial
        repeat' (walk_at "s")
        refine' fe_next (nw' := (d, _) :: T9) ?zX2 hB ?zA2 ?zJ2
        case zX2 =>
          exact Cx.sub (‹Cx w (Gh h) L _ ((d, _) :: (I, oI) :: (a, PySem.W.listOf vs.toArray k) :: T9) _›) led_ap
        case zA2 => exact apart_left hap9 rfl
        refine ⟨_, _, T9, hm1, rfl, tx9, ‹SD w _ (stored _ _ _)›, ?_⟩
        rw [hfs]; unfold putL; rw [hpr, if_neg hk0, if_neg hst]
        skip
        exact hdk.store (ov := some _) ⟨_, rfl⟩ _
    · have hpr : pairL l = if stp l = [] then none else some (stp l, none) := by unfold pairL; rw [if_neg hp]
      clear X6 MARK
      have MARK : True := trivial
      repeat' (walk_at "s")
      · have hk0 : stp l = [] := by assumption
        refine' fe_cont (nw' := (d, o5) :: T5) ?zX3 hB ?zA3 ?zJ3
        case zX3 =>
          exact Cx.sub (‹Cx w (Gh h) L (upd (upd (upd (upd (upd _ _ _) _ _) _ _) _ _) _ _) _ _›) (fun p hp => .tail _ (led_ap p hp))
        case zA3 => exact hap
        refine ⟨o5, kvs, T5, hm1, rfl, tx5, hsd5, ?_⟩
        rw [hfs]; unfold putL; rw [hpr, if_pos hk0]; exact hdk
      · have hk0 : ¬ stp l = [] := by assumption
        have X10 := (‹Cx w (Gh h) L (upd (upd (upd (upd (upd _ _ _) _ _) _ _) _ _) _ _) _ _› : Cx w _ L _ _ _).sub (nw' := (d, o5) :: (I, oI) :: (a, PySem.W.listOf vs.toArray k) :: T5) (fun p hp => .tail _ hp)
        clear MARK
        have MARK : True := trivial
        refine d_set X10 (.head hU) hsd5 (by omega) fun o11 h11 tk11 X11 hsd11 => ?_
        repeat' (walk_at "s")
        refine' fe_cont (nw' := (d, o11) :: T5) ?zX4 hB ?zA4 ?zJ4
        case zX4 =>
          exact X11.sub led_ap
        case zA4 => exact apart_left hap rfl
        refine ⟨_, _, T5, hm1, rfl, tx5, hsd11, ?_⟩
        rw [hfs]; unfold putL; rw [hpr, if_neg hk0]
        exact hdk.store (ov := Option.none) rfl _
      · exact absurd ‹(!decide (([] : List Nat) = [])) = true› (by simp)
  · rintro m nw s5 h5 tk5 hB ⟨o5, kvs, T5, hm1, rfl, tx5, hsd5, hdk⟩ X5
    rw [List.take_of_length_le (by simp [hvl])] at hdk
    clear MARK
    have MARK : True := trivial
    repeat' (walk_at "s")
    refine H _ _ _ _ kvs hB (gh_kp X5.F.keep) (Cx.tb (pre := [(d, o5)]) X5 tx5.1) ?_ hlo (X5.dict (.head _) hsd5) hdk
    cases q : h.get? d with
    | none => rfl
    | some oo =>
      have := gh_get hd52.1 hd52.2 q
      rw [(X5.N _ (.head _)).2.2] at this; cases this
end Mine
end
section
open PySem PySem.W PySem.Calls PyProof.Rows PyProof PyProof.V
set_option Elab.async false
set_option maxRecDepth 100000
set_option maxHeartbeats 2000000
set_option autoImplicit false
namespace Mine
/-- values that are ints -/
def IV (vs : List Value) : Prop := ∀ v ∈ vs, ∃ n t, v = Value.int n t
theorem IV.of {vs : List Value} {ns : List Int} (h : IntsAre vs ns) : IV vs := by
  induction h with
  | nil => intro v hv; cases hv
  | cons n t _ ih => intro v hv; rcases List.mem_cons.mp hv with rfl | hv; exact ⟨n, t, rfl⟩; exact ih v hv
theorem pick_to {items : Array Value} {b : Nat} : slicePick items none (some (b : Int)) none = (items.toList.take b).toArray := by
  have e : sliceBounds none (some (b : Int)) none items.size = sliceBounds (some ((0 : Nat) : Int)) (some ((min b items.size : Nat) : Int)) none items.size := by
    unfold sliceBounds
    simp only [Option.getD_none, show (1 : Int) > 0 by decide, if_true]
    refine Prod.ext ?_ (Prod.ext ?_ rfl)
    · dsimp only; split <;> omega
    · dsimp only; split <;> split <;> omega
  have h := slicePick_run items 0 (min b items.size) (by omega) (by omega)
  unfold slicePick at h ⊢
  rw [e, h]
  rw [List.drop_zero, Nat.sub_zero]
  congr 1
  rcases Nat.le_total b items.size with hb | hb
  · rw [Nat.min_eq_left hb]
  · rw [Nat.min_eq_right hb, List.take_of_length_le (by simp), List.take_of_length_le (by simpa using hb)]
theorem fold_rep (v : Value) : ∀ (n : Nat) (acc : Array Value), List.foldl (fun x1 x2 => x1 ++ x2) acc (List.replicate n #[v]) = acc ++ (List.replicate n v).toArray
  | 0, acc => by simp
  | n + 1, acc => by
    rw [List.replicate_succ, List.foldl_cons, fold_rep v n, List.replicate_succ]
    apply Array.toList_inj.mp
    simp
section
variable {w : World} {A : Around} {E : Value → Shared → Prop} {s : Shared} {h g : Heap} {tk : Nat} {L a b : Addr} {m : Str → Option Value} {nw : List (Addr × Obj)} {env : Env} {vs us : List Value} {n k : Nat} {t u : Tok} {value slice : Expr} {Q : Value → Shared → Prop}
theorem x_lto {j : Nat} {t1 : Tok} (X : Cx w g L m nw h) (hl : h.IsList a vs.toArray) (hz : vs.length ≤ 1000) (H : ∀ D h', Cx w g L m ((D, PySem.W.listOf (vs.take j).toArray 0) :: nw) h' → Q (.ref D) (st s h' tk))
    (hs : ∀ q, subscripted slice false (.ref a) (.ref q) = operate [.ref q, .ref a] (getItem (.ref a) (.ref q)) := by intro _; k_dflt rfl)
    (ht : ∀ r, letTemporaryGo value (.ref a) r = pure () := by intro _; k_dflt rfl) :
    wpAny (model pg w) A (subscriptTail value slice (.ref a) (.ref (st s h tk).heap.objs.size)) Q E { st s h tk with heap := (st s h tk).heap.push { cls := .type "slice", data := .fields #[.none, .int (j : Int) t1, .none] } } := by
  refine PyProof.Rows.slice_list (s := st s h tk) (items := vs.toArray) X.F X.N hl .none (.int _ _) (fun h' F' N' => ?_) (hs _) ht (by rw [sizeLine_eq]; simp; omega)
  rw [pick_to] at N'
  exact H _ h' ⟨X.W, F', N'⟩
theorem x_lss {i j : Nat} {x y : Int} {t1 t2 : Tok} (X : Cx w g L m nw h) (hl : h.get? a = some (PySem.W.listOf vs.toArray n)) (hx : x = i) (hy : y = j) (hij : i ≤ j) (hj : j ≤ vs.length) (hz : vs.length ≤ 1000) (H : ∀ D h', Cx w g L m ((D, PySem.W.listOf ((vs.drop i).take (j - i)).toArray 0) :: nw) h' → Q (.ref D) (st s h' tk))
    (hs : ∀ q, subscripted slice false (.ref a) (.ref q) = operate [.ref q, .ref a] (getItem (.ref a) (.ref q)) := by intro _; k_dflt rfl)
    (ht : ∀ r, letTemporaryGo value (.ref a) r = pure () := by intro _; k_dflt rfl) :
    wpAny (model pg w) A (subscriptTail value slice (.ref a) (.ref (st s h tk).heap.objs.size)) Q E { st s h tk with heap := (st s h tk).heap.push { cls := .type "slice", data := .fields #[.int x t1, .int y t2, .none] } } := by
  subst hx hy
  refine PyProof.Rows.slice_list (s := st s h tk) (items := vs.toArray) X.F X.N ⟨_, hl, rfl, n, rfl⟩ (.int _ _) (.int _ _) (fun h' F' N' => ?_) (hs _) ht (by rw [sizeLine_eq]; simp; omega)
  rw [slicePick_run _ _ _ (by simpa using hj) hij] at N'
  exact H _ h' ⟨X.W, F', N'⟩
theorem p_lenl (hl : h.get? a = some (PySem.W.listOf vs.toArray n)) (hz : vs.length ≤ 1000) (H : ∀ t' tk', Q (.int (vs.length : Int) t') (st s h tk')) : wpAny (model pg w) A (call (.builtin "len") [.ref a]) Q E (st s h tk) :=
  len_list (s := st s h tk) (items := vs.toArray) ⟨_, hl, rfl, n, rfl⟩ (by simp; omega) (by show Q (.int ((vs.toArray.size : Nat) : Int) (tk + 1)) (st s h (tk + 1 + 1)); rw [List.size_toArray]; exact H _ _)
theorem b_mull {v : Value} {x : Int} (X : Cx w g L m nw h) (hl : h.get? a = some (PySem.W.listOf [v].toArray 0)) (hx : 0 ≤ x) (hx2 : x ≤ 1000) (H : ∀ D h', Cx w g L m ((D, PySem.W.listOf (List.replicate x.toNat v).toArray 0) :: nw) h' → Q (.ref D) (st s h' tk)) :
    wpAny (model pg w) A (binaryOp .Mult (.ref a) (.int x u)) Q E (st s h tk) := by
  refine mul_list (s := st s h tk) (items := [v].toArray) (k := 0) X.F X.N hl (by omega) (by omega) (by simp; omega) fun h' F' N' => ?_
  have e : List.foldl (fun x1 x2 => x1 ++ x2) #[] (List.replicate (if ([v].toArray : Array Value).isEmpty = true then 0 else x.toNat) [v].toArray) = (List.replicate x.toNat v).toArray := by
    rw [if_neg (by simp), fold_rep]; simp
  rw [e] at N'
  exact H _ h' ⟨X.W, F', N'⟩
theorem b_addl (X : Cx w g L m nw h) (ha : h.get? a = some (PySem.W.listOf vs.toArray n)) (hb : h.get? b = some (PySem.W.listOf us.toArray k)) (hz : vs.length + us.length ≤ 1000) (H : ∀ D h', Cx w g L m ((D, PySem.W.listOf (vs ++ us).toArray 0) :: nw) h' → Q (.ref D) (st s h' tk)) :
    wpAny (model pg w) A (binaryOp .Add (.ref a) (.ref b)) Q E (st s h tk) :=
  add_lists (s := st s h tk) (vs := vs) (ws := us) X.F X.N ⟨_, ha, rfl, n, rfl⟩ ⟨_, hb, rfl, k, rfl⟩ (fun h' F' N' => H _ h' ⟨X.W, F', N'⟩) (by rw [sizeLine_eq]; omega)
theorem b_modI {i : Int} {j : Nat} (hj : 0 < j) (H : ∀ (r : Nat) t' tk', r < j → Q (.int (r : Int) t') (st s h tk')) : wpAny (model pg w) A (binaryOp .Mod (.int i t) (.int (j : Int) u)) Q E (st s h tk) := by
  refine PyProof.Rows.mod_int (by omega) ?_
  have e : i.fmod (j : Int) = ((i % (j : Int)).toNat : Int) := by
    rw [Int.fmod_eq_emod_of_nonneg _ (by omega)]
    have := Int.emod_nonneg i (b := (j : Int)) (by omega)
    omega
  rw [e]
  exact H _ _ _ (by have := Int.emod_lt_of_pos i (b := (j : Int)) (by omega); have := Int.emod_nonneg i (b := (j : Int)) (by omega); omega)
theorem gm_join {l : List Nat} {pl} {Q : Value × List Value → Shared → Prop} (H : Q (.builtin "str.join", [.str (S l) t]) s) : wpAny (model pg w) A (getMethod (.str (S l) t) (Str.ofString "join") pl) Q E s := GM.join H
theorem m_join (hl : h.get? a = some (PySem.W.listOf vs.toArray n)) {ls : List (List Nat)} (hvs : StrsV vs ls) (hz : ls.flatten.length ≤ 1000000) (H : ∀ t' tk', Q (.str (S ls.flatten) t') (st s h tk')) : wpAny (model pg w) A (call (.builtin "str.join") [.str (S (lit "")) t, .ref a]) Q E (st s h tk) := by
  rw [lit_nil]; exact c_join0 hl hvs hz H
/-- a dict's keys as a list -/
theorem c_keys {o : Obj} {kvs : List (Str × Value)} {kl : List (List Nat × Option (List Nat))} {d : Addr} (hh : A.handled = none) (X : Cx w g L m nw h) (hp : (d, o) ∈ nw) (hd : SD w o kvs) (lo : (d == sysModules) = false) (hdk : DK kvs kl) (hz : kvs.length ≤ 1000)
    (H : ∀ D c h' tk' us, Cx w g L m ((D, PySem.W.listOf us.toArray c) :: nw) h' → StrsV us (kl.map (·.1)) → Q (.ref D) (st s h' tk')) : wpAny (model pg w) A (call (.type "list") [.ref d]) Q E (st s h tk) := by
  obtain ⟨ep, hat⟩ := (kda_dict (s := st s h tk) X.N hp hd).dictAt
  refine kdl_N (s := st s h tk) (kdl_dict (knd := PySem.strKind pg w) (kvs := kvs) (ep := ep) lo) hh X.F X.N hat (kdl_size (by omega)) fun B c h' tk' us F' N' _ hl hv => ?_
  refine H B c h' tk' us ⟨X.W, F', N'⟩ ?_
  clear N' F' hat
  have key : ∀ (us : List Value) (kvs : List (Str × Value)) (kl : List (List Nat × Option (List Nat))), DK kvs kl → us.length = kvs.length → (∀ (j : Nat) (v : Value), us[j]? = some v → ∃ k x, kvs[j]? = some (k, x) ∧ (PySem.strKind pg w).is k v = true) → StrsV us (kl.map (·.1)) := by
    intro us
    induction us with
    | nil =>
      intro kvs kl hdk hl _
      have : kl = [] := List.eq_nil_of_length_eq_zero (by rw [← hdk.length, ← hl]; rfl)
      subst this
      exact .nil
    | cons v r ih =>
      intro kvs kl hdk hl hv
      cases hdk with
      | nil => simp at hl
      | @cons p q _ _ e hr =>
        obtain ⟨k, x, e1, e2⟩ := hv 0 v rfl
        simp only [List.getElem?_cons_zero, Option.some.injEq] at e1
        subst e1
        obtain ⟨t, rfl⟩ := Value.isStrOf_shape e2
        refine .cons ⟨t, by rw [← e.1]⟩ (ih _ _ hr (by simpa using hl) fun j v e => hv (j + 1) v e)
  exact key us kvs kl hdk hl hv
theorem valueAt_mem {kvs : List (Str × Value)} (hn : (kvs.map (·.1)).Nodup) {k : Str} {v : Value} (h : (k, v) ∈ kvs) : valueAt kvs k = some v := by
  induction kvs with
  | nil => cases h
  | cons p r ih =>
    rw [List.map_cons, List.nodup_cons] at hn
    unfold valueAt
    rw [List.find?_cons]
    by_cases hk : p.1 = k
    · rw [decide_eq_true hk]
      rcases List.mem_cons.mp h with rfl | h
      · rfl
      · exact absurd (hk ▸ List.mem_map_of_mem h) hn.1
    · rw [decide_eq_false hk]
      rcases List.mem_cons.mp h with rfl | h
      · exact absurd rfl hk
      · exact ih hn.2 h
theorem vr_eq {v y : Value} {ov : Option (List Nat)} (h1 : VR v ov) (h2 : VR y ov) : SeqAt.EqAt A s v y true := by
  cases ov with
  | none => have h1 : v = .none := h1; have h2 : y = .none := h2; subst h1 h2; exact SeqAt.EqAt.same _
  | some l =>
    obtain ⟨t1, rfl⟩ := h1
    obtain ⟨t2, rfl⟩ := h2
    have := SeqAt.EqAt.str_str (A := A) (s := s) (S l) t1 (S l) t2
    simpa using this
theorem dk_hits {ka kb : List (Str × Value)} {kl : List (List Nat × Option (List Nat))} (ha : DK ka kl) (hb : DK kb kl) (hn : (kb.map (·.1)).Nodup) : KeqHits A s kb ka true := by
  have key : ∀ (ka kc : List (Str × Value)) (kl : List (List Nat × Option (List Nat))), DK ka kl → DK kc kl → (∀ p ∈ kc, p ∈ kb) → KeqHits A s kb ka true := by
    intro ka
    induction ka with
    | nil => intro kc kl _ _ _; exact .nil
    | cons p r ih =>
      intro kc kl h1 h2 hk
      cases h1 with
      | cons e1 r1 =>
        cases h2 with
        | @cons q _ _ _ e2 r2 =>
          have := KeqHits.hit (A := A) (s := s) (kb := kb) (k := p.1) (v := p.2) (y := q.2) (e := true) (valueAt_mem hn (by rw [e1.1, ← e2.1]; exact hk q (.head _))) (vr_eq e1.2 e2.2) (ih _ _ r1 r2 fun x hx => hk x (.tail _ hx))
          exact this
  exact key ka kb kl ha hb fun _ h => h
theorem sd_nodup {o : Obj} {kvs : List (Str × Value)} (h : SD w o kvs) : (kvs.map (·.1)).Nodup := let ⟨_, _, _, _, _, _, hn⟩ := h; hn
theorem q_dne {oa ob : Obj} {ka kb : List (Str × Value)} {kl : List (List Nat × Option (List Nat))} (X : Cx w g L m nw h) (pa : (a, oa) ∈ nw) (pb : (b, ob) ∈ nw) (da : SD w oa ka) (db : SD w ob kb) (la : (a == sysModules) = false) (lb : (b == sysModules) = false) (ea : DK ka kl) (eb : DK kb kl) (hu : A.units < cLine)
    (H : Q (.bool false) (st s h tk)) : wpAny (model pg w) A (compareOp .NotEq (.ref a) (.ref b)) Q E (st s h tk) :=
  kne_pairs (s := st s h tk) X.N pa pb da db la lb (by rw [ea.length, eb.length]) hu (dk_hits ea eb (sd_nodup db)) H
theorem q_deq {oa ob : Obj} {ka kb : List (Str × Value)} {kl : List (List Nat × Option (List Nat))} (X : Cx w g L m nw h) (pa : (a, oa) ∈ nw) (pb : (b, ob) ∈ nw) (da : SD w oa ka) (db : SD w ob kb) (la : (a == sysModules) = false) (lb : (b == sysModules) = false) (ea : DK ka kl) (eb : DK kb kl) (hu : A.units < cLine)
    (H : Q (.bool true) (st s h tk)) : wpAny (model pg w) A (compareOp .Eq (.ref a) (.ref b)) Q E (st s h tk) :=
  keq_pairs (s := st s h tk) X.N pa pb da db la lb (by rw [ea.length, eb.length]) hu (dk_hits ea eb (sd_nodup db)) H
/-- the two calls of the project's code, in a frame whose ledger ends with the tables -/
theorem pdh_cx {pre T : List (Addr × Obj)} {x : List Nat} (X : Cx w g L m (pre ++ T) h) (tx : TabX g T) (hp : ∀ q ∈ pre, q.1 ≠ 52 ∧ q.1 ≠ 59) (hh : A.handled = none) (hdp : A.depth + 20 < recursionLimit) (hx : x.length ≤ 500) (hs : Sound x) (hn : ∀ c ∈ x, c ≠ 10)
    (H : ∀ s' h' tk' d o kvs T', GR s s' → Cx w g L m ((d, o) :: (pre ++ T')) h' → TabX g T' → SD w o kvs → DK kvs (dictL x) → (d == sysModules) = false → (d ≠ 52 ∧ d ≠ 59) → Q (.ref d) (st s' h' tk')) :
    wpAny (model pg w) A (call (.ref 69) [.str (S x) t]) Q E (st s h tk) := by
  have W1 := Cx.wgh X tx.1
  have T1 := Cx.tb X tx.1
  refine pdh_spec W1 T1 hh hdp hx hs hn fun s' h' tk' d kvs gr kp T' hd lo hD hdk => ?_
  obtain ⟨T2, tx2, X2⟩ := Cx.back2 X tx.1 hp kp T'
  obtain ⟨o, ho, hsd⟩ := Heap.dictOf_iff.mp hD
  refine H s' h' tk' d o kvs T2 gr (Cx.put X X2 hd ho) tx2 hsd hdk lo ?_
  obtain ⟨ps1, ps2, C, rfl, _⟩ := tx.1
  constructor
  · rintro rfl; rw [(X.N (52, tabObj ps1) (List.mem_append_right _ (.head _))).1] at hd; cases hd
  · rintro rfl; rw [(X.N (59, tabObj ps2) (List.mem_append_right _ (.tail _ (.head _)))).1] at hd; cases hd
theorem plh_cx {pre T : List (Addr × Obj)} {x : List Nat} (X : Cx w g L m (pre ++ T) h) (tx : TabX g T) (hp : ∀ q ∈ pre, q.1 ≠ 52 ∧ q.1 ≠ 59) (hh : A.handled = none) (hdp : A.depth + 20 < recursionLimit) (hx : x.length ≤ 500) (hn : ∀ c ∈ x, c ≠ 10)
    (H : ∀ s' h' tk' d vs k T', GR s s' → Cx w g L m ((d, PySem.W.listOf vs.toArray k) :: (pre ++ T')) h' → TabX g T' → StrsV vs (itemsL x) → (d ≠ 52 ∧ d ≠ 59) → Q (.ref d) (st s' h' tk')) :
    wpAny (model pg w) A (call (.ref 62) [.str (S x) t]) Q E (st s h tk) := by
  have W1 := Cx.wgh X tx.1
  have T1 := Cx.tb X tx.1
  refine plh_spec W1 T1 hh (by omega) (by omega) hn fun s' h' tk' d vs k gr kp T' hd hD hvs => ?_
  obtain ⟨T2, tx2, X2⟩ := Cx.back2 X tx.1 hp kp T'
  refine H s' h' tk' d vs k T2 gr (Cx.put X X2 hd hD) tx2 hvs ?_
  obtain ⟨ps1, ps2, C, rfl, _⟩ := tx.1
  constructor
  · rintro rfl; rw [(X.N (52, tabObj ps1) (List.mem_append_right _ (.head _))).1] at hd; cases hd
  · rintro rfl; rw [(X.N (59, tabObj ps2) (List.mem_append_right _ (.tail _ (.head _)))).1] at hd; cases hd
end
/-- the pieces -/
def soundB : List Nat → Bool
  | [] => true
  | 37 :: 52 :: 49 :: r => soundB r
  | 37 :: 67 :: 51 :: 37 :: 65 :: 57 :: r => soundB r
  | 37 :: 70 :: 70 :: r => soundB r
  | 37 :: 69 :: 50 :: 37 :: 56 :: 50 :: r => soundB r
  | c :: r => c != 37 && decide (c < 128) && soundB r
theorem soundB_ok : ∀ (n : Nat) (l : List Nat), l.length ≤ n → soundB l = true → Sound l := by
  intro n
  induction n with
  | zero => intro l hl _; rw [List.eq_nil_of_length_eq_zero (Nat.le_zero.mp hl)]; exact .nil
  | succ n ih =>
    intro l hl h
    unfold soundB at h
    split at h
    · exact .nil
    · exact .s0 (ih _ (by simp at hl; omega) h)
    · exact .s1 (ih _ (by simp at hl; omega) h)
    · exact .s2 (ih _ (by simp at hl; omega) h)
    · exact .s3 (ih _ (by simp at hl; omega) h)
    · simp only [Bool.and_eq_true, bne_iff_ne, ne_eq, decide_eq_true_eq] at h
      exact .ch h.1.1 h.1.2 (ih _ (by simp at hl; omega) h.2)
def pieceOk : Value → Bool
  | .str y _ => soundB y.cps.toList && y.cps.toList.all (· != 10) && decide (y.cps.toList.length ≤ 20)
  | _ => false
theorem pieceOk_of {v : Value} (h : pieceOk v = true) : ∃ l t, v = .str (S l) t ∧ Sound l ∧ (∀ c ∈ l, c ≠ 10) ∧ l.length ≤ 20 := by
  cases v <;> try (cases h)
  rename_i y t
  simp only [pieceOk, Bool.and_eq_true, List.all_eq_true, bne_iff_ne, ne_eq, decide_eq_true_eq] at h
  exact ⟨y.cps.toList, t, by rw [← S_of], soundB_ok _ _ (Nat.le_refl _) h.1.1, h.1.2, h.2⟩
def piecesIn (o : Option Obj) : Bool := match o with
  | some ⟨.type "list", none, .seq its _, sl⟩ => sl.isEmpty && (its.toList.all pieceOk && its.size == 27)
  | _ => false
theorem pieces_ok (p : Params) : piecesIn ((hd.heap_39 p).lookup 75) = true := by kernel_rfl
theorem pieces_at {w : World} {h : Heap} (W : Wd w h) : ∃ (vs : List Value) (n : Nat), h.get? 75 = some (PySem.W.listOf vs.toArray n) ∧ vs.length = 27 ∧ ∀ v ∈ vs, ∃ l t, v = Value.str (S l) t ∧ Sound l ∧ (∀ c ∈ l, c ≠ 10) ∧ l.length ≤ 20 := by
  have e := pieces_ok w.params
  unfold piecesIn at e
  split at e
  · rename_i its n sl he
    simp only [Bool.and_eq_true, List.all_eq_true, beq_iff_eq] at e
    have hsl : sl = #[] := Array.isEmpty_iff.mp e.1
    subst hsl
    exact ⟨its.toList, n, by rw [W.K 75 _ he], by simpa using e.2.2, fun v hv => pieceOk_of (e.2.1 v hv)⟩
  · cases e
/-- the end that the law's call is to reach -/
def LawEnd (s₁ : Shared) (r : Result) (s' : Shared) : Prop := r = .ok (.ret (.bool true)) ∧ (∀ b o, (ghostOf s₁.heap [(56, 52), (61, 59)]).get? b = some o → s'.heap.get? b = some o) ∧ s'.os = s₁.os ∧ AllB s'.gens ∧ GrownAll [(56, 52), (61, 59)] s'.heap
theorem law_post {M : Model} {A : Around} {cd : Code} {s s₁ : Shared} {cw : ClaimW} {cl : Str → Option Addr} {mean : ExcName → Option Value} {args : List WData} (hT : TabsAt [(56, 52), (61, 59)] s₁.heap) (hr : ∀ a x, cw.raises a x = false) (hp : cw.post args (.bool true) args = true)
    (h : codeAny M A cd (LawEnd s₁) s) : codeAny M A cd (GoodWG cw cl mean args s₁) s :=
  codeAny_mono h fun r s' ⟨he, hk, hos, hg, hgr⟩ => by
    have keep : ∀ b o, b ∉ ([(56, 52), (61, 59)] : List (Addr × Addr)).map (·.2) → s₁.heap.get? b = some o → s'.heap.get? b = some o := fun b o hb e => hk b o (ghost_ne e hb)
    have grown : ∀ b o, b ∈ ([(56, 52), (61, 59)] : List (Addr × Addr)).map (·.2) → s₁.heap.get? b = some o → isCodeTable s₁.heap b ∧ o = tabObj #[] ∧ ∃ ps, s'.heap.get? b = some (tabObj ps) := fun b o hb e => by
      obtain ⟨q, hq, rfl⟩ := List.mem_map.mp hb
      have e2 := (hT q hq).2
      rw [e] at e2
      exact ⟨((hT q hq).1.tab (hT q hq).2).isCodeTable, Option.some.inj e2, hgr.get q hq⟩
    refine ⟨.inl ⟨_, .bool true, [], he, hr _, .bool true, hp, unshared_nil⟩, ⟨fun b o e => ?_, fun b o e => ?_⟩, hos, hg⟩
    · by_cases hb : b ∈ ([(56, 52), (61, 59)] : List (Addr × Addr)).map (·.2)
      · obtain ⟨ht, rfl, ps, hP⟩ := grown b o hb e
        exact .inr (.inl ⟨ht, rfl, #[], ps, rfl, by rw [Array.empty_append]; exact hP⟩)
      · exact .inl (keep b o hb e)
    · by_cases hb : b ∈ ([(56, 52), (61, 59)] : List (Addr × Addr)).map (·.2)
      · obtain ⟨_, _, ps, hP⟩ := grown b o hb e
        exact ⟨_, hP⟩
      · exact ⟨o, keep b o hb e⟩
/-- behind the law's body -/
def LawQ (s₁ : Shared) (f : Flow) (s' : Shared) : Prop := LawEnd s₁ (.ok (.ret (match f with | .ret v => v | _ => .none))) s'
theorem law_end {w : World} {s₁ s' : Shared} {h' : Heap} {tk' : Nat} {L : Addr} {m : Str → Option Value} {nw T : List (Addr × Obj)} (X : Cx w (ghostOf s₁.heap [(56, 52), (61, 59)]) L m (nw ++ T) h') (tx : TabX (ghostOf s₁.heap [(56, 52), (61, 59)]) T) (gr : GR s₁ s') (hg : s₁.gens = #[]) : LawQ s₁ (.ret (.bool true)) (st s' h' tk') := by
  obtain ⟨ps1, ps2, C, rfl, _⟩ := tx.1
  refine ⟨rfl, X.F.keep, gr.1, gr.2 ?_, ⟨ps1, (X.N (52, tabObj ps1) (List.mem_append_right _ (.head _))).1⟩, ⟨ps2, (X.N (59, tabObj ps2) (List.mem_append_right _ (.tail _ (.head _)))).1⟩, trivial⟩
  rw [hg]; intro y hy; simp at hy
end Mine
end
section
open PySem PySem.W PySem.Calls PyProof.Rows PyProof PyProof.V
set_option Elab.async false
set_option maxRecDepth 100000
set_option maxHeartbeats 4000000
set_option autoImplicit false
namespace Mine
theorem Sound.cat {a b : List Nat} (ha : Sound a) (hb : Sound b) : Sound (a ++ b) := by
  induction ha with
  | nil => exact hb
  | ch h1 h2 _ ih => exact .ch h1 h2 ih
  | s0 _ ih => exact .s0 ih
  | s1 _ ih => exact .s1 ih
  | s2 _ ih => exact .s2 ih
  | s3 _ ih => exact .s3 ih
/-- a piece -/
def Pce (l : List Nat) : Prop := Sound l ∧ (∀ c ∈ l, c ≠ 10) ∧ l.length ≤ 20
theorem pces {vs ys : List Value} (h : Paired (fun _ y => ∃ l t, y = Value.str (S l) t ∧ Pce l) vs ys) : ∃ ls : List (List Nat), StrsV ys ls ∧ Sound ls.flatten ∧ (∀ c ∈ ls.flatten, c ≠ 10) ∧ ls.flatten.length ≤ 20 * vs.length := by
  induction h with
  | nil => exact ⟨[], .nil, .nil, (by intro c hc; simp at hc), (by simp)⟩
  | cons e _ ih =>
    obtain ⟨l, t, rfl, s, n, z⟩ := e
    obtain ⟨ls, h1, h2, h3, h4⟩ := ih
    refine ⟨l :: ls, .cons ⟨t, rfl⟩ h1, ?_, ?_, ?_⟩
    · rw [List.flatten_cons]; exact s.cat h2
    · intro c hc
      rw [List.flatten_cons] at hc
      rcases List.mem_append.mp hc with hc | hc
      · exact n c hc
      · exact h3 c hc
    · rw [List.flatten_cons, List.length_append, List.length_cons]; omega
theorem j4 {p : Nat → Prop} (h0 : p 0) (h1 : p 1) (h2 : p 2) (h3 : p 3) : ∀ j, j < 4 → p j := by
  intro j hj
  match j, hj with
  | 0, _ => exact h0
  | 1, _ => exact h1
  | 2, _ => exact h2
  | 3, _ => exact h3
theorem kU : ∀ j, j < 4 → dictL (lit "k*=UTF-8''" ++ stx j) = [(lit "k", some (fU j))] := j4 (by decide +kernel) (by decide +kernel) (by decide +kernel) (by decide +kernel)
theorem kL : ∀ j, j < 4 → dictL ((lit "k*=iso-8859-1'x'" ++ stx j) ++ lit "z") = [(lit "k", some (fL j ++ lit "z"))] := j4 (by decide +kernel) (by decide +kernel) (by decide +kernel) (by decide +kernel)
theorem kx : dictL (lit "k*=\"x\"") = [(lit "k", some (lit "x"))] := by decide +kernel
theorem okU : ∀ j, j < 4 → soundB (lit "k*=UTF-8''" ++ stx j) = true ∧ ((lit "k*=UTF-8''" ++ stx j).all (· != 10) && decide ((lit "k*=UTF-8''" ++ stx j).length ≤ 500)) = true := j4 (by decide +kernel) (by decide +kernel) (by decide +kernel) (by decide +kernel)
theorem okL : ∀ j, j < 4 → soundB ((lit "k*=iso-8859-1'x'" ++ stx j) ++ lit "z") = true ∧ (((lit "k*=iso-8859-1'x'" ++ stx j) ++ lit "z").all (· != 10) && decide (((lit "k*=iso-8859-1'x'" ++ stx j) ++ lit "z").length ≤ 500)) = true := j4 (by decide +kernel) (by decide +kernel) (by decide +kernel) (by decide +kernel)
theorem okx : soundB (lit "k*=\"x\"") = true ∧ ((lit "k*=\"x\"").all (· != 10) && decide ((lit "k*=\"x\"").length ≤ 500)) = true := by decide +kernel
theorem ok_of {x : List Nat} (h : soundB x = true ∧ (x.all (· != 10) && decide (x.length ≤ 500)) = true) : Sound x ∧ (∀ c ∈ x, c ≠ 10) ∧ x.length ≤ 500 := by
  obtain ⟨a, b⟩ := h
  simp only [Bool.and_eq_true, List.all_eq_true, bne_iff_ne, ne_eq, decide_eq_true_eq] at b
  exact ⟨soundB_ok _ _ (Nat.le_refl _) a, b.1, b.2⟩
theorem row_dec : ∀ j, j < 4 → unqB (stx j) = sby j ∧ ∀ f : Nat → List Nat, dcd f (stx j) = f j := by
  intro j hj
  refine ⟨j4 (p := fun j => unqB (stx j) = sby j) (by decide +kernel) (by decide +kernel) (by decide +kernel) (by decide +kernel) j hj, fun f => ?_⟩
  have := dcd_stx f j hj []
  rw [List.append_nil] at this
  rw [this]; simp [dcd]
theorem row_txt (j : Nat) (hj : j < 4) (enc : List Nat) : DecR enc (sby j) (colF enc j) := by
  obtain ⟨a, b⟩ := row_dec j hj
  have := (Sound.pre hj .nil).dec enc
  rw [List.append_nil, a, b] at this
  exact this
theorem row_lens : ∀ j, j < 4 → (sby j).length ≤ 1000 ∧ (stx j).length ≤ 100 ∧ (fU j).length ≤ 100 ∧ (fL j).length ≤ 100 ∧ (fA j).length ≤ 100 := j4 (by decide) (by decide) (by decide) (by decide)
theorem col_u (j : Nat) : colF (lit "utf-8") j = fU j := by unfold colF; rw [if_pos rfl]
theorem col_l (j : Nat) : colF (lit "iso-8859-1") j = fL j := by unfold colF; rw [if_neg (by decide), if_pos rfl]
theorem col_a (j : Nat) : colF (lit "ascii") j = fA j := by unfold colF; rw [if_neg (by decide), if_neg (by decide)]
theorem col_s (j : Nat) : colF (lit "us-ascii") j = fA j := by unfold colF; rw [if_neg (by decide), if_neg (by decide)]
def RowO (o : Obj) (j : Nat) : Prop := ∃ t0 t1 t2 t3 t4, o = { cls := .type "tuple", data := .seq #[.str (S (stx j)) t0, .bytes (B8 (sby j)) t1, .str (S (fU j)) t2, .str (S (fL j)) t3, .str (S (fA j)) t4] }
theorem row_o {h : Heap} {b : Addr} {j : Nat} (r : RowAt h b j) : ∃ o, h.get? b = some o ∧ RowO o j := let ⟨a, b, c, d, e, q⟩ := r; ⟨_, q, a, b, c, d, e, rfl⟩
end Mine
end
section
open PySem PySem.W PySem.Calls PyProof.Rows PyProof PyProof.V
set_option Elab.async false
set_option maxRecDepth 100000
set_option maxHeartbeats 8000000
namespace Mine
local macro_rules | `(tactic| walk_at "m") => `(tactic| first | exact .head _ | exact .tail _ (.head _) | exact .tail _ (.tail _ (.head _)) | exact .tail _ (.tail _ (.tail _ (.head _))) | exact .tail _ (.tail _ (.tail _ (.tail _ (.head _)))) | exact .tail _ (.tail _ (.tail _ (.tail _ (.tail _ (.head _))))) | exact .tail _ (.tail _ (.tail _ (.tail _ (.tail _ (.tail _ (.head _)))))) | exact .tail _ (.tail _ (.tail _ (.tail _ (.tail _ (.tail _ (.tail _ (.head _))))))) | exact .tail _ (.tail _ (.tail _ (.tail _ (.tail _ (.tail _ (.tail _ (.tail _ (.head _)))))))) | exact .tail _ (.tail _ (.tail _ (.tail _ (.tail _ (.tail _ (.tail _ (.tail _ (.tail _ (.head _))))))))))
local macro_rules | `(tactic| walk_at "n") => `(tactic| first
  | (refine' r_name ?l ?k ?n ?v ?_ ?b; (case l => k_dflt rfl); (case k => k_dflt rfl); (case n => k_dflt (first | exact Cx.ns (by assumption) | exact Ck.ns (by assumption))); (case v => k_dflt (first | rfl | assumption)); (case b => k_dflt decide))
  | (refine' r_glob ?l ?k ?g ?e ?w ?_ ?b; (case l => k_dflt rfl); (case k => k_dflt rfl); (case g => k_dflt rfl); (case e => first | exact gl_read _ | exact gl_items _ | exact gl_decoded _ | exact gl_charset _ | exact gl_dict _ | exact gl_text _ | exact gl_unquote _ | exact gl_unslash _ | exact gl_uhv _ | exact gl_plh _ | exact gl_pdh _ | exact gl_cvre _ | exact gl_pieces _ | exact gl_stretches _ | exact gl_charsets _ | assumption); (case w => first | exact Cx.wd (by assumption) | exact Ck.wd (by assumption) | assumption); (case b => k_dflt decide))
  | (refine' r_bi ?l ?k ?g ?h (gl_len _) bb_len ?n ?w ?_ ?b; (case l => k_dflt rfl); (case k => k_dflt rfl); (case g => k_dflt rfl); (case h => k_dflt rfl); (case n => k_dflt decide); (case w => first | exact Cx.wd (by assumption) | exact Ck.wd (by assumption) | assumption); (case b => k_dflt decide))
  | (refine' r_bi ?l ?k ?g ?h (gl_ord _) bb_ord ?n ?w ?_ ?b; (case l => k_dflt rfl); (case k => k_dflt rfl); (case g => k_dflt rfl); (case h => k_dflt rfl); (case n => k_dflt decide); (case w => first | exact Cx.wd (by assumption) | exact Ck.wd (by assumption) | assumption); (case b => k_dflt decide))
  | (refine' r_bi ?l ?k ?g ?h (gl_int _) bb_int ?n ?w ?_ ?b; (case l => k_dflt rfl); (case k => k_dflt rfl); (case g => k_dflt rfl); (case h => k_dflt rfl); (case n => k_dflt decide); (case w => first | exact Cx.wd (by assumption) | exact Ck.wd (by assumption) | assumption); (case b => k_dflt decide))
  | (refine' r_bi ?l ?k ?g ?h (gl_bytes _) bb_bytes ?n ?w ?_ ?b; (case l => k_dflt rfl); (case k => k_dflt rfl); (case g => k_dflt rfl); (case h => k_dflt rfl); (case n => k_dflt decide); (case w => first | exact Cx.wd (by assumption) | exact Ck.wd (by assumption) | assumption); (case b => k_dflt decide))
  | (refine' r_bi ?l ?k ?g ?h (gl_list _) bb_list ?n ?w ?_ ?b; (case l => k_dflt rfl); (case k => k_dflt rfl); (case g => k_dflt rfl); (case h => k_dflt rfl); (case n => k_dflt decide); (case w => first | exact Cx.wd (by assumption) | exact Ck.wd (by assumption) | assumption); (case b => k_dflt decide))
  | (refine' r_nameC ?l ?k ?c ?v ?_ ?b; (case l => k_dflt rfl); (case k => k_dflt rfl); (case c => k_dflt rfl); (case v => k_dflt (first | exact Ck.cell (by assumption) (by assumption) | exact Cx.cell (by assumption) (by walk_at "m") (by assumption))); (case b => k_dflt decide)))
local macro_rules | `(tactic| walk_at "s") => `(tactic| (with_reducible first
  | (refine' x_snE ?x ?e ?_ ?z ?c ?d; (case x => assumption); (case e => assumption); (case z => omega); (case c => intro _; k_dflt rfl); (case d => intro _; k_dflt rfl); intro _ _ _ _)
  | (refine' x_nsE ?x ?e ?_ ?z ?c ?d; (case x => assumption); (case e => assumption); (case z => omega); (case c => intro _; k_dflt rfl); (case d => intro _; k_dflt rfl); intro _ _ _ _)
  | (refine' m_stripE ?e ?z ?_; (case e => assumption); (case z => omega); intro _ _)
  | (refine' br_dT ?h ?_; (case h => (first | assumption | omega | rfl | exact List.cons_ne_nil _ _)))
  | (refine' br_dF ?h ?_; (case h => (first | assumption | omega | rfl | exact List.cons_ne_nil _ _)))
  | (refine' br_nT ?h ?_; (case h => (first | assumption | omega | rfl | exact List.cons_ne_nil _ _)))
  | (refine' br_nF ?h ?_; (case h => (first | assumption | omega | rfl | exact List.cons_ne_nil _ _)))
  | (refine' br_nnT ?h ?_; (case h => (first | assumption | omega | rfl | exact List.cons_ne_nil _ _)))
  | (refine' br_nnF ?h ?_; (case h => (first | assumption | omega | rfl | exact List.cons_ne_nil _ _)))
  | (refine' r_cons ?_)
  | (refine' r_nil ?_)
  | (refine' r_assign ?_ ?a; (case a => k_dflt rfl))
  | (refine' r_if ?_)
  | (refine' r_ret ?_)
  | (refine' r_continue ?_)
  | (refine' r_aug ?_)
  | (refine' r_store ?x ?_ ?a ?b; (case x => assumption); (case a => k_dflt rfl); (case b => k_dflt rfl); intro _ _ _)
  | ((show wpAny _ _ (eval (Expr.Name _ _) _) _ _ _); walk_at "n")
  | (refine' r_load ?l ?k ?n ?v ?_; (case l => k_dflt rfl); (case k => k_dflt rfl); (case n => k_dflt (first | exact Cx.ns (by assumption) | exact Ck.ns (by assumption))); (case v => k_dflt (first | rfl | assumption)))
  | (refine' r_int ?_; intro _ _)
  | (refine' r_str ?_; intro _ _)
  | (refine' r_bool ?_)
  | (refine' r_none ?_)
  | (refine' r_expr ?_ ?a ?b; (case a => k_dflt rfl); (case b => k_dflt rfl))
  | (refine' and_none ?_)
  | (refine' r_list0 ?x ?_; (case x => assumption); intro _ _ _ _ _)
  | (refine' gm_append ?x ?_; (case x => assumption))
  | (refine' m_append ?x ?e ?z ?_; (case x => assumption); (case e => first | assumption | exact List.forall_mem_nil _); (case z => omega); intro _ _ _)
  | (refine' e_not ?_)
  | (refine' v_str ?z ?_; (case z => (try simp only [List.length_append, List.length_cons, List.length_nil, lit_nil, lit_dq, lit_sq]); omega); intro _)
  | (refine' gm_strip ?_)
  | (refine' m_strip ?z ?_; (case z => omega); intro _ _)
  | (refine' r_binop ?_)
  | (refine' r_cmp ?_ ?a; (case a => k_dflt rfl))
  | (refine' r_ifexp ?_)
  | (refine' t_cmp ?_ ?a; (case a => k_dflt rfl))
  | (refine' t_not ?_)
  | (refine' t_and0 ?_)
  | (refine' t_or0 ?_)
  | (refine' t_and ?_)
  | (refine' t_or ?_)
  | (refine' t_name ?_)
  | (refine' t_call ?_)
  | (refine' v_bool ?_)
  | (refine' r_call ?_ ?a; (case a => k_dflt rfl))
  | (refine' r_mcall ?_ ?a; (case a => exact ⟨_, by k_dflt rfl⟩); intro _)
  | (refine' c_fn ?_ ?a ?b; (case a => k_dflt rfl); (case b => k_dflt rfl))
  | (refine' c_me ?_ ?a ?b; (case a => k_dflt rfl); (case b => k_dflt rfl))
  | (refine' c_bi0 ?_)
  | (refine' sp_more ?_ ?a; (case a => k_dflt rfl))
  | (refine' sp_none ?_)
  | (refine' c_def ?w ?k ?_ ?a ?b; (case w => first | exact Cx.wd (by assumption) | exact Ck.wd (by assumption) | assumption); (case k => first | exact kp_38 _ | exact kp_45 _ | exact kp_57 _ | exact kp_62 _ | exact kp_69 _ | exact kp_82 _ | exact kp_89 _ | exact kp_96 _ | exact kp_101 _ | exact kp_106 _ | exact kp_111 _ | exact kp_118 _); (case a => k_dflt rfl); (case b => k_dflt rfl))
  | (refine' c_def0 ?w ?k ?_; (case w => first | exact Cx.wd (by assumption) | exact Ck.wd (by assumption) | assumption); (case k => first | exact kp_82 _ | exact kp_89 _))
  | (refine' in_K ?w ?_; (case w => first | exact Cx.wd (by assumption) | exact Ck.wd (by assumption) | assumption))
  | (refine' r_sub ?_)
  | (refine' s_slice ?_)
  | (refine' s_some ?_)
  | (refine' s_none ?_)
  | (refine' r_neg ?_; intro _ _)
  | (refine' gm_starts ?_)
  | (refine' gm_ends ?_)
  | (refine' m_starts ?c ?_; (case c => first | exact lit_dq | exact lit_star))
  | (refine' m_ends ?c ?_; (case c => first | exact lit_dq | exact lit_star))
  | (refine' r_or2 ?_)
  | (refine' gm_group ?x ?_; (case x => assumption))
  | (refine' m_group ?x ?k ?z ?_; (case x => assumption); (case k => assumption); (case z => omega); intro _ _)
  | (refine' gm_decode ?_)
  | (refine' gm_sub ?w ?_; (case w => first | exact Cx.wd (by assumption) | assumption))
  | (refine' b_addI ?_; intro _ _)
  | (refine' b_subI ?_; intro _ _)
  | (refine' q_ltI ?_)
  | (refine' q_gtI ?_)
  | (refine' q_geI ?_)
  | (refine' q_eqS ?_)
  | (refine' q_neS ?_)
  | (refine' b_iaddS ?_ ?z; (case z => (try simp only [List.length_append, List.length_cons, List.length_nil, lit_nil, lit_dq, lit_sq]); omega); intro _ _)
  | (refine' b_iaddI ?_; intro _ _)
  | (refine' p_len ?_ ?z; (case z => omega); intro _ _)
  | (refine' b_addS ?_ ?z; (case z => (try simp only [List.length_append, List.length_cons, List.length_nil, lit_nil, lit_dq, lit_sq]); omega); intro _ _)
  | (refine' x_item ?a ?b ?_ ?z ?c ?d; (case a => omega); (case b => omega); (case z => omega); (case c => k_dflt rfl); (case d => intro _; k_dflt rfl); intro _ _)
  | (refine' x_slice_ss ?x ?_ ?z ?c ?d; (case x => assumption); (case z => omega); (case c => intro _; k_dflt rfl); (case d => intro _; k_dflt rfl); intro _ _ _ _)
  | (refine' x_slice_sn ?x ?_ ?z ?c ?d; (case x => assumption); (case z => omega); (case c => intro _; k_dflt rfl); (case d => intro _; k_dflt rfl); intro _ _ _ _)
  | (refine' x_slice_ns ?x ?_ ?z ?c ?d; (case x => assumption); (case z => omega); (case c => intro _; k_dflt rfl); (case d => intro _; k_dflt rfl); intro _ _ _ _)
  | (refine' r_named ?_)
  | (refine' gm_match ?w ?_; (case w => first | exact Cx.wd (by assumption) | assumption))
  | (refine' r_unpack2 ?h ?x ?t ?_; (case h => k_dflt assumption); (case x => assumption); (case t => k_dflt (exact Cx.at_ (by assumption) (.head _))); intro _ _)
  | (refine' r_callkw ?_)
  | (refine' c_defkw ?w ?k ?_ ?e; (case w => first | exact Cx.wd (by assumption) | assumption); (case k => exact kp_45 _); (case e => k_dflt rfl))
  | (refine' r_storeX ?x ?_ ?a ?b; (case x => assumption); (case a => k_dflt rfl); (case b => k_dflt rfl); intro _ _ _)
  | (refine' x_slice_k ?x ?_ ?z ?c ?d; (case x => assumption); (case z => omega); (case c => intro _; k_dflt rfl); (case d => intro _; k_dflt rfl); intro _ _ _ _)
  | (refine' x_tup ?t ?i ?j ?x ?_ ?c; (case t => k_dflt (first | exact Cx.at_ (by assumption) (by walk_at "m") | exact Ck.keep (by assumption) _ _ (by assumption))); (case i => omega); (case j => omega); (case x => k_dflt (first | assumption | rfl)); (case c => k_dflt rfl))
  | (refine' x_lst ?t ?i ?j ?x ?_ ?c; (case t => k_dflt (first | exact Cx.at_ (by assumption) (by walk_at "m") | exact Ck.keep (by assumption) _ _ (by assumption))); (case i => omega); (case j => omega); (case x => k_dflt (first | assumption | rfl)); (case c => k_dflt rfl))
  | (refine' q_nenil ?a ?b ?u ?_; (case a => k_dflt (exact Cx.at_ (by assumption) (by walk_at "m"))); (case b => k_dflt (exact Cx.at_ (by assumption) (by walk_at "m"))); (case u => ((try simp only [Around.deeper_units]); omega)))
  | (refine' gm_find ?_)
  | (refine' m_findz ?c ?f ?_; (case c => first | exact lit_sq | exact lit_eq); (case f => assumption); intro _ _)
  | (refine' gm_lower ?_)
  | (refine' m_lower ?z ?_; (case z => omega); intro _ _)
  | (refine' gm_part ?_)
  | (refine' nin_S ?_)
  | (refine' d_in ?d ?l ?_; (case d => assumption); (case l => assumption); intro _)
  | (refine' d_item ?d ?v ?_ ?c; (case d => assumption); (case v => assumption); (case c => k_dflt rfl); intro _)
  | (refine' q_isn ?_)
  | (refine' q_isnr ?_)
  | (refine' r_dict0 ?x ?_; (case x => assumption); intro _ _ _ _ _ _ _ _)
  | (refine' r_dictN ?x ?a ?b ?c ?e ?_; (case x => assumption); (case a => k_dflt rfl); (case b => k_dflt rfl); (case c => k_dflt (exact List.cons_ne_nil _ _)); (case e => k_dflt decide); intro _ _ _ _ _ _ _)
  | (refine' k_cons ?_)
  | (refine' k_nil ?_)
  | (refine' k_made ?x ?d ?a ?k ?n ?_; (case x => assumption); (case d => assumption); (case a => assumption); (case k => k_dflt rfl); (case n => (simp only [strPairs, List.map]; k_dflt (decide +kernel))); intro _ _ _ _ _)
  | (refine' r_dset ?_ ?a; (case a => k_dflt rfl))
  | (refine' d_set ?x ?u ?d ?z ?_; (case x => assumption); (case u => first | exact UpdF.head (by assumption)); (case d => assumption); (case z => omega); intro _ _ _ _ _)
  | (refine' b_iaddB ?_ ?z; (case z => (try simp only [List.length_append, List.length_cons, List.length_nil]); omega); intro _ _)
  | (refine' r_bytes0 ?_; intro _ _)
  | (refine' r_bytesC ?_; intro _ _)
  | (refine' r_list1 ?_ ?e; (case e => k_dflt rfl))
  | (refine' d_end ?x ?_; (case x => assumption); intro _ _ _ _)
  | (refine' r_listN ?_)
  | (refine' l_end ?x ?z ?_; (case x => assumption); (case z => simp only [List.length_cons, List.length_nil]; omega); intro _ _ _ _)
  | (refine' r_asgtup ?_ ?a ?b; (case a => k_dflt rfl); (case b => k_dflt rfl))
  | (refine' r_tuple ?_)
  | (refine' t_end ?x ?z ?_; (case x => assumption); (case z => simp only [List.length_cons, List.length_nil]; omega); intro _ _ _)
  | (refine' r_unpack3 ?h ?x ?t ?_; (case h => k_dflt assumption); (case x => assumption); (case t => k_dflt (exact (Cx.N (by assumption) _ (.head _)).1)); intro _ _)
  | (refine' c_ty ?_ ?a ?b; (case a => k_dflt rfl); (case b => k_dflt rfl))
  | (refine' in_S ?_)
  | (refine' p_ord ?_; intro _ _)
  | (refine' c_bytes1 ?h ?x ?v ?_; (case h => k_dflt assumption); (case x => assumption); (case v => omega); intro _ _ _ _)
  | refine br_true ?_
  | refine br_false ?_
  | refine br_ntrue ?_
  | refine br_nfalse ?_
  | (refine br_dec ?_ ?_ <;> intro _)
  | (refine br_ndec ?_ ?_ <;> intro _)
  | (refine br_nndec ?_ ?_ <;> intro _)
  | (refine br_nb ?_ ?_ <;> intro _)
  | (refine br_b ?_ ?_ <;> intro _)
  | refine r_and0 ?_
  | refine r_out ?_
  | refine r_outc ?_
  | refine r_back ?_))


theorem nums_of {w : World} {g h : Heap} {L D : Addr} {m : Str → Option Value} {nw : List (Addr × Obj)} {vs : List Value} {t : Tok} (X : Cx w g L m ((D, PySem.W.listOf (List.take 15 vs ++ List.replicate (15 - ((List.take 15 vs).length : Int)).toNat (Value.int 0 t)).toArray 0) :: nw) h) (hI : IV vs) :
    ∃ nums : List Value, IV nums ∧ nums.length = 15 ∧ Cx w g L m ((D, PySem.W.listOf nums.toArray 0) :: nw) h := by
  refine ⟨_, ?_, ?_, X⟩
  · intro v hv
    rcases List.mem_append.mp hv with hv | hv
    · exact hI v (List.mem_of_mem_take hv)
    · exact ⟨_, _, (List.mem_replicate.mp hv).2⟩
  · simp; omega
theorem lw : PySem.Challenge.rw_en5027_01.Holds := hd (by
  k_fill
  intro w s₀ s₁ mg mb G Y fa o pm cd doc dV kV ho hd hcd hD hmg hg args vals as hpre hlay hrd hwl hlo
  have KX := km_in_of Y
  km_tabs Y
  have X := (Ground.X G).1
  have V := (Ground.X G).2
  refine Ground.open G ?_
  intro T B D TE TW
  try (refine guard_noD D (by decide +kernel) ?_; clear D)
  have hT9 : TabsAt ([(56, 52), (61, 59)] : List (Addr × Addr)) s₁.heap := List.forall_mem_cons.mpr ⟨⟨codeHd_of_K (c := 56) (P := 52) KX (by kernel_rfl), hT8 52 (.head _)⟩, List.forall_mem_cons.mpr ⟨⟨codeHd_of_K (c := 61) (P := 59) KX (by kernel_rfl), hT8 59 (.tail _ (.head _))⟩, fun _ h => nomatch h⟩⟩
  clear hmg
  wrow_args hpre hlay hrd hwl hlo
  all_goals (
    first | refine callC_kw (enter_call ?_) | refine enter_call ?_
    w_top on
    refine law_post hT9 (fun _ _ => rfl) (by kc_post) ?_
    w_call any ho hd hcd hD T F
    clear hd
    kn_ghosts F T
    k_drop
    skip)
  dsimp only
  rename_i a9 vs9 _ _ _ _ _ _ _ _ _ _ _ _ _ _ _ _ _
  have W9 : Wd w (ghostOf s₁.heap [(56, 52), (61, 59)]) := ⟨‹(Mine.hd.heap_39 w.params).In (ghostOf s₁.heap [(56, 52), (61, 59)])›, ⟨_, _, _, _, ‹Top topProg _ _ _ _ (ghostOf s₁.heap [(56, 52), (61, 59)])›⟩, ‹CodeHd _ (56, 52).fst _›, ‹CodeHd _ (61, 59).fst _›⟩
  have tx0 : TabX (ghostOf s₁.heap [(56, 52), (61, 59)]) [(52, tabObj #[]), (59, tabObj #[])] := TabX.of ⟨.inl rfl, .inl rfl⟩
  have X1 : Cx w (ghostOf s₁.heap [(56, 52), (61, 59)]) _ _ _ _ := Cx.mk (g := ghostOf s₁.heap [(56, 52), (61, 59)]) W9 ‹Fr (ghostOf s₁.heap [(56, 52), (61, 59)]) _ _ _› ‹News (ghostOf s₁.heap [(56, 52), (61, 59)]) _ _ _›
  have hI9 := IV.of (‹IntsAre _ _› : IntsAre vs9 _)
  have hn9 : ∀ {vs : List Value} {ns : List Int}, IntsAre vs ns → vs.length = ns.length := by
    intro vs ns h
    induction h with
    | nil => rfl
    | cons _ _ _ ih => simp [ih]
  have hN9 := hn9 (‹IntsAre _ _› : IntsAre vs9 _)
  obtain ⟨oL, eL, rL⟩ := ‹(ghostOf s₁.heap [(56, 52), (61, 59)]).IsList _ _›
  have hL9 : ∀ {L' h' m' nw'}, Cx w (ghostOf s₁.heap [(56, 52), (61, 59)]) L' m' nw' h' → h'.IsList _ _ := fun X => ⟨oL, X.F.keep _ _ eL, rL⟩
  have hlen9 : ¬ (63 : Int) < _ := ‹¬ ((63 : Nat) : Int) < _›
  rw [← hN9] at hlen9
  generalize hA9 : callerA.deeper _ = A9
  have hh : A9.handled = none := by rw [← hA9]; rfl
  have hdp : A9.depth + 30 < recursionLimit := by rw [← hA9, dd]; decide
  have hu : A9.units + 200 < cLine := by rw [← hA9, Around.deeper_units]; decide
  clear hA9
  show wpAny (model pg w) _ (execs _ (envOf _ _ _ _ _)) (LawQ s₁) _ (st s₁ _ _)
  have MARK : True := trivial
  repeat' (walk_at "s")
  refine x_lto X1 (hL9 X1) (by omega) fun D1 h1 X2 => ?_
  repeat' (walk_at "s")
  have X3 := (‹Cx w _ _ _ ((_, PySem.W.listOf #[_] 0) :: _) _› : Cx w _ _ _ _ _)
  refine x_lto X3 (hL9 X3) (by omega) fun D2 h2 X4 => ?_
  repeat' (walk_at "s")
  refine p_lenl (X4.at_ (.head _)) (by simp; omega) fun t9 tk9 => ?_
  repeat' (walk_at "s")
  refine b_mull X4 (X4.at_ (.tail _ (.head _))) (by simp; omega) (by simp; omega) fun D3 h3 X5 => ?_
  refine b_addl X5 (X5.at_ (.tail _ (.tail _ (.tail _ (.head _))))) (X5.at_ (.head _)) (by simp; omega) fun D4 h4 X6 => ?_
  obtain ⟨nums, hnI, hnl, X6⟩ := nums_of X6 hI9
  have X7 := X6.sub (nw' := [(D4, PySem.W.listOf nums.toArray 0), (52, tabObj #[]), (59, tabObj #[])]) (by
    intro p hp
    rcases List.mem_cons.mp hp with rfl | hp
    · exact .head _
    · exact .tail _ (.tail _ (.tail _ (.tail _ (.tail _ hp)))))
  clear X6 X5 X4 X3 X2 MARK
  have MARK : True := trivial
  repeat' (walk_at "s")
  have X8 := (‹Cx w _ _ (upd _ _ _) _ _› : Cx w _ _ _ _ _)
  obtain ⟨v0, hv0⟩ : ∃ v0, nums[0]? = some v0 := ⟨_, List.getElem?_eq_getElem (by omega)⟩
  obtain ⟨n0, t0, rfl⟩ := hnI v0 (List.mem_of_getElem? hv0)
  refine gm_join ?_
  repeat' (walk_at "s")
  refine r_comp hh rfl (by decide) rfl (by decide) rfl (by intro _; rfl) ?_
  repeat' (walk_at "s")
  refine b_modI (j := 15) (by decide) fun r0 t1 tk1 hr0 => ?_
  repeat' (walk_at "s")
  refine x_lss (i := 1) (j := 1 + r0) X8 (X8.at_ (.head _)) rfl (by omega) (by omega) (by omega) (by omega) fun D5 h5 X9 => ?_
  obtain ⟨pvs, pn, hpe, hpl, hpp⟩ := pieces_at X9.wd
  refine ⟨_, _, _, _, _, (fun _ => true), (fun _ y => ∃ l t, y = Value.str (S l) t ∧ Pce l), rfl, rfl, X9.at_ (.head _), by simp; omega, X9.wd, ?_, ?_, ?_⟩
  · intro v hv s' C g m₃ tk E' Xk hk hm
    exact wpAny_pure (bk_end Xk rfl)
  · intro v hv _ s' C g m₃ tk E' Xk hk hm
    obtain ⟨nv, tv, rfl⟩ := hnI v (List.mem_of_mem_drop (List.mem_of_mem_take hv))
    clear MARK
    have MARK : True := trivial
    repeat' (walk_at "s")
    refine b_modI (j := 27) (by decide) fun r2 t2 tk2 hr2 => ?_
    repeat' (walk_at "s")
    obtain ⟨l2, u2, q1, q2⟩ := hpp pvs[r2] (List.getElem_mem _)
    refine x_lst (hk _ _ hpe) (by omega) (by omega) (v := pvs[r2]) (by simp) ?_
    exact bk_end Xk ⟨l2, u2, q1, q2⟩
  · intro D h' tk' ys n' k hD hD' hP
    obtain ⟨ls, hls, hsd, hno, hlen⟩ := pces hP
    have hlen2 : ls.flatten.length ≤ 300 := by
      refine Nat.le_trans hlen ?_
      have := List.length_filter_le (fun _ : Value => true) ((nums.drop 1).take (1 + r0 - 1))
      simp at this ⊢; omega
    have X10 := X9.add k hD hD'
    clear hP hlen X9 X8 X7 MARK
    have MARK : True := trivial
    repeat' (walk_at "s")
    refine m_join (X10.at_ (.head _)) hls (by omega) fun t3 tk3 => ?_
    have X11 := X10.sub (nw' := [] ++ [(52, tabObj #[]), (59, tabObj #[])]) (fun p hp => .tail _ (.tail _ (.tail _ hp)))
    obtain ⟨x, hx⟩ : ∃ x, ls.flatten = x := ⟨_, rfl⟩
    rw [hx] at hsd hno hlen2
    simp only [hx]
    clear X10 hls hx MARK
    have MARK : True := trivial
    repeat' (walk_at "s")
    have X12 := (‹Cx w _ _ (upd (upd _ _ _) _ _) _ _› : Cx w _ _ _ ([] ++ [(52, tabObj #[]), (59, tabObj #[])]) _)
    refine' plh_cx (pre := []) ?pX ?pT ?pp ?ph ?pd ?px ?pn ?pH
    case pX => exact X12
    case pT => exact tx0
    case pp => intro q hq; cases hq
    case ph => exact hh
    case pd => omega
    case px => omega
    case pn => exact hno
    intro s2 h2 tk2 dp vs kp T2 gr2 X13 tx2 hvs hdp52
    clear X12 X11 MARK
    have MARK : True := trivial
    repeat' (walk_at "s")
    refine' law_items_spec ?iw ?ih ?id ?ix ?iH
    case iw => exact X13.wd
    case ih => exact hh
    case id => omega
    case ix => omega
    intro h3 tk3 a2 us k2 k3 ha ha2 hus
    have X14 := X13.add k3 ha ha2
    refine q_nesame (X14.at_ (.tail _ (.head _))) (X14.at_ (.head _)) hvs hus (by (try simp only [Around.deeper_units]); omega) ?_
    have X15 := X14.sub (nw' := [] ++ T2) (fun p hp => .tail _ (.tail _ hp))
    clear X13 X14 MARK
    have MARK : True := trivial
    repeat' (walk_at "s")
    refine' pdh_cx (pre := []) ?pX1 ?pT1 ?pp1 ?ph1 ?pd1 ?px1 ?ps1 ?pn1 ?pH1
    case pX1 => exact X15
    case pT1 => exact tx2
    case pp1 => intro q hq; cases hq
    case ph1 => exact hh
    case pd1 => omega
    case px1 => omega
    case ps1 => exact hsd
    case pn1 => exact hno
    intro s4 h4 tk4 dt ot kt T4 gr4 X16 tx4 hst hkt lot ndt
    have gr5 := gr2.trans gr4
    clear X15 MARK
    have MARK : True := trivial
    repeat' (walk_at "s")
    have X17 := (‹Cx w _ _ (upd (upd (upd _ _ _) _ _) _ _) _ _› : Cx w _ _ _ ((dt, ot) :: ([] ++ T4)) _)
    refine' law_dict_spec ?qw ?qh ?qd ?qu ?qx ?qs ?qH
    case qw => exact X17.wd
    case qh => exact hh
    case qd => omega
    case qu => (try simp only [Around.deeper_units]); omega
    case qx => omega
    case qs => exact hsd
    intro h5 tk5 de ke k5 hn5 loe hDe hke
    obtain ⟨oe, hoe, hse⟩ := Heap.dictOf_iff.mp hDe
    have X18 := X17.add k5 hn5 hoe
    clear X16 X17 MARK
    have MARK : True := trivial
    repeat' (walk_at "s")
    have X19 := (‹Cx w _ _ (upd (upd (upd (upd _ _ _) _ _) _ _) _ _) _ _› : Cx w _ _ _ ((de, oe) :: (dt, ot) :: ([] ++ T4)) _)
    refine q_dne X19 (.tail _ (.head _)) (.head _) hst hse lot loe hkt hke (by (try simp only [Around.deeper_units]); omega) ?_
    repeat' (walk_at "s")
    have hdl : (dictL x).length ≤ 1000 := by
      obtain ⟨il, _⟩ := items_len x
      have := fold_len (itemsL x) []
      unfold dictL
      simp at this; omega
    have hzt : kt.length ≤ 1000 := by rw [hkt.length]; exact hdl
    have hze : ke.length ≤ 1000 := by rw [hke.length]; exact hdl
    refine' c_keys (A := A9) ?ch ?cX ?cp ?cd ?cl ?ck ?cz ?cH
    case ch => exact hh
    case cX => exact X19
    case cp => exact .tail _ (.head _)
    case cd => exact hst
    case cl => exact lot
    case ck => exact hkt
    case cz => exact hzt
    intro D6 c6 h6 tk6 us6 X20 hu6
    repeat' (walk_at "s")
    refine' c_keys (A := A9) ?ch2 ?cX2 ?cp2 ?cd2 ?cl2 ?ck2 ?cz2 ?cH2
    case ch2 => exact hh
    case cX2 => exact X20
    case cp2 => exact .tail _ (.head _)
    case cd2 => exact hse
    case cl2 => exact loe
    case ck2 => exact hke
    case cz2 => exact hze
    intro D7 c7 h7 tk7 us7 X21 hu7
    refine q_nesame (X21.at_ (.tail _ (.head _))) (X21.at_ (.head _)) hu6 hu7 (by (try simp only [Around.deeper_units]); omega) ?_
    have X22 := X21.sub (nw' := [] ++ T4) (fun p hp => .tail _ (.tail _ (.tail _ (.tail _ hp))))
    clear X19 X20 X21 X18 MARK
    have MARK : True := trivial
    repeat' (walk_at "s")
    have no52 : ∀ {b : Addr}, h7.get? b = Option.none → b ≠ 52 ∧ b ≠ 59 := by
      obtain ⟨ps1, ps2, C, rfl, _⟩ := tx4.1
      intro b hb
      constructor
      · rintro rfl; rw [(X22.N (52, tabObj ps1) (.head _)).1] at hb; cases hb
      · rintro rfl; rw [(X22.N (59, tabObj ps2) (.tail _ (.head _))).1] at hb; cases hb
    refine r_for (g := ghostOf s₁.heap [(56, 52), (61, 59)]) rfl rfl (by intro _; rfl) ?_
    repeat' (walk_at "s")
    refine' stretches_spec ?rw ?rd ?rH
    case rw => exact X22.wd
    case rd => omega
    intro h8 tk8 a8 b0 b1 b2 b3 k8 hna hal R0 R1 R2 R3 ⟨m0, m1, m2, m3⟩
    obtain ⟨o0, e0, R0⟩ := row_o R0
    obtain ⟨o1, e1, R1⟩ := row_o R1
    obtain ⟨o2, e2, R2⟩ := row_o R2
    obtain ⟨o3, e3, R3⟩ := row_o R3
    obtain ⟨P4, hP4⟩ : ∃ P4, P4 = [(b0, o0), (b1, o1), (b2, o2), (b3, o3)] := ⟨_, rfl⟩
    obtain ⟨L8, hL8⟩ : ∃ its : Array Value, its = #[.ref b0, .ref b1, .ref b2, .ref b3] := ⟨_, rfl⟩
    have rows : ∀ (i : Nat) (v : Value), L8[i]? = some v → ∃ j b o, j < 4 ∧ v = .ref b ∧ (b, o) ∈ P4 ∧ RowO o j := by
      subst hL8 hP4
      intro i v hv
      match i, hv with
      | 0, hv => exact ⟨0, b0, o0, by decide, by simpa using hv.symm, .head _, R0⟩
      | 1, hv => exact ⟨1, b1, o1, by decide, by simpa using hv.symm, .tail _ (.head _), R1⟩
      | 2, hv => exact ⟨2, b2, o2, by decide, by simpa using hv.symm, .tail _ (.tail _ (.head _)), R2⟩
      | 3, hv => exact ⟨3, b3, o3, by decide, by simpa using hv.symm, .tail _ (.tail _ (.tail _ (.head _))), R3⟩
      | n + 4, hv => simp at hv
    have hP4n : ∀ p ∈ P4, h7.get? p.1 = Option.none ∧ h8.get? p.1 = some p.2 ∧ p.1 ≠ a8 := by
      subst hP4
      have nt : ∀ {b : Addr} {o : Obj} {j : Nat}, h8.get? b = some o → RowO o j → b ≠ a8 := by
        rintro b o j e ⟨t0, t1, t2, t3, t4, rfl⟩ rfl
        have q := congrArg Obj.cls (Option.some.inj (e.symm.trans hal))
        injection q with q
        exact absurd q (by decide)
      intro p hp
      simp only [List.mem_cons, List.not_mem_nil, or_false] at hp
      rcases hp with rfl | rfl | rfl | rfl
      · exact ⟨m0, e0, nt e0 R0⟩
      · exact ⟨m1, e1, nt e1 R1⟩
      · exact ⟨m2, e2, nt e2 R2⟩
      · exact ⟨m3, e3, nt e3 R3⟩
    rw [← hL8] at hal
    have X23 := X22.adds ((a8, PySem.W.listOf L8 0) :: P4) k8 (by
      intro p hp
      rcases List.mem_cons.mp hp with rfl | hp
      · exact ⟨hna, hal⟩
      · exact ⟨(hP4n p hp).1, (hP4n p hp).2.1⟩)
    have ha52 := no52 hna
    have hap8 : ∀ p ∈ P4 ++ T4, p.1 ≠ a8 := by
      intro p hp
      rcases List.mem_append.mp hp with hp | hp
      · exact (hP4n p hp).2.2
      · exact tx4.ne X23 (fun p hp => List.mem_append_right _ hp) hal ha52.1 ha52.2 (fun vs qq t e => by cases e) p hp
    have X24 := X23.sub (nw' := (P4 ++ T4) ++ [(a8, PySem.W.listOf L8 0)]) (by
      intro p hp
      rcases List.mem_append.mp hp with hp | hp
      · rcases List.mem_append.mp hp with hp | hp
        · exact .tail _ (List.mem_append_left _ hp)
        · exact List.mem_append_right _ hp
      · rcases List.mem_singleton.mp hp with rfl
        exact .head _)
    have hP52 : ∀ p ∈ P4, p.1 ≠ 52 ∧ p.1 ≠ 59 := fun p hp => no52 (hP4n p hp).1
    clear X22 X23 R0 R1 R2 R3 e0 e1 e2 e3 m0 m1 m2 m3 hP4n MARK
    have MARK : True := trivial
    refine it_list (by exact hh) X24 hap8 (fun s' => GR s₁ s') gr5 (fun _ _ nw => ∃ T, nw = P4 ++ T ∧ TabX (ghostOf s₁.heap [(56, 52), (61, 59)]) T) ⟨T4, rfl, tx4⟩ ?_ ?_
    · rintro i v I oI m nw s5 h9 tk9 hiv hB ⟨T5, rfl, tx5⟩ hap hcls hdat X25
      obtain ⟨j, b, o, hj, rfl, hbo, t0, t1, t2, t3, t4, rfl⟩ := rows i v hiv
      obtain ⟨z1, z2, z3, z4, z5⟩ := row_lens j hj
      have y1 : (lit "k*=UTF-8''").length = 10 := by decide +kernel
      have y2 : (lit "k*=iso-8859-1'x'").length = 16 := by decide +kernel
      have y3 : (lit "z").length = 1 := by decide +kernel
      have hb52 := hP52 _ hbo
      obtain ⟨PRE, hPRE⟩ : ∃ PRE, PRE = P4 ++ [(I, oI), (a8, PySem.W.listOf L8 0)] := ⟨_, rfl⟩
      obtain ⟨ob, hob⟩ : ∃ ob : Obj, ob = { cls := .type "tuple", data := .seq #[.str (S (stx j)) t0, .bytes (B8 (sby j)) t1, .str (S (fU j)) t2, .str (S (fL j)) t3, .str (S (fA j)) t4] } := ⟨_, rfl⟩
      have hI52 : I ≠ 52 ∧ I ≠ 59 := by
        obtain ⟨ps1, ps2, C, rfl, _⟩ := tx5.1
        exact ⟨fun q => hap _ (List.mem_append_right _ (.head _)) _ (.head _) q.symm, fun q => hap _ (List.mem_append_right _ (.tail _ (.head _))) _ (.head _) q.symm⟩
      have hpre : ∀ q ∈ (b, ob) :: PRE, q.1 ≠ 52 ∧ q.1 ≠ 59 := by
        intro q hq
        rcases List.mem_cons.mp hq with rfl | hq
        · exact hb52
        · rw [hPRE] at hq
          rcases List.mem_append.mp hq with hq | hq
          · exact hP52 _ hq
          · simp only [List.mem_cons, List.not_mem_nil, or_false] at hq
            rcases hq with rfl | rfl
            · exact hI52
            · exact ha52
      have X26 := X25.sub (nw' := (b, ob) :: (PRE ++ T5)) (by
        intro p hp
        rcases List.mem_cons.mp hp with rfl | hp
        · rw [hob]; exact List.mem_append_left _ (List.mem_append_left _ hbo)
        · rcases List.mem_append.mp hp with hp | hp
          · rw [hPRE] at hp
            rcases List.mem_append.mp hp with hp | hp
            · exact List.mem_append_left _ (List.mem_append_left _ hp)
            · exact List.mem_append_right _ hp
          · exact List.mem_append_left _ (List.mem_append_right _ hp))
      have back : ∀ {T9 nw9 m9 h9}, Cx w (ghostOf s₁.heap [(56, 52), (61, 59)]) s₁.heap.objs.size m9 (nw9 ++ (PRE ++ T9)) h9 → Cx w (ghostOf s₁.heap [(56, 52), (61, 59)]) s₁.heap.objs.size m9 ((P4 ++ T9) ++ [(I, oI), (a8, PySem.W.listOf L8 0)]) h9 := by
        intro T9 nw9 m9 h9 X
        refine X.sub ?_
        intro p hp
        refine List.mem_append_right _ ?_
        rw [hPRE]
        simp only [List.mem_append] at hp ⊢
        rcases hp with (hp | hp) | hp
        · exact .inl (.inl hp)
        · exact .inr hp
        · exact .inl (.inr hp)
      subst hob
      clear X25 X24 MARK
      have MARK : True := trivial
      repeat' (walk_at "s")
      refine' text_spec (l := fU j) ?tw0 ?td0 ?tl0 ?tz0 ?tm0 ?tH0
      case tw0 => exact X26.wd
      case td0 => omega
      case tl0 => exact col_u j ▸ row_txt j hj _
      case tz0 => omega
      case tm0 => omega
      intro h10 tk10 t10 k10
      have X30 := X26.more k10
      clear X26 MARK
      have MARK : True := trivial
      repeat' (walk_at "s")
      refine' text_spec (l := fL j) ?tw1 ?td1 ?tl1 ?tz1 ?tm1 ?tH1
      case tw1 => exact X30.wd
      case td1 => omega
      case tl1 => exact col_l j ▸ row_txt j hj _
      case tz1 => omega
      case tm1 => omega
      intro h11 tk11 t11 k11
      have X31 := X30.more k11
      clear X30 MARK
      have MARK : True := trivial
      repeat' (walk_at "s")
      refine' text_spec (l := fA j) ?tw2 ?td2 ?tl2 ?tz2 ?tm2 ?tH2
      case tw2 => exact X31.wd
      case td2 => omega
      case tl2 => exact col_a j ▸ row_txt j hj _
      case tz2 => omega
      case tm2 => omega
      intro h12 tk12 t12 k12
      have X32 := X31.more k12
      clear X31 MARK
      have MARK : True := trivial
      repeat' (walk_at "s")
      refine' text_spec (l := fA j) ?tw3 ?td3 ?tl3 ?tz3 ?tm3 ?tH3
      case tw3 => exact X32.wd
      case td3 => omega
      case tl3 => exact col_s j ▸ row_txt j hj _
      case tz3 => omega
      case tm3 => omega
      intro h13 tk13 t13 k13
      have X33 := X32.more k13
      clear X32 MARK
      have MARK : True := trivial
      repeat' (walk_at "s")
      refine' pdh_cx (pre := (b, _) :: PRE) ?pX2 ?pT2 ?pp2 ?ph2 ?pd2 ?px2 ?ps2 ?pn2 ?pH2
      case pX2 => exact X33
      case pT2 => exact tx5
      case pp2 => exact hpre
      case ph2 => exact hh
      case pd2 => omega
      case px2 => exact (ok_of (okU j hj)).2.2
      case ps2 => exact (ok_of (okU j hj)).1
      case pn2 => exact (ok_of (okU j hj)).2.1
      intro s6 h20 tk20 da oa ka T6 gr6 X40 tx6 hsa hka loa nda
      rw [kU j hj] at hka
      have X41 : Cx w _ _ _ ((da, oa) :: (b, _) :: (PRE ++ T6)) h20 := X40
      clear X33 X40 MARK
      have MARK : True := trivial
      repeat' (walk_at "s")
      have X42 := (‹Cx w _ _ (upd _ _ _) ((_, _) :: (da, oa) :: _) _› : Cx w _ _ _ (_ :: (da, oa) :: (b, _) :: (PRE ++ T6)) _)
      have hs2 := ‹SD w _ (strPairs _)›
      refine' q_dne X42 ?qa ?qb ?qc ?qd1 loa ?qe ?qf ?qg ?qh1 ?_
      case qa => exact .tail _ (.head _)
      case qb => exact .head _
      case qc => exact hsa
      case qd1 => exact hs2
      case qe => assumption
      case qf => exact hka
      case qg => exact .cons ⟨rfl, _, rfl⟩ .nil
      case qh1 => (try simp only [Around.deeper_units]); omega
      have X43 := X42.sub (nw' := (b, _) :: (PRE ++ T6)) (fun p hp => .tail _ (.tail _ hp))
      clear X42 X41 hs2 MARK
      have MARK : True := trivial
      repeat' (walk_at "s")
      refine' pdh_cx (pre := (b, _) :: PRE) ?pX3 ?pT3 ?pp3 ?ph3 ?pd3 ?px3 ?ps3 ?pn3 ?pH3
      case pX3 => exact X43
      case pT3 => exact tx6
      case pp3 => exact hpre
      case ph3 => exact hh
      case pd3 => omega
      case px3 => exact (ok_of (okL j hj)).2.2
      case ps3 => exact (ok_of (okL j hj)).1
      case pn3 => exact (ok_of (okL j hj)).2.1
      intro s7 h21 tk21 dc oc kc T7 gr7 X50 tx7 hsc hkc loc ndc
      rw [kL j hj] at hkc
      have X51 : Cx w _ _ _ ((dc, oc) :: (b, _) :: (PRE ++ T7)) h21 := X50
      clear X43 X50 MARK
      have MARK : True := trivial
      repeat' (walk_at "s")
      have X52 := (‹Cx w _ _ (upd _ _ _) ((_, _) :: (dc, oc) :: _) _› : Cx w _ _ _ (_ :: (dc, oc) :: (b, _) :: (PRE ++ T7)) _)
      have hs3 := ‹SD w _ (strPairs _)›
      refine' q_dne X52 ?qa4 ?qb4 ?qc4 ?qd4 loc ?qe4 ?qf4 ?qg4 ?qh4 ?_
      case qa4 => exact .tail _ (.head _)
      case qb4 => exact .head _
      case qc4 => exact hsc
      case qd4 => exact hs3
      case qe4 => assumption
      case qf4 => exact hkc
      case qg4 => exact .cons ⟨rfl, _, rfl⟩ .nil
      case qh4 => (try simp only [Around.deeper_units]); omega
      have X53 := X52.sub (nw' := (b, _) :: (PRE ++ T7)) (fun p hp => .tail _ (.tail _ hp))
      clear X52 X51 hs3 MARK
      have MARK : True := trivial
      repeat' (walk_at "s")
      refine' fe_next (nw' := P4 ++ T7) ?zX ?zB ?zA ?zJ
      case zX => exact back (nw9 := [_]) X53
      case zB => exact (hB.trans gr6).trans gr7
      case zA =>
        intro p hp q hq
        rcases List.mem_append.mp hp with hp | hp
        · exact hap p (List.mem_append_left _ hp) q hq
        · rcases List.mem_cons.mp hq with rfl | hq
          · exact tx7.ne X53 (fun p hp => .tail _ (List.mem_append_right _ hp)) (X53.N (I, oI) (.tail _ (List.mem_append_left _ (by rw [hPRE]; exact List.mem_append_right _ (.head _))))).1 hI52.1 hI52.2 (fun vs qq t e => by rw [hdat] at e; cases e; simp) p hp
          · rcases List.mem_singleton.mp hq with rfl
            exact tx7.ne X53 (fun p hp => .tail _ (List.mem_append_right _ hp)) (X53.N (a8, PySem.W.listOf L8 0) (.tail _ (List.mem_append_left _ (by rw [hPRE]; exact List.mem_append_right _ (.tail _ (.head _)))))).1 ha52.1 ha52.2 (fun vs qq t e => by cases e) p hp
      case zJ => exact ⟨T7, rfl, tx7⟩
    · rintro m nw s5 h9 tk9 hB ⟨T5, rfl, tx5⟩ X25
      have MARK : True := trivial
      repeat' (walk_at "s")
      refine' pdh_cx (pre := P4) ?pX6 ?pT6 ?pp6 ?ph6 ?pd6 ?px6 ?ps6 ?pn6 ?pH6
      case pX6 => exact X25
      case pT6 => exact tx5
      case pp6 => exact hP52
      case ph6 => exact hh
      case pd6 => omega
      case px6 => exact (ok_of okx).2.2
      case ps6 => exact (ok_of okx).1
      case pn6 => exact (ok_of okx).2.1
      intro s7 h21 tk21 dc oc kc T7 gr7 X50 tx7 hsc hkc loc ndc
      rw [kx] at hkc
      clear X25 MARK
      have MARK : True := trivial
      repeat' (walk_at "s")
      have X52 := (‹Cx w _ _ _ ((_, _) :: (dc, oc) :: _) _› : Cx w _ _ _ (_ :: (dc, oc) :: (P4 ++ T7)) _)
      have hs3 := ‹SD w _ (strPairs _)›
      refine' q_deq X52 ?qa7 ?qb7 ?qc7 ?qd7 loc ?qe7 ?qf7 ?qg7 ?qh7 ?_
      case qa7 => exact .tail _ (.head _)
      case qb7 => exact .head _
      case qc7 => exact hsc
      case qd7 => exact hs3
      case qe7 => assumption
      case qf7 => exact hkc
      case qg7 => exact .cons ⟨rfl, _, rfl⟩ .nil
      case qh7 => (try simp only [Around.deeper_units]); omega
      repeat' (walk_at "s")
      have X53 := X52.sub (nw' := P4 ++ T7) (fun p hp => .tail _ (.tail _ hp))
      exact law_end X53 tx7 (hB.trans gr7) hg
    )
end Mine
end
set_option maxRecDepth 100000 in
set_option maxHeartbeats 8000000 in
theorem PySem.Challenge.cw_en5027_01_holds : PySem.Challenge.rw_en5027_01.Holds :=
  Mine.lw
