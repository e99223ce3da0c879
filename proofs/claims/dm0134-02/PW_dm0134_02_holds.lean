import PyProof.Rows.All
import Wide.All
import OpenK.AllK
import Wide.FinOn
import PySem.Challenge.RW_dm0134_02
open PySem PySem.W PyProof.Rows
set_option Elab.async false
set_option maxRecDepth 100000
set_option linter.unusedVariables false
namespace Mine
/-! part Top -/
set_option maxHeartbeats 1000000
noncomputable def Vw : Program := view PySem.Challenge.rw_dm0134_02.prog [0, 2, 3, 4, 5, 6, 8, 9]
theorem left_boot {p q : Program} {loose : List Str} {Xt : Shared → Bool} {α : Type} {Yf : Shared → α} {Ya : World → α} {N : Nat}
    (o : ∀ w : World, (fencedOpening treeTable p w N).map (fun s => (s.heap, s.gens, s.drawn, s.toks)) = some (boot_heap w.params, Array.mk [], boot_drawn, boot_toks))
    (h : ∀ (w : World) (os : OsState), (topFrom treeTable p w N ⟨boot_heap w.params, Array.mk [], boot_drawn, boot_toks, os⟩).map (fun s => (openSeen q loose (importedModules p.main.body) Xt true s, Yf s)) = some (openGood q loose, Ya w)) :
    LeftO p q loose Xt Yf Ya N := fun w => by
  obtain ⟨⟨a, b, c, d, os⟩, e, e'⟩ := Option.map_eq_some_iff.mp (o w)
  cases e'
  unfold openEnds
  rw [e]
  exact h w os
theorem lawOpen : opening PySem.Challenge.rw_dm0134_02.prog = plainProg PySem.Challenge.rw_dm0134_02.prog.main.scope.names := by kernel_rfl
local macro_rules | `(tactic| o_head $H) => do
  let t := Lean.mkIdent `PySem.W.Fast.te2223377127234873477
  `(tactic| (
  refine holds_open (q := Vw) (loose := [Str.ofString "_NodeInfo"]) (Xt := fun s => xlAt Vw [] s && recOk [] s) (XP := XL Vw []) (Yf := Hook.obs $H) (Ya := Hook.val $H) (YP := Hook.says $H) (N := 2332)
    (left_boot (boot_open (p := PySem.Challenge.rw_dm0134_02.prog) lawOpen rfl (fun s => rfl)) fun w os => ?hl)
    (Hook.of $H) (Hook.keeps $H) (fun s e => xl_of s (Bool.and_eq_true_iff.mp e).1) XL.keeps (by rfl) (by rfl) (by rfl) (fun s e => recFacts_of (Bool.and_eq_true_iff.mp e).2) (by rfl) (by assumption) (by decide +kernel)
    ⟨rfl, rfl, rfl, rfl, rfl, by decide +kernel⟩ ?hw ?hc
  (case hl => (unfold topFrom; rw [PySem.W.Fast.te14082659384304107361, PySem.W.Fast.te14364793385576792824, PySem.W.Fast.te4187177175401517315, $t:ident]; kernel_rfl))))
set_option maxHeartbeats 8000000 in
open_top hd for PySem.Challenge.rw_dm0134_02
example : True := by w_top off; trivial
/-! part B1 -/
set_option maxHeartbeats 1000000
noncomputable abbrev PR : Program := Challenge.rw_dm0134_02.row.prog
abbrev ent (w : World) (n : Str) (t : Nat) (v : Value) : DictEntry := ⟨PyData.keyHash w.params n, .str n t, v⟩
/-- the sorter's own dict -/
abbrev sdict (w : World) (t1 t2 t3 t4 : Nat) (d : Addr) (r : Value) (p f : Int) (tp tf : Nat) (ep : Nat) : Obj :=
  dictOf [ent w (Str.ofString "_node2info") t1 (.ref d), ent w (Str.ofString "_ready_nodes") t2 r, ent w (Str.ofString "_npassedout") t3 (.int p tp), ent w (Str.ofString "_nfinished") t4 (.int f tf)] ep
abbrev nodeObj (da sa : Addr) (np : Int) (tn : Tok) (k : Int) (tk : Tok) : Obj :=
  { cls := .ref 40, dict := some da, data := .plain, slots := #[some (.int k tk), some (.int np tn), some (.ref sa)] }

/-- what a call needs to know of where it stands -/
inductive Cx (n : Nat) (w : World) (A : Around) (h₀ : Heap) (L : Addr) : Prop
  | mk (A₀ : Around) (base : Heap) (outer : List Env) (env : Env) (p : Program) (loose : List Str) (mean : ExcName → Option Value) (mg mb : Str → Option Value)
    (B : Below A₀ base outer h₀) (X : (hd.heap_39 w.params).In h₀) (T : Top p loose mean mg mb h₀) (hA : A.frames = some (env :: outer)) (hf : env.frame = some L) (hk : env.scope.kind = .function)
    (hh : A.handled = none) (hg : A.guards = some []) (hd : A.depth + 5 * n < 900) (hu : A.units + 50 * n < 9000) : Cx n w A h₀ L

theorem allLt_mem {d : Nat} : ∀ {l : List (Addr × Obj)}, AllLt d l → ∀ p ∈ l, p.1 < d
  | [], _, _, h => nomatch h
  | _ :: _, h, _, .head _ => h.1
  | _ :: _, h, _, .tail _ m => allLt_mem h.2 _ m
theorem allLt_ne {d : Nat} {l : List (Addr × Obj)} (h : AllLt d l) : ∀ p ∈ l, p.1 ≠ d := fun p hp => Nat.ne_of_lt (allLt_mem h p hp)
theorem allLt_ne2 {d x : Nat} {l : List (Addr × Obj)} (hx : d < x) (h : AllLt d l) : ∀ p ∈ l, p.1 ≠ x := fun p hp => Nat.ne_of_lt (Nat.lt_trans (allLt_mem h p hp) hx)
theorem News.sub {h₀ h : Heap} {L : Addr} {n1 n2 : List (Addr × Obj)} (N : News h₀ L h n1) (hs : ∀ p ∈ n2, p ∈ n1) : News h₀ L h n2 := fun p hp => N p (hs p hp)
/-- all addresses of a ledger differ -/
abbrev ND (l : List (Addr × Obj)) : Prop := (l.map (·.1)).Nodup
theorem ND.tail {p : Addr × Obj} {l : List (Addr × Obj)} (h : ND (p :: l)) : ND l := (List.nodup_cons.mp h).2
theorem ND.head {p : Addr × Obj} {l : List (Addr × Obj)} (h : ND (p :: l)) : ∀ q ∈ l, q.1 ≠ p.1 := fun q hq e => (List.nodup_cons.mp h).1 (List.mem_map.mpr ⟨q, hq, e⟩)
theorem ND.cons {p : Addr × Obj} {l : List (Addr × Obj)} (h : ND l) (hn : ∀ q ∈ l, q.1 ≠ p.1) : ND (p :: l) :=
  List.nodup_cons.mpr ⟨fun hm => by obtain ⟨q, hq, e⟩ := List.mem_map.mp hm; exact hn q hq e, h⟩
theorem ND.right {l r : List (Addr × Obj)} (h : ND (l ++ r)) : ND r := by
  unfold ND at h; rw [List.map_append] at h; exact (List.nodup_append.mp h).2.1
theorem ND.left {l r : List (Addr × Obj)} (h : ND (l ++ r)) : ND l := by
  unfold ND at h; rw [List.map_append] at h; exact (List.nodup_append.mp h).1
theorem ND.apart {l r : List (Addr × Obj)} (h : ND (l ++ r)) : ∀ p ∈ l, ∀ q ∈ r, p.1 ≠ q.1 := fun p hp q hq => by
  unfold ND at h; rw [List.map_append] at h
  exact (List.nodup_append.mp h).2.2 p.1 (List.mem_map_of_mem hp) q.1 (List.mem_map_of_mem hq)
theorem ND.same {l r : List (Addr × Obj)} (h : ND l) (e : r.map (·.1) = l.map (·.1)) : ND r := by unfold ND; rw [e]; exact h
theorem ND.perm {l r : List (Addr × Obj)} (h : ND l) (e : r.Perm l) : ND r := (e.map (·.1)).nodup_iff.mpr h

/-- one node of the sorter: its key, its count, its successors, where its three objects lie -/
structure Nd where
  k : Int
  tk : Tok
  np : Int
  tn : Tok
  si : List (Int × Tok)
  ep : Nat
  a : Addr
  da : Addr
  sa : Addr
abbrev vals (l : List (Int × Tok)) : List Value := l.map fun p => Value.int p.1 p.2
theorem ints_vals : ∀ l : List (Int × Tok), IntsAre (vals l) (l.map (·.1))
  | [] => .nil
  | p :: r => .cons p.1 p.2 (ints_vals r)
def Nd.objs (nd : Nd) : List (Addr × Obj) :=
  [(nd.sa, listOf (vals nd.si).toArray nd.ep), (nd.a, nodeObj nd.da nd.sa nd.np nd.tn nd.k nd.tk), (nd.da, dictOf [] 0)]
def NN (l : List Nd) : List (Addr × Obj) := l.flatMap Nd.objs
def kvsOf (l : List Nd) : List (Int × Value) := l.map fun nd => (nd.k, Value.ref nd.a)
def absN (l : List Nd) : List (Int × Int × List Int) := l.map fun nd => (nd.k, nd.np, nd.si.map (·.1))
theorem NN_cons (nd : Nd) (l : List Nd) : NN (nd :: l) = nd.objs ++ NN l := rfl
theorem NN_append (l r : List Nd) : NN (l ++ r) = NN l ++ NN r := by unfold NN; rw [List.flatMap_append]
theorem kvsOf_append (l r : List Nd) : kvsOf (l ++ r) = kvsOf l ++ kvsOf r := by unfold kvsOf; rw [List.map_append]
theorem absN_append (l r : List Nd) : absN (l ++ r) = absN l ++ absN r := by unfold absN; rw [List.map_append]
theorem mem_NN {nd : Nd} {l : List Nd} (h : nd ∈ l) {p : Addr × Obj} (hp : p ∈ nd.objs) : p ∈ NN l := List.mem_flatMap.mpr ⟨nd, h, hp⟩
theorem mem_obj {nd : Nd} {l : List Nd} (h : nd ∈ l) : (nd.a, nodeObj nd.da nd.sa nd.np nd.tn nd.k nd.tk) ∈ NN l := mem_NN h (.tail _ (.head _))
theorem mem_suc {nd : Nd} {l : List Nd} (h : nd ∈ l) : (nd.sa, listOf (vals nd.si).toArray nd.ep) ∈ NN l := mem_NN h (.head _)
theorem mem_dct {nd : Nd} {l : List Nd} (h : nd ∈ l) : (nd.da, dictOf [] 0) ∈ NN l := mem_NN h (.tail _ (.tail _ (.head _)))
/-- one node of the list changed -/
def modN (a : Addr) (f : Nd → Nd) (l : List Nd) : List Nd := l.map fun nd => if nd.a = a then f nd else nd
theorem Upd.left {d : Addr} {o o' : Obj} {l l' r : List (Addr × Obj)} (U : Upd d o o' l l') (h : ∀ p ∈ r, p.1 ≠ d) : Upd d o o' (l ++ r) (l' ++ r) := by
  induction U with
  | head hh => exact .head fun p hp => (List.mem_append.mp hp).elim (hh p) (h p)
  | tail hn _ ih => exact .tail hn ih
theorem Upd.right {d : Addr} {o o' : Obj} : ∀ {l r r' : List (Addr × Obj)}, (∀ p ∈ l, p.1 ≠ d) → Upd d o o' r r' → Upd d o o' (l ++ r) (l ++ r')
  | [], _, _, _, U => U
  | _ :: _, _, _, h, U => .tail (h _ (.head _)) (Upd.right (fun p hp => h p (.tail _ hp)) U)
theorem modN_none {a : Addr} {f : Nd → Nd} : ∀ {l : List Nd}, (∀ nd ∈ l, nd.a ≠ a) → modN a f l = l
  | [], _ => rfl
  | nd :: l, h => by
    show (if nd.a = a then f nd else nd) :: modN a f l = _
    rw [if_neg (h nd (.head _)), modN_none fun x hx => h x (.tail _ hx)]
theorem modN_cons {a : Addr} {f : Nd → Nd} (nd : Nd) (l : List Nd) : modN a f (nd :: l) = (if nd.a = a then f nd else nd) :: modN a f l := rfl
/-- the object of one node changed (x: which of the three addresses) -/
theorem upd_NN {f : Nd → Nd} {x : Addr} {o o' : Obj} {nd : Nd} : ∀ {l : List Nd}, ND (NN l) → nd ∈ l → (ND nd.objs → Upd x o o' nd.objs (f nd).objs) → (x, o) ∈ nd.objs → Upd x o o' (NN l) (NN (modN nd.a f l))
  | nd' :: l, hn, hm, hU, hx => by
    rw [NN_cons] at hn
    have hap := hn.apart
    rw [modN_cons, NN_cons, NN_cons]
    rcases List.mem_cons.mp hm with rfl | hm'
    · rw [if_pos rfl, modN_none]
      · exact Upd.left (hU hn.left) fun p hp e => hap _ hx p hp e.symm
      · intro y hy e
        exact hap (nd.a, _) (.tail _ (.head _)) _ (mem_obj hy) e.symm
    · have hne : nd'.a ≠ nd.a := fun e => hap (nd'.a, _) (.tail _ (.head _)) _ (mem_obj hm') e
      rw [if_neg hne]
      exact Upd.right (fun p hp e => hap p hp _ (mem_NN hm' hx) e) (upd_NN hn.right hm' hU hx)
theorem adr_modN {a : Addr} {f : Nd → Nd} (hf : ∀ nd, ((f nd).objs.map (·.1)) = nd.objs.map (·.1)) : ∀ l : List Nd, (NN (modN a f l)).map (·.1) = (NN l).map (·.1)
  | [] => rfl
  | nd :: l => by
    rw [modN_cons, NN_cons, NN_cons, List.map_append, List.map_append, adr_modN hf l]
    split
    · rw [hf]
    · rfl
theorem kvs_modN {a : Addr} {f : Nd → Nd} (hk : ∀ nd, (f nd).k = nd.k) (ha : ∀ nd, (f nd).a = nd.a) (l : List Nd) : kvsOf (modN a f l) = kvsOf l := by
  unfold kvsOf modN
  rw [List.map_map]
  apply List.map_congr_left
  intro nd _
  show ((if nd.a = a then f nd else nd).k, Value.ref (if nd.a = a then f nd else nd).a) = _
  split
  · rw [hk, ha]
  · rfl
def setNp (v : Int) (t : Tok) (nd : Nd) : Nd := { nd with np := v, tn := t }
def addSi (v : Int) (t : Tok) (nd : Nd) : Nd := { nd with si := nd.si ++ [(v, t)], ep := nd.ep + 1 }
theorem upd_np {nd : Nd} {l : List Nd} {v : Int} {t : Tok} (hn : ND (NN l)) (hm : nd ∈ l) :
    Upd nd.a (nodeObj nd.da nd.sa nd.np nd.tn nd.k nd.tk) (nodeObj nd.da nd.sa v t nd.k nd.tk) (NN l) (NN (modN nd.a (setNp v t) l)) :=
  upd_NN hn hm (fun h => .tail (h.head _ (.head _)).symm (.head (h.tail.head))) (.tail _ (.head _))
theorem upd_si {nd : Nd} {l : List Nd} {v : Int} {t : Tok} (hn : ND (NN l)) (hm : nd ∈ l) :
    Upd nd.sa (listOf (vals nd.si).toArray nd.ep) (listOf (vals (nd.si ++ [(v, t)])).toArray (nd.ep + 1)) (NN l) (NN (modN nd.a (addSi v t) l)) :=
  upd_NN hn hm (fun h => .head h.head) (.head _)
theorem memL {α : Type} {a : α} {l r : List α} (h : a ∈ l) : List.Mem a (l ++ r) := List.mem_append_left _ h
theorem memL' {α : Type} {a : α} {l r : List α} (h : a ∈ l) : a ∈ (l ++ r) := List.mem_append_left _ h
theorem memR {α : Type} {a : α} {l r : List α} (h : a ∈ r) : List.Mem a (l ++ r) := List.mem_append_right _ h
theorem memR' {α : Type} {a : α} {l r : List α} (h : a ∈ r) : a ∈ (l ++ r) := List.mem_append_right _ h
theorem mem_np {nd : Nd} {l : List Nd} {v : Int} {t : Tok} (h : nd ∈ l) : (nd.a, nodeObj nd.da nd.sa v t nd.k nd.tk) ∈ NN (modN nd.a (setNp v t) l) :=
  mem_obj (nd := setNp v t nd) (List.mem_map.mpr ⟨nd, h, by rw [if_pos rfl]⟩)
theorem mem_dct_np {nd : Nd} {l : List Nd} {v : Int} {t : Tok} (h : nd ∈ l) : (nd.da, dictOf [] 0) ∈ NN (modN nd.a (setNp v t) l) :=
  mem_dct (nd := setNp v t nd) (List.mem_map.mpr ⟨nd, h, by rw [if_pos rfl]⟩)
theorem mem_suc_np {nd : Nd} {l : List Nd} {v : Int} {t : Tok} (h : nd ∈ l) : (nd.sa, listOf (vals nd.si).toArray nd.ep) ∈ NN (modN nd.a (setNp v t) l) :=
  mem_suc (nd := setNp v t nd) (List.mem_map.mpr ⟨nd, h, by rw [if_pos rfl]⟩)
/-! part S0 -/
set_option maxHeartbeats 1000000
/-- where the walk stops, for a rule by hand -/
inductive S1 : (α : Type) → Sem α → Prop
  | r80 {a b} : S1 _ (call (.ref 80) a b)
  | r87 {a b} : S1 _ (call (.ref 87) a b)
  | r92 {a b} : S1 _ (call (.ref 92) a b)
  | r99 {a b} : S1 _ (call (.ref 99) a b)
  | r106 {a b} : S1 _ (call (.ref 106) a b)
  | r120 {a b} : S1 _ (call (.ref 120) a b)
  | r127 {a b} : S1 _ (call (.ref 127) a b)
  | r137 {a b} : S1 _ (call (.ref 137) a b)
  | r146 {a b} : S1 _ (call (.ref 146) a b)
  | tup {a b} : S1 _ (call (.type "tuple") a b)
  | tru {a} : S1 _ (truthy (.ref a))
  | clr {a b} : S1 _ (call (.builtin "list.clear") a b)
  | lc {a b c d e} : S1 _ (eval (.ListComp a b c d) e)
  | dc {a b c d e f} : S1 _ (eval (.DictComp a b c d e) f)
  | alc {x y a b c d e f} : S1 _ (exec (.Assign [.Name x y] (.ListComp a b c d) e) f)
  | fo {a b c d e f} : S1 _ (exec (.For a b c d e) f)
  | wh {a b c d e} : S1 _ (exec (.While a b c d) e)
inductive S3 : (α : Type) → Sem α → Prop
  | sub {a b c d} : S3 _ (subscriptTail a b (.ref c) d)
  | pop {a b} : S3 _ (call (.builtin "list.pop") a b)
  | del {a b} : S3 _ (delItem (.ref a) b)
  | note {a b} : S3 _ (noteFrame a b)
  | set {a b c} : S3 _ (setItem (.ref a) b c)
  | iter {a} : S3 _ (pyIter a)
  | app {a b} : S3 _ (call (.builtin "list.append") a b)
  | ext {a b} : S3 _ (call (.builtin "list.extend") a b)
  | srt {a b} : S3 _ (call (.builtin "sorted") a b)
  | len {a b} : S3 _ (call (.builtin "len") a b)
  | min {a b} : S3 _ (call (.builtin "min") a b)
  | max {a b} : S3 _ (call (.builtin "max") a b)
  | cmp {a b c} : S3 _ (compareOp a (.ref b) c)
  | bin {a b c} : S3 _ (binaryOp a (.ref b) c)
  | rng {a b} : S3 _ (call (.type "range") a b)
inductive S4 : (α : Type) → Sem α → Prop
  | clock {e v} : S4 _ (storeName e (Str.ofString "clock") v)
  | begun {e v} : S4 _ (storeName e (Str.ofString "begun") v)
inductive S6 : (α : Type) → Sem α → Prop
  | numbers {e v} : S6 _ (storeName e (Str.ofString "numbers") v)
  | hours {e v} : S6 _ (storeName e (Str.ofString "hours") v)
  | job {e v} : S6 _ (storeName e (Str.ofString "job") v)
  | k {e v} : S6 _ (storeName e (Str.ofString "k") v)
  | begun {e v} : S6 _ (storeName e (Str.ofString "begun") v)
  | ends {e v} : S6 _ (storeName e (Str.ofString "ends") v)
  | times {e v} : S6 _ (storeName e (Str.ofString "times") v)
  | most {e v} : S6 _ (storeName e (Str.ofString "most") v)
  | enum {a b} : S6 _ (call (.type "enumerate") a b)
section
variable {α : Type} {M : Model} {A : Around} {t : Sem α} {Q : α → Shared → Prop} {E : Value → Shared → Prop} {s : Shared}
theorem at1 (_ : S1 α t) (h : wpAny M A t Q E s) : wpAny M A t Q E s := h
theorem at3 (_ : S3 α t) (h : wpAny M A t Q E s) : wpAny M A t Q E s := h
theorem at4 (_ : S4 α t) (h : wpAny M A t Q E s) : wpAny M A t Q E s := h
theorem at6 (_ : S6 α t) (h : wpAny M A t Q E s) : wpAny M A t Q E s := h
end
/-- the goal's post-condition as a letter -/
theorem abs_post {α : Type} {M : Model} {A : Around} {t : Sem α} {Q : α → Shared → Prop} {E : Value → Shared → Prop} {s : Shared} (h : ∀ Q', (∀ a s', Q a s' → Q' a s') → wpAny M A t Q' E s) : wpAny M A t Q E s := h Q fun _ _ h => h
theorem lt_dec {i n k : Nat} (h : i < n) (hk : k = n + 1 - i) : n + 1 - (i + 1) < k := by omega
theorem eq_top {i n : Nat} (h : ¬ i < n) (hi : i ≤ n) : i = n := Nat.le_antisymm hi (Nat.not_lt.mp h)
/-! part L1 -/
set_option maxHeartbeats 1000000
set_option maxHeartbeats 4000000
section
variable {prog : Program} {w : World} {A : Around} {s : Shared} {env : Env} {h₀ : Heap} {target : PySem.Expr} {body : List Stmt} {Q : Flow → Shared → Prop}

/-- a for that raises nothing -/
def LoopX (prog : Program) (w : World) (A : Around) (env : Env) (target : PySem.Expr) (body : List Stmt) (Q : Flow → Shared → Prop) (it : Value) (s₂ : Shared) : Prop :=
  (∀ v, letOwnedTupleGo target it v = pure ()) ∧ ∃ (Inv : Nat → Shared → Prop) (n : Nat), Inv n s₂ ∧ ∀ n s, Inv n s → wpAny (model prog w) A (pyNext it) (fun r s₁ => match r with
      | none => Q .next s₁
      | some v => wpAny (model prog w) A (assign target env v) (fun _ s₂ => wpAny (model prog w) A (execs body env) (fun f s₃ => match f with
          | .next | .cont => ∃ m, m < n ∧ Inv m s₃
          | .brk => Q .next s₃
          | .ret v => Q (.ret v) s₃) (fun _ _ => False) s₂) (fun _ _ => False) s₁) (fun _ _ => False) s

theorem for_rule {iter : PySem.Expr} {pos : Pos}
    (h : wpAny (model prog w) A (eval iter env) (fun xv s₁ => wpAny (model prog w) A (pyIter xv) (fun it s₂ => LoopX prog w A env target body Q it s₂) (fun _ _ => False) s₁) (fun _ _ => False) s)
    (hs : ∀ x, foldedSetIterable iter env x = pure x := by intro _; rfl) :
    wpAny (model prog w) A (exec (.For target iter body [] pos) env) Q (fun _ _ => False) s := by
  refine wpAny_For (wpAny_mono h (fun xv s₁ h₁ => wpAny_mono h₁ (fun it s₂ h₂ => ?_) fun _ _ e => e) fun _ _ e => e) hs
  obtain ⟨ht, Inv, n, h0, turn⟩ := h₂
  refine codeAny_forLoop Inv (fun n s hI => ?_) n h0 ht
  refine wpAny_mono (turn n s hI) (fun r s₁ h₁ => ?_) fun _ _ e => e.elim
  cases r with
  | none => exact wpAny_execs_nil h₁
  | some v =>
    refine wpAny_mono h₁ (fun _ s₂ h₂ => ?_) fun _ _ e => e.elim
    refine wpAny_mono h₂ (fun f s₃ h₃ => ?_) fun _ _ e => e.elim
    cases f with
    | ret v => exact h₃
    | brk => exact h₃
    | next => exact h₃
    | cont => exact h₃

/-- the end of a turn: the iterator stands at I as it stood -/
inductive TurnE (h₀ : Heap) (L : Addr) (s : Shared) (I : Addr) (io : Obj) (J : (Str → Option Value) → List (Addr × Obj) → Prop) : Shared → Prop
  | mk (h' : Heap) (tk : Nat) (m' : Str → Option Value) (nx : List (Addr × Obj)) (F : Fr h₀ L h' m') (N : News h₀ L h' ((I, io) :: nx)) (o : ∀ p ∈ nx, p.1 ≠ I) (j : J m' nx) : TurnE h₀ L s I io J { s with heap := h', toks := tk }
def TurnP (h₀ : Heap) (L : Addr) (s : Shared) (I : Addr) (io : Obj) (J : (Str → Option Value) → List (Addr × Obj) → Prop) (Q : Flow → Shared → Prop) (f : Flow) (s₃ : Shared) : Prop :=
  match f with
  | .ret v => Q (.ret v) s₃
  | .brk => Q .next s₃
  | _ => TurnE h₀ L s I io J s₃

theorem TurnP.next {L I : Addr} {io : Obj} {J : (Str → Option Value) → List (Addr × Obj) → Prop} {h' : Heap} {tk : Nat} {m' : Str → Option Value} {all nx : List (Addr × Obj)} (F : Fr h₀ L h' m') (N : News h₀ L h' all)
    (hsub : ∀ p ∈ (I, io) :: nx, p ∈ all) (hn : ∀ p ∈ nx, p.1 ≠ I) (hJ : J m' nx) : TurnP h₀ L s I io J Q .next { s with heap := h', toks := tk } := ⟨h', tk, m', nx, F, fun p hp => N p (hsub p hp), hn, hJ⟩
theorem TurnP.re {L I : Addr} {io : Obj} {J : (Str → Option Value) → List (Addr × Obj) → Prop} {f : Flow} {s₃ : Shared} {hp : Heap} {t : Nat} (h : TurnP h₀ L s I io J Q f s₃) : TurnP h₀ L { s with heap := hp, toks := t } I io J Q f s₃ := by
  have e : TurnE h₀ L s I io J s₃ → TurnE h₀ L { s with heap := hp, toks := t } I io J s₃ := fun ⟨h', tk, m', nx, F, N, o, j⟩ => ⟨h', tk, m', nx, F, N, o, j⟩
  cases f with
  | ret v => exact h
  | brk => exact h
  | next => exact e h
  | cont => exact e h
inductive LI (h₀ : Heap) (L : Addr) (s : Shared) (I : Addr) (n : Nat) (St : Nat → Heap → Prop) (J : Nat → (Str → Option Value) → List (Addr × Obj) → Prop) (k : Nat) : Shared → Prop
  | mk (h' : Heap) (tk : Nat) (m' : Str → Option Value) (nx : List (Addr × Obj)) (i : Nat) (st : St i h') (F : Fr h₀ L h' m') (N : News h₀ L h' nx) (o : ∀ p ∈ nx, p.1 ≠ I) (j : J i m' nx) (hi : i ≤ n) (hk : k = n + 1 - i) : LI h₀ L s I n St J k { s with heap := h', toks := tk }
theorem loopX_of {I : Addr} {fp : List Addr} {n : Nat} {P : Nat → Value → Prop} {St : Nat → Heap → Prop} {m₀ : Str → Option Value} {news ks : List (Addr × Obj)} (J : Nat → (Str → Option Value) → List (Addr × Obj) → Prop)
    (W : Walks prog w A I fp [I] n P St) (hLf : env.locals ∉ fp) (hI0 : h₀.get? I = none) (hnI : ∀ p ∈ news, p.1 ≠ I) (hfp : ∀ b ∈ fp, b = I ∨ (∃ o, h₀.get? b = some o) ∨ ∃ o, (b, o) ∈ ks)
    (hks : ∀ i m nx, J i m nx → ∀ p ∈ ks, p ∈ nx) (hlive : ∀ i h, St i h → ∃ o, h.get? I = some o) (ht : ∀ v, letOwnedTupleGo target (.ref I) v = pure ())
    (hst : St 0 s.heap) (F : Fr h₀ env.locals s.heap m₀) (N : News h₀ env.locals s.heap news) (hj : J 0 m₀ news)
    (turn : ∀ i v m₁ news₁ h tk io, i < n → P i v → J i m₁ news₁ → (∀ p ∈ news₁, p.1 ≠ I) → Fr h₀ env.locals h m₁ → News h₀ env.locals h ((I, io) :: news₁) →
      wpAny (model prog w) A (assign target env v) (fun _ s₂ => wpAny (model prog w) A (execs body env) (TurnP h₀ env.locals s I io (J (i + 1)) Q) (fun _ _ => False) s₂) (fun _ _ => False) { s with heap := h, toks := tk })
    (done : ∀ m₁ news₁ h tk, J n m₁ news₁ → Fr h₀ env.locals h m₁ → News h₀ env.locals h news₁ → Q .next { s with heap := h, toks := tk }) :
    LoopX prog w A env target body Q (.ref I) s := by
  have hLI : I ≠ env.locals := fun e => hLf (e ▸ W.sub I (.head _))
  have next : ∀ h' h₁ : Heap, ∀ m' nx, Fr h₀ env.locals h' m' → News h₀ env.locals h' nx → (∀ p ∈ nx, p.1 ≠ I) → (∀ b o, b ∉ [I] → h'.get? b = some o → h₁.get? b = some o) → Fr h₀ env.locals h₁ m' ∧ News h₀ env.locals h₁ nx := fun h' h₁ m' nx F' N' hn hk =>
    ⟨⟨F'.ns.at' fun o e => hk _ o (fun hm => hLI (List.mem_singleton.mp hm).symm) e, fun b o e => hk b o (fun hm => by rw [List.mem_singleton.mp hm, hI0] at e; cases e) (F'.keep b o e), F'.above⟩,
      fun p hp => ⟨hk _ _ (fun hm => hn p hp (List.mem_singleton.mp hm)) (N' p hp).1, (N' p hp).2⟩⟩
  refine ⟨ht, LI h₀ env.locals s I n St J, n + 1,
    ⟨s.heap, s.toks, m₀, news, 0, hst, F, N, hnI, hj, Nat.zero_le _, rfl⟩, ?_⟩
  rintro k s' ⟨h', tk, m', nx, i, hst', F', N', hn', hJ, hi, hk⟩
  by_cases hlt : i < n
  · refine W.item i _ _ _ hlt hst' fun v h₁ tk₁ hP hst₁ hk₁ => ?_
    obtain ⟨F₁, N₁⟩ := next _ _ _ _ F' N' hn' hk₁
    obtain ⟨io, hio⟩ := hlive _ _ hst₁
    have N₂ : News h₀ env.locals h₁ ((I, io) :: nx) := fun p hp => by
      rcases List.mem_cons.mp hp with rfl | hp
      · exact ⟨hio, hLI, hI0⟩
      · exact N₁ p hp
    refine wpAny_mono (turn i v m' nx h₁ tk₁ io hlt hP hJ hn' F₁ N₂) (fun _ s₂ h₂ => ?_) fun _ _ e => e
    refine wpAny_mono h₂ (fun f s₃ h₃ => ?_) fun _ _ e => e
    have fin : TurnE h₀ env.locals s I io (J (i + 1)) s₃ → ∃ m, m < k ∧ LI h₀ env.locals s I n St J m s₃ := by
      rintro ⟨h₄, tk₄, m₄, nx₄, F₄, N₄, hn₄, hJ₄⟩
      refine ⟨n + 1 - (i + 1), lt_dec hlt hk, h₄, tk₄, m₄, nx₄, i + 1, ?_, F₄, fun p hp => N₄ p (.tail _ hp), hn₄, hJ₄, hlt, rfl⟩
      refine W.frame _ _ _ hst₁ fun b hb o e => ?_
      rcases hfp b hb with rfl | ⟨o', ho'⟩ | ⟨o', ho'⟩
      · rw [hio] at e; cases e; exact (N₄ _ (.head _)).1
      · have e1 := F₁.keep b o' ho'
        rw [e1] at e; cases e
        exact F₄.keep b _ ho'
      · have e1 := (N₁ _ (hks _ _ _ hJ _ ho')).1
        rw [e1] at e; cases e
        exact (N₄ _ (.tail _ (hks _ _ _ hJ₄ _ ho'))).1
    cases f with
    | ret v => exact h₃
    | brk => exact h₃
    | next => exact fin h₃
    | cont => exact fin h₃
  · have hin : i = n := eq_top hlt hi
    subst hin
    refine W.done _ _ _ hst' fun h₁ tk₁ hk₁ => ?_
    obtain ⟨F₁, N₁⟩ := next _ _ _ _ F' N' hn' hk₁
    exact done m' nx h₁ tk₁ hJ F₁ N₁

/-- the frame's map stands but for the names xs -/
def Same (xs : List Str) (m m₀ : Str → Option Value) : Prop := ∀ z, xs.contains z = false → m z = m₀ z
abbrev mm (xs : List Str) (mu m₀ : Str → Option Value) : Str → Option Value := fun z => if xs.contains z = true then mu z else m₀ z
theorem Same.refl (xs : List Str) (m : Str → Option Value) : Same xs m m := fun _ _ => rfl
theorem Same.mm {xs : List Str} {m m₀ : Str → Option Value} (h : Same xs m m₀) : m = mm xs m m₀ := by
  funext z
  show m z = if xs.contains z = true then m z else m₀ z
  by_cases e : xs.contains z = true
  · rw [if_pos e]
  · rw [if_neg e]; exact h z (by simpa using e)
theorem loopX_in {I : Addr} {fp : List Addr} {n : Nat} {P : Nat → Value → Prop} {St : Nat → Heap → Prop} {m₀ : Str → Option Value} {news ks : List (Addr × Obj)} (xs : List Str) (J : Nat → (Str → Option Value) → List (Addr × Obj) → Prop)
    (W : Walks prog w A I fp [I] n P St) (hLf : env.locals ∉ fp) (hI0 : h₀.get? I = none) (hnI : ∀ p ∈ news, p.1 ≠ I) (hfp : ∀ b ∈ fp, b = I ∨ (∃ o, h₀.get? b = some o) ∨ ∃ o, (b, o) ∈ ks)
    (hks : ∀ i m nx, J i m nx → ∀ p ∈ ks, p ∈ nx) (hlive : ∀ i h, St i h → ∃ o, h.get? I = some o) (ht : ∀ v, letOwnedTupleGo target (.ref I) v = pure ())
    (hst : St 0 s.heap) (F : Fr h₀ env.locals s.heap m₀) (N : News h₀ env.locals s.heap news) (hj : J 0 m₀ news)
    (turn : ∀ i v mu news₁ h tk io, i < n → P i v → J i (mm xs mu m₀) news₁ → (∀ p ∈ news₁, p.1 ≠ I) → Fr h₀ env.locals h (mm xs mu m₀) → News h₀ env.locals h ((I, io) :: news₁) →
      wpAny (model prog w) A (assign target env v) (fun _ s₂ => wpAny (model prog w) A (execs body env) (TurnP h₀ env.locals s I io (fun m' nx => Same xs m' m₀ ∧ J (i + 1) m' nx) Q) (fun _ _ => False) s₂) (fun _ _ => False) { s with heap := h, toks := tk })
    (done : ∀ mu news₁ h tk, J n (mm xs mu m₀) news₁ → Fr h₀ env.locals h (mm xs mu m₀) → News h₀ env.locals h news₁ → Q .next { s with heap := h, toks := tk }) :
    LoopX prog w A env target body Q (.ref I) s := by
  refine loopX_of (fun i m nx => Same xs m m₀ ∧ J i m nx) W hLf hI0 hnI hfp (fun i m nx h => hks i m nx h.2) hlive ht hst F N ⟨Same.refl _ _, hj⟩ ?_ ?_
  · rintro i v m₁ news₁ h tk io hi hP ⟨hs, hJ⟩ hn F' N'
    rw [hs.mm] at F' hJ
    exact turn i v m₁ news₁ h tk io hi hP hJ hn F' N'
  · rintro m₁ news₁ h tk ⟨hs, hJ⟩ F' N'
    rw [hs.mm] at F' hJ
    exact done m₁ news₁ h tk hJ F' N'

theorem fresh_of {L : Addr} {h : Heap} {m : Str → Option Value} (F : Fr h₀ L h m) : h₀.get? h.objs.size = none := by
  cases e : h₀.get? h.objs.size with
  | none => rfl
  | some o => exact absurd (Heap.lt_size (F.keep _ _ e)) (Nat.lt_irrefl _)
theorem news_lt {L : Addr} {h : Heap} {news : List (Addr × Obj)} (N : News h₀ L h news) : ∀ p ∈ news, p.1 < h.objs.size := fun p hp => Heap.lt_size (N p hp).1

section
variable {m₀ : Str → Option Value} {news : List (Addr × Obj)} {l : Addr}
theorem iter_list {vs : List Value} {n : Nat} (xs : List Str) (J : Nat → (Str → Option Value) → List (Addr × Obj) → Prop) (hh : A.handled = none) (hl : (l, listOf vs.toArray n) ∈ news) (hks : ∀ i m nx, J i m nx → (l, listOf vs.toArray n) ∈ nx)
    (ht : ∀ I v, letOwnedTupleGo target (.ref I) v = pure ()) (F : Fr h₀ env.locals s.heap m₀) (N : News h₀ env.locals s.heap news) (hj : J 0 m₀ news)
    (turn : ∀ i v mu news₁ h tk I io (Qt : Flow → Shared → Prop), (∀ f s', TurnP h₀ env.locals s I io (fun m' nx => Same xs m' m₀ ∧ J (i + 1) m' nx) Q f s' → Qt f s') → vs[i]? = some v → J i (mm xs mu m₀) news₁ → (∀ p ∈ news₁, p.1 ≠ I) → (∀ p ∈ news, p.1 < I) → Fr h₀ env.locals h (mm xs mu m₀) → News h₀ env.locals h ((I, io) :: news₁) →
      wpAny (model prog w) A (assign target env v) (fun _ s₂ => wpAny (model prog w) A (execs body env) Qt (fun _ _ => False) s₂) (fun _ _ => False) { s with heap := h, toks := tk })
    (done : ∀ mu news₁ h tk, J vs.length (mm xs mu m₀) news₁ → Fr h₀ env.locals h (mm xs mu m₀) → News h₀ env.locals h news₁ → Q .next { s with heap := h, toks := tk }) :
    wpAny (model prog w) A (pyIter (.ref l)) (fun it s₂ => LoopX prog w A env target body Q it s₂) (fun _ _ => False) s := by
  have hls : s.heap.IsList l vs.toArray := ⟨_, (N _ hl).1, rfl, ⟨_, rfl⟩⟩
  have hlt := news_lt N _ hl
  refine wpAny_pyIter_list hls ?_
  have W := Walks.list (prog := prog) (w := w) hh s.heap.objs.size l (Nat.ne_of_lt hlt) vs.toArray
  rw [List.size_toArray] at W
  refine loopX_in (ks := [(l, listOf vs.toArray n)]) xs J W ?_ (fresh_of F) (fun p hp => Nat.ne_of_lt (news_lt N p hp)) ?_ (fun i m nx h p hp => by rw [List.mem_singleton.mp hp]; exact hks i m nx h) (fun i h st => ⟨_, st.1.choose_spec.1⟩) (ht _)
    ⟨⟨_, Heap.get?_push_size _ rfl, rfl, rfl⟩, hls.at fun o e => Heap.get?_push_of_some _ e⟩ (F.push _) (fun p hp => ⟨Heap.get?_push_of_some _ (N p hp).1, (N p hp).2⟩) hj ?_ done
  · intro hm
    rcases List.mem_cons.mp hm with e | hm
    · exact absurd F.ns.lt (e ▸ Nat.lt_irrefl _)
    · exact (N _ hl).2.1 (List.mem_singleton.mp hm).symm
  · intro b hb
    rcases List.mem_cons.mp hb with rfl | hb
    · exact .inl rfl
    · rw [List.mem_singleton.mp hb]; exact .inr (.inr ⟨_, .head _⟩)
  · intro i v m₁ news₁ h tk io _ hP hJ hn F' N'
    exact turn i v m₁ news₁ h tk _ io _ (fun _ _ h => h.re) (by simpa using hP) hJ hn (news_lt N) F' N'
theorem iter_tuple {vs : List Value} {n : Nat} (xs : List Str) (J : Nat → (Str → Option Value) → List (Addr × Obj) → Prop) (hh : A.handled = none) (hl : (l, ({ cls := .type "tuple", data := .seq vs.toArray n } : Obj)) ∈ news) (hks : ∀ i m nx, J i m nx → (l, ({ cls := .type "tuple", data := .seq vs.toArray n } : Obj)) ∈ nx)
    (ht : ∀ I v, letOwnedTupleGo target (.ref I) v = pure ()) (F : Fr h₀ env.locals s.heap m₀) (N : News h₀ env.locals s.heap news) (hj : J 0 m₀ news)
    (turn : ∀ i v mu news₁ h tk I io (Qt : Flow → Shared → Prop), (∀ f s', TurnP h₀ env.locals s I io (fun m' nx => Same xs m' m₀ ∧ J (i + 1) m' nx) Q f s' → Qt f s') → vs[i]? = some v → J i (mm xs mu m₀) news₁ → (∀ p ∈ news₁, p.1 ≠ I) → (∀ p ∈ news, p.1 < I) → Fr h₀ env.locals h (mm xs mu m₀) → News h₀ env.locals h ((I, io) :: news₁) →
      wpAny (model prog w) A (assign target env v) (fun _ s₂ => wpAny (model prog w) A (execs body env) Qt (fun _ _ => False) s₂) (fun _ _ => False) { s with heap := h, toks := tk })
    (done : ∀ mu news₁ h tk, J vs.length (mm xs mu m₀) news₁ → Fr h₀ env.locals h (mm xs mu m₀) → News h₀ env.locals h news₁ → Q .next { s with heap := h, toks := tk }) :
    wpAny (model prog w) A (pyIter (.ref l)) (fun it s₂ => LoopX prog w A env target body Q it s₂) (fun _ _ => False) s := by
  have hls : s.heap.IsTuple l vs.toArray := ⟨_, (N _ hl).1, rfl, ⟨_, rfl⟩⟩
  have hlt := news_lt N _ hl
  refine wpAny_pyIter_tuple hls ?_
  have W := Walks.tuple (prog := prog) (w := w) hh s.heap.objs.size l (Nat.ne_of_lt hlt) vs.toArray
  rw [List.size_toArray] at W
  refine loopX_in (ks := [(l, ({ cls := .type "tuple", data := .seq vs.toArray n } : Obj))]) xs J W ?_ (fresh_of F) (fun p hp => Nat.ne_of_lt (news_lt N p hp)) ?_ (fun i m nx h p hp => by rw [List.mem_singleton.mp hp]; exact hks i m nx h) (fun i h st => ⟨_, st.1.choose_spec.1⟩) (ht _)
    ⟨⟨_, Heap.get?_push_size _ rfl, rfl, rfl⟩, hls.at fun o e => Heap.get?_push_of_some _ e⟩ (F.push _) (fun p hp => ⟨Heap.get?_push_of_some _ (N p hp).1, (N p hp).2⟩) hj ?_ done
  · intro hm
    rcases List.mem_cons.mp hm with e | hm
    · exact absurd F.ns.lt (e ▸ Nat.lt_irrefl _)
    · exact (N _ hl).2.1 (List.mem_singleton.mp hm).symm
  · intro b hb
    rcases List.mem_cons.mp hb with rfl | hb
    · exact .inl rfl
    · rw [List.mem_singleton.mp hb]; exact .inr (.inr ⟨_, .head _⟩)
  · intro i v m₁ news₁ h tk io _ hP hJ hn F' N'
    exact turn i v m₁ news₁ h tk _ io _ (fun _ _ h => h.re) (by simpa using hP) hJ hn (news_lt N) F' N'
end
end
/-- one name of a frame's map -/
abbrev putm (x : Str) (v : Value) (m : Str → Option Value) : Str → Option Value := fun y => if y = x then some v else m y
theorem Same.of_eq {xs : List Str} {a b : Str → Option Value} (h : a = b) : Same xs a b := fun z _ => congrFun h z
theorem Same.mono {xs ys : List Str} {a b : Str → Option Value} (h : Same xs a b) (hs : ∀ z, ys.contains z = false → xs.contains z = false) : Same ys a b := fun z hz => h z (hs z hz)
theorem Same.get {xs : List Str} {a b : Str → Option Value} {x : Str} {v : Option Value} (h : Same xs a b) (hb : b x = v) (hx : xs.contains x = false := by decide) : a x = v := (h x hx).trans hb
theorem Same.put' {xs : List Str} {x : Str} {v : Value} {m m₀ : Str → Option Value} (h : Same xs m m₀) (hx : xs.contains x = true := by decide) : Same xs (putm x v m) m₀ := fun z hz => by
  have : z ≠ x := fun e => by rw [e, hx] at hz; cases hz
  show (if z = x then _ else _) = _
  rw [if_neg this]; exact h z hz
theorem Same.trans {xs : List Str} {a b c : Str → Option Value} (h1 : Same xs a b) (h2 : Same xs b c) : Same xs a c := fun z hz => (h1 z hz).trans (h2 z hz)
theorem Same.put {x : Str} {v : Value} {m m₀ : Str → Option Value} (h : Same [x] m m₀) : Same [x] (fun y => if y = x then some v else m y) m₀ := fun z hz => by
  have : z ≠ x := by simpa using hz
  show (if z = x then _ else _) = _
  rw [if_neg this]; exact h z hz
theorem same_of_mm {xs : List Str} {mu m₀ : Str → Option Value} : Same xs (mm xs mu m₀) m₀ := fun z hz => by show (if xs.contains z = true then _ else _) = _; rw [hz]; rfl
/-! part L2 -/
set_option maxHeartbeats 1000000
section
variable {prog : Program} {w : World} {A : Around} {s : Shared} {env : Env} {h₀ : Heap} {t1 t2 : PySem.Expr} {tk0 : Nat} {tpos : Pos} {body : List Stmt} {Q : Flow → Shared → Prop}
/-- the end of a turn, the loop's own objects standing as they stood -/
inductive TurnTE (h₀ : Heap) (L : Addr) (s : Shared) (own : List (Addr × Obj)) (J : (Str → Option Value) → List (Addr × Obj) → Prop) : Shared → Prop
  | mk (h' : Heap) (tk : Nat) (m' : Str → Option Value) (nx : List (Addr × Obj)) (F : Fr h₀ L h' m') (N : News h₀ L h' (own ++ nx)) (o : ∀ p ∈ nx, p.1 ∉ own.map (·.1)) (j : J m' nx) : TurnTE h₀ L s own J { s with heap := h', toks := tk }
inductive LI2 (h₀ : Heap) (L : Addr) (s : Shared) (wr : List Addr) (n : Nat) (St : Nat → Heap → Prop) (J : Nat → (Str → Option Value) → List (Addr × Obj) → Prop) (k : Nat) : Shared → Prop
  | mk (h' : Heap) (tk : Nat) (m' : Str → Option Value) (nx : List (Addr × Obj)) (i : Nat) (st : St i h') (F : Fr h₀ L h' m') (N : News h₀ L h' nx) (o : ∀ p ∈ nx, p.1 ∉ wr) (j : J i m' nx) (hi : i ≤ n) (hk : k = n + 1 - i) : LI2 h₀ L s wr n St J k { s with heap := h', toks := tk }
def TurnT (h₀ : Heap) (L : Addr) (s : Shared) (own : List (Addr × Obj)) (J : (Str → Option Value) → List (Addr × Obj) → Prop) (Q : Flow → Shared → Prop) (f : Flow) (s₃ : Shared) : Prop :=
  match f with
  | .ret v => Q (.ret v) s₃
  | .brk => Q .next s₃
  | _ => TurnTE h₀ L s own J s₃
theorem TurnT.next {L : Addr} {own : List (Addr × Obj)} {J : (Str → Option Value) → List (Addr × Obj) → Prop} {h' : Heap} {tk : Nat} {m' : Str → Option Value} {all nx : List (Addr × Obj)} (F : Fr h₀ L h' m') (N : News h₀ L h' all)
    (hsub : ∀ p ∈ own ++ nx, p ∈ all) (hn : ∀ p ∈ nx, p.1 ∉ own.map (·.1)) (hJ : J m' nx) : TurnT h₀ L s own J Q .next { s with heap := h', toks := tk } := ⟨h', tk, m', nx, F, fun p hp => N p (hsub p hp), hn, hJ⟩

def LoopT (prog : Program) (w : World) (A : Around) (env : Env) (target : PySem.Expr) (body : List Stmt) (Q : Flow → Shared → Prop) (it : Value) (s₂ : Shared) : Prop :=
  ∃ (Inv : Nat → Shared → Prop) (n : Nat), Inv n s₂ ∧ ∀ n s, Inv n s → wpAny (model prog w) A (pyNext it) (fun r s₁ => match r with
      | none => Q .next s₁
      | some v => wpAny (model prog w) A (letOwnedTupleGo target it v) (fun _ s₁' => wpAny (model prog w) A (assign target env v) (fun _ s₂ => wpAny (model prog w) A (execs body env) (fun f s₃ => match f with
          | .next | .cont => ∃ m, m < n ∧ Inv m s₃
          | .brk => Q .next s₃
          | .ret v => Q (.ret v) s₃) (fun _ _ => False) s₂) (fun _ _ => False) s₁') (fun _ _ => False) s₁) (fun _ _ => False) s
theorem forT_rule {target iter : PySem.Expr} {pos : Pos}
    (h : wpAny (model prog w) A (eval iter env) (fun xv s₁ => wpAny (model prog w) A (pyIter xv) (fun it s₂ => LoopT prog w A env target body Q it s₂) (fun _ _ => False) s₁) (fun _ _ => False) s)
    (hs : ∀ x, foldedSetIterable iter env x = pure x := by intro _; rfl) :
    wpAny (model prog w) A (exec (.For target iter body [] pos) env) Q (fun _ _ => False) s := by
  refine wpAny_For (wpAny_mono h (fun xv s₁ h₁ => wpAny_mono h₁ (fun it s₂ h₂ => ?_) fun _ _ e => e) fun _ _ e => e) hs
  obtain ⟨Inv, n, h0, turn⟩ := h₂
  refine codeAny_forLoop_any Inv (fun n s hI => ?_) n h0
  refine wpAny_mono (turn n s hI) (fun r s₁ h₁ => ?_) fun _ _ e => e.elim
  cases r with
  | none => exact wpAny_execs_nil h₁
  | some v =>
    refine wpAny_mono h₁ (fun _ s₂ h₂ => ?_) fun _ _ e => e.elim
    refine wpAny_mono h₂ (fun _ s₂ h₂ => ?_) fun _ _ e => e.elim
    refine wpAny_mono h₂ (fun f s₃ h₃ => ?_) fun _ _ e => e.elim
    cases f with
    | ret v => exact h₃
    | brk => exact h₃
    | next => exact h₃
    | cont => exact h₃

theorem loopT_of {I : Addr} {fp wr : List Addr} {n : Nat} {Pt : Nat → Array Value → Prop} {St : Nat → Heap → Prop} {Mid : Nat → Addr → Heap → Prop} {m₀ : Str → Option Value} {news ks : List (Addr × Obj)} (xs : List Str) (J : Nat → (Str → Option Value) → List (Addr × Obj) → Prop)
    (W : WalksT prog w A I fp wr n Pt St Mid) (hh : A.handled = none) (hLf : env.locals ∉ fp) (hI0 : ∀ b ∈ wr, h₀.get? b = none) (hnI : ∀ p ∈ news, p.1 ∉ wr) (hfp : ∀ b ∈ fp, b ∈ wr ∨ (∃ o, h₀.get? b = some o) ∨ ∃ o, (b, o) ∈ ks)
    (hks : ∀ i m nx, J i m nx → ∀ p ∈ ks, p ∈ nx) (hlive : ∀ i h, St i h → ∃ own : List (Addr × Obj), own.map (·.1) = wr ∧ ∀ p ∈ own, h.get? p.1 = some p.2) (hP2 : ∀ i vs, Pt i vs → ∃ v0 v1, vs = #[v0, v1])
    (hst : St 0 s.heap) (F : Fr h₀ env.locals s.heap m₀) (N : News h₀ env.locals s.heap news) (hj : J 0 m₀ news)
    (hae : assignEach [t1, t2] env = [(false, assign t1 env), (false, assign t2 env)])
    (turn : ∀ i v0 v1 mu news₁ h tk own, i < n → Pt i #[v0, v1] → J i (mm xs mu m₀) news₁ → own.map (·.1) = wr → (∀ p ∈ news₁, p.1 ∉ wr) → Fr h₀ env.locals h (mm xs mu m₀) → News h₀ env.locals h (own ++ news₁) →
      wpAny (model prog w) A (assign t1 env v0) (fun _ s₂ => wpAny (model prog w) A (assign t2 env v1) (fun _ s₃ => wpAny (model prog w) A (execs body env) (TurnT h₀ env.locals s own (fun m' nx => Same xs m' m₀ ∧ J (i + 1) m' nx) Q) (fun _ _ => False) s₃) (fun _ _ => False) s₂) (fun _ _ => False) { s with heap := h, toks := tk })
    (done : ∀ mu news₁ h tk, J n (mm xs mu m₀) news₁ → Fr h₀ env.locals h (mm xs mu m₀) → News h₀ env.locals h news₁ → Q .next { s with heap := h, toks := tk }) :
    LoopT prog w A env (.Tuple [t1, t2] tk0 tpos) body Q (.ref I) s := by
  have hLw : env.locals ∉ wr := fun h => hLf (W.sub _ h)
  have next : ∀ h' h₁ : Heap, ∀ m' nx, Fr h₀ env.locals h' m' → News h₀ env.locals h' nx → (∀ p ∈ nx, p.1 ∉ wr) → (∀ b o, b ∉ wr → h'.get? b = some o → h₁.get? b = some o) → Fr h₀ env.locals h₁ m' ∧ News h₀ env.locals h₁ nx := fun h' h₁ m' nx F' N' hn hk =>
    ⟨⟨F'.ns.at' fun o e => hk _ o hLw e, fun b o e => hk b o (fun hm => by rw [hI0 b hm] at e; cases e) (F'.keep b o e), F'.above⟩,
      fun p hp => ⟨hk _ _ (hn p hp) (N' p hp).1, (N' p hp).2⟩⟩
  refine ⟨LI2 h₀ env.locals s wr n St (fun i m' nx => Same xs m' m₀ ∧ J i m' nx), n + 1,
    ⟨s.heap, s.toks, m₀, news, 0, hst, F, N, hnI, ⟨Same.refl _ _, hj⟩, Nat.zero_le _, rfl⟩, ?_⟩
  rintro k s' ⟨h', tk, m', nx, i, hst', F', N', hn', ⟨hS, hJ⟩, hi, hk⟩
  by_cases hlt : i < n
  · refine W.item i _ _ _ hlt hst' fun T vs h₁ tk₁ hP hT hIT hMid hk₁ => ?_
    obtain ⟨F₁, N₁⟩ := next _ _ _ _ F' N' hn' hk₁
    obtain ⟨v0, v1, rfl⟩ := hP2 _ _ hP
    refine W.go _ _ _ i T _ _ _ hMid fun h₂ hst₂ hk₂ => ?_
    obtain ⟨F₂, N₂⟩ := next _ _ _ _ F₁ N₁ hn' hk₂
    have hIT₂ : h₂.IsTuple T #[v0, v1] := by
      obtain ⟨o, ho, r⟩ := hIT
      exact ⟨o, hk₂ _ _ (W.apart _ _ _ hMid) ho, r⟩
    refine wpAny_assign_Tuple hh hIT₂ (by rw [hae]; rfl) (by rw [hae]; rfl) fun h₃ hx₃ => ?_
    replace hx₃ : Heap.ExtBut h₂.objs.size h₂ h₃ := hx₃
    have old₃ : ∀ b o, h₂.get? b = some o → h₃.get? b = some o := fun b o x => hx₃ b o (Nat.ne_of_lt (Heap.lt_size x)) x
    have F₃ : Fr h₀ env.locals h₃ m' := ⟨F₂.ns.at' fun o e => old₃ _ o e, fun b o e => old₃ b o (F₂.keep b o e), F₂.above⟩
    have N₃ : News h₀ env.locals h₃ nx := fun p hp => ⟨old₃ _ _ (N₂ p hp).1, (N₂ p hp).2⟩
    have hst₃ : St (i + 1) h₃ := W.frame _ _ _ hst₂ fun b _ o e => old₃ b o e
    obtain ⟨own, how, hown⟩ := hlive _ _ hst₃
    have N₄ : News h₀ env.locals h₃ (own ++ nx) := fun p hp => by
      rcases List.mem_append.mp hp with hp | hp
      · have hw : p.1 ∈ wr := how ▸ List.mem_map_of_mem hp
        exact ⟨hown p hp, fun e => hLw (e ▸ hw), hI0 _ hw⟩
      · exact N₃ p hp
    rw [hae]
    show wpAny _ _ (do holding [v1] (assign t1 env v0); do holding [] (assign t2 env v1); pure ()) _ _ _
    rw [hS.mm] at F₃ hJ
    refine wpAny_bind (wpAny_holding (wpAny_mono (turn i v0 v1 m' nx h₃ tk₁ own hlt hP hJ how hn' F₃ N₄) (fun _ s₂ h₂ => ?_) fun _ _ e => e))
    refine wpAny_bind (wpAny_holding (wpAny_mono h₂ (fun _ s₃ h₃ => wpAny_pure ?_) fun _ _ e => e))
    refine wpAny_mono h₃ (fun f s₄ h₅ => ?_) fun _ _ e => e
    have fin : TurnTE h₀ env.locals s own (fun m' nx => Same xs m' m₀ ∧ J (i + 1) m' nx) s₄ → ∃ m, m < k ∧ LI2 h₀ env.locals s wr n St (fun i m' nx => Same xs m' m₀ ∧ J i m' nx) m s₄ := by
      rintro ⟨h₆, tk₆, m₆, nx₆, F₆, N₆, hn₆, hJ₆⟩
      refine ⟨n + 1 - (i + 1), lt_dec hlt hk, h₆, tk₆, m₆, nx₆, i + 1, ?_, F₆, fun p hp => N₆ p (List.mem_append_right _ hp), fun p hp hw => hn₆ p hp (how ▸ hw), hJ₆, hlt, rfl⟩
      refine W.frame _ _ _ hst₃ fun b hb o e => ?_
      rcases hfp b hb with hw | ⟨o', ho'⟩ | ⟨o', ho'⟩
      · rw [← how] at hw
        obtain ⟨p, hp, rfl⟩ := List.mem_map.mp hw
        have e1 := hown p hp
        rw [e1] at e; cases e
        exact (N₆ p (List.mem_append_left _ hp)).1
      · have e1 := F₃.keep b o' ho'
        rw [e1] at e; cases e
        exact F₆.keep b _ ho'
      · have e1 := (N₃ _ (hks _ _ _ hJ _ ho')).1
        rw [e1] at e; cases e
        exact (N₆ _ (List.mem_append_right _ (hks _ _ _ hJ₆.2 _ ho'))).1
    cases f with
    | ret v => exact h₅
    | brk => exact h₅
    | next => exact fin h₅
    | cont => exact fin h₅
  · have hin : i = n := eq_top hlt hi
    subst hin
    refine W.done _ _ _ hst' fun h₁ tk₁ hk₁ => ?_
    obtain ⟨F₁, N₁⟩ := next _ _ _ _ F' N' hn' hk₁
    rw [hS.mm] at F₁ hJ
    exact done m' nx h₁ tk₁ hJ F₁ N₁

variable {K : Type} [DecidableEq K] {knd : KeyKind prog w K}
theorem entry_items_iter : entryFor table "dict_itemiterator.__iter__" = some Builtin.«dict_keyiterator.__iter__» :=
  entryFor_alias (id' := "dict_keyiterator.__iter__") (by kernel_rfl) rfl (by decide +kernel) (by kernel_rfl)
theorem walksT_items (hh : A.handled = none) (I d : Addr) (hne : d ≠ I) (kvs : List (K × Value)) (ep : Nat) :
    WalksT prog w A I [I, d] [I] kvs.length (fun i vs => ∃ k v key, kvs[i]? = some (k, v) ∧ knd.is k key = true ∧ vs = #[key, v])
      (fun i h => (∃ ok ov, IsItemIter h I d i kvs.length ep ok ov) ∧ h.DictAt knd d kvs ep)
      (fun i T h => (∃ ok ov, IsItemIterOut h I d (i + 1) kvs.length ep ok ov T) ∧ h.DictAt knd d kvs ep ∧ T ≠ I) where
  sub := fun b hb => by simp at hb; simp [hb]
  frame := fun i h h' hst hk => by
    obtain ⟨⟨ok, ov, he⟩, hd⟩ := hst
    exact ⟨⟨ok, ov, hk I (by simp) _ he⟩, hd.at' fun o e => hk d (by simp) o e⟩
  item := fun i s Q E hi hst hQ => by
    obtain ⟨⟨ok, ov, he⟩, hd⟩ := hst
    obtain ⟨⟨k, v⟩, hx⟩ : ∃ p, kvs[i]? = some p := ⟨kvs[i], by simp [hi]⟩
    refine wpAny_pyNext_items_item he hd hx fun key h' hkey ho hT hsz hk => ?_
    have hIlt : I < s.heap.objs.size := Heap.lt_size he
    exact hQ s.heap.objs.size #[key, v] h' s.toks ⟨k, v, key, hx, hkey, rfl⟩ (Nat.le_refl _) ⟨_, hT, rfl, _, rfl⟩ ⟨⟨_, _, ho⟩, hd.at' fun o e => hk d o hne e, Nat.ne_of_gt hIlt⟩
      fun b o hb x => hk b o (fun e' => hb (by simp [e'])) x
  go := fun elts k pos i T s Q E hm hQ => by
    obtain ⟨⟨ok, ov, ho⟩, hd, hT⟩ := hm
    refine wpAny_letOwnedTupleGo_items ho fun h' he' hs' => hQ h' ⟨⟨ok, ov, he'⟩, hd.extBut hs'.extBut hne⟩ fun b o hb y => ?_
    exact (hs'.2 b fun e' => hb (by simp [e'])).trans y
  apart := fun i T h hm hT => hm.2.2 (List.mem_singleton.mp hT)
  done := fun s Q E hst hQ => by
    obtain ⟨⟨ok, ov, he⟩, hd⟩ := hst
    exact wpAny_pyNext_items_end hh he hd (by simp) fun h' hx => hQ h' s.toks fun b o hb y => hx b o (fun e' => hb (by simp [e'])) y
  self := fun i s Q E hst hQ => by
    obtain ⟨⟨ok, ov, he⟩, hd⟩ := hst
    have hT : s.TypeIs (.ref I) "dict_itemiterator" := ⟨_, he, rfl⟩
    refine wpAny_pyIter_slot hT F.slot_dict_itemiterator_iter (wpAny_call_entry F.slot_dict_itemiterator_iter hT entry_items_iter ?_ (F.args_dict_itemiterator_iter_1 _))
    show wpAny _ _ (ret (.ref I)) _ _ s
    exact wpAny_pure ⟨_, rfl, "dict_itemiterator", _, hT, F.slot_dict_itemiterator_next.lookup, hQ⟩
variable {m₀ : Str → Option Value} {news : List (Addr × Obj)} {d v : Addr} {od : Obj} {kvs : List (K × Value)}
/-- for a, b in d.items(): from the view on -/
theorem iter_items (xs : List Str) (J : Nat → (Str → Option Value) → List (Addr × Obj) → Prop) (hh : A.handled = none) (hv : s.heap.get? v = some ({ cls := .type "dict_items", data := .fields #[.ref d] } : Obj)) (hl : (d, od) ∈ news) (hd : od.IsDictOf knd kvs) (hks : ∀ i m nx, J i m nx → (d, od) ∈ nx)
    (F : Fr h₀ env.locals s.heap m₀) (N : News h₀ env.locals s.heap news) (hj : J 0 m₀ news)
    (hae : assignEach [t1, t2] env = [(false, assign t1 env), (false, assign t2 env)])
    (turn : ∀ i k v0 v1 mu news₁ h tk I io (Qt : Flow → Shared → Prop), (∀ f s', TurnP h₀ env.locals s I io (fun m' nx => Same xs m' m₀ ∧ J (i + 1) m' nx) Q f s' → Qt f s') → kvs[i]? = some (k, v1) → knd.is k v0 = true → J i (mm xs mu m₀) news₁ → (∀ p ∈ news₁, p.1 ≠ I) → (∀ p ∈ news, p.1 < I) → Fr h₀ env.locals h (mm xs mu m₀) → News h₀ env.locals h ((I, io) :: news₁) →
      wpAny (model prog w) A (assign t1 env v0) (fun _ s₂ => wpAny (model prog w) A (assign t2 env v1) (fun _ s₃ => wpAny (model prog w) A (execs body env) Qt (fun _ _ => False) s₃) (fun _ _ => False) s₂) (fun _ _ => False) { s with heap := h, toks := tk })
    (done : ∀ mu news₁ h tk, J kvs.length (mm xs mu m₀) news₁ → Fr h₀ env.locals h (mm xs mu m₀) → News h₀ env.locals h news₁ → Q .next { s with heap := h, toks := tk }) :
    wpAny (model prog w) A (pyIter (.ref v)) (fun it s₂ => LoopT prog w A env (.Tuple [t1, t2] tk0 tpos) body Q it s₂) (fun _ _ => False) s := by
  have hdo := Heap.dictOf_iff.mpr ⟨od, (N _ hl).1, hd⟩
  obtain ⟨ep, hda⟩ : ∃ ep, s.heap.DictAt knd d kvs ep := by
    obtain ⟨o, es, ep, ho, r⟩ := hdo
    exact ⟨ep, o, es, ho, r⟩
  have hlt := news_lt N _ hl
  refine wpAny_pyIter_items (knd := knd) ⟨_, hv, rfl, rfl⟩ hda ?_
  have W := walksT_items (prog := prog) (w := w) (knd := knd) hh s.heap.objs.size d (Nat.ne_of_lt hlt) kvs ep
  refine loopT_of (ks := [(d, od)]) xs J W hh ?_ (fun b hb => by rw [List.mem_singleton.mp hb]; exact fresh_of F) (fun p hp hm => absurd (news_lt N p hp) (by rw [List.mem_singleton.mp hm]; exact Nat.lt_irrefl _)) ?_
    (fun i m nx h p hp => by rw [List.mem_singleton.mp hp]; exact hks i m nx h) (fun i h st => ?_) (fun i vs hP => ?_) ⟨⟨_, _, Heap.get?_push_size _ rfl⟩, hda.push _⟩ (F.push _) (fun p hp => ⟨Heap.get?_push_of_some _ (N p hp).1, (N p hp).2⟩) hj hae ?_ done
  · intro hm
    rcases List.mem_cons.mp hm with e | hm
    · exact absurd F.ns.lt (e ▸ Nat.lt_irrefl _)
    · exact (N _ hl).2.1 (List.mem_singleton.mp hm).symm
  · intro b hb
    rcases List.mem_cons.mp hb with rfl | hb
    · exact .inl (.head _)
    · rw [List.mem_singleton.mp hb]; exact .inr (.inr ⟨_, .head _⟩)
  · obtain ⟨⟨ok, ov, he⟩, _⟩ := st
    exact ⟨[(_, _)], rfl, fun p hp => by rw [List.mem_singleton.mp hp]; exact he⟩
  · obtain ⟨k, v, key, _, _, rfl⟩ := hP; exact ⟨_, _, rfl⟩
  · intro i v0 v1 mu news₁ h tk own hi hP hJ how hn F' N'
    obtain ⟨k, v, key, hx, hkey, e⟩ := hP
    simp only [Array.mk.injEq, List.cons.injEq, and_true] at e
    obtain ⟨rfl, rfl⟩ := e
    obtain ⟨⟨I, io⟩, rfl⟩ : ∃ p, own = [p] := by
      have hl := congrArg List.length how
      rw [List.length_map] at hl
      exact List.length_eq_one_iff.mp hl
    have hI : I = s.heap.objs.size := by simpa using how
    subst hI
    have hn' : ∀ p ∈ news₁, p.1 ≠ s.heap.objs.size := fun p hp e => hn p hp (e ▸ .head _)
    refine wpAny_mono (turn i k v0 v1 mu news₁ h tk _ io _ (fun _ _ h => h) hx hkey hJ hn' (news_lt N) F' N') (fun _ s₂ h₂ => ?_) fun _ _ e => e
    refine wpAny_mono h₂ (fun _ s₃ h₃ => ?_) fun _ _ e => e
    refine wpAny_mono h₃ (fun f s₄ h₄ => ?_) fun _ _ e => e
    have fin : ∀ hp t, TurnE h₀ env.locals s s.heap.objs.size io (fun m' nx => Same xs m' m₀ ∧ J (i + 1) m' nx) s₄ → TurnTE h₀ env.locals { s with heap := hp, toks := t } [(s.heap.objs.size, io)] (fun m' nx => Same xs m' m₀ ∧ J (i + 1) m' nx) s₄ := by
      rintro hp t ⟨h', tk, m', nx, F₁, N₁, hn₁, hJ₁⟩
      exact ⟨h', tk, m', nx, F₁, N₁, fun p hp hm => hn₁ p hp (List.mem_singleton.mp hm), hJ₁⟩
    cases f with
    | ret v => exact h₄
    | brk => exact h₄
    | next => exact fin _ _ h₄
    | cont => exact fin _ _ h₄
end
/-! part L3 -/
set_option maxHeartbeats 1000000
section
variable {M : Model} {A : Around} {E : Value → Shared → Prop} {s : Shared} {env : Env} {K : Frag} {Q : Value → Shared → Prop}
/-- o.name(.., *e): the method is taken first, as an object -/
theorem methodCall_star {o : PySem.Expr} {name : Str} {apos pos : Pos} {args : List PySem.Expr}
    (h : wpAny M A (eval o env) (fun ov s₁ => wpAny M A (getAttr ov name true) (fun f s₂ => wpAny M A (callWith pos f [] (backTo pos (starEach args env)) []) Q E s₂) E s₁) E s)
    (he : eval (.Call (.Attribute o name apos) args [] pos) env = (do
      let ov ← eval o env
      standAt apos.atName
      let (f, first) ← holding [ov] (do pure (← getAttr ov name true, []))
      callWith pos f first (backTo pos (starEach args env)) []) := by rfl) :
    wpAny M A (eval (.Call (.Attribute o name apos) args [] pos) env) Q E s := by
  rw [he]
  refine wpAny_bind (wpAny_mono h (fun ov s₁ h₁ => wpAny_bind (wpAny_standAt (wpAny_bind (wpAny_holding (wpAny_bind (wpAny_mono h₁ (fun f s₂ h₂ => wpAny_pure h₂) fun _ _ x => x)))))) fun _ _ x => x)
/-- a method object stands at q -/
def MethIs (q g : Addr) (self : Value) : Prop := True
theorem methIn {h₀ h : Heap} {L q g : Addr} {self : Value} {news : List (Addr × Obj)} (_N : News h₀ L h news) (_hq : (q, methodObj (.ref g) self) ∈ news) : MethIs q g self := trivial
theorem callWith_MS {q g : Addr} {self : Value} {e : PySem.Expr} {p pos : Pos} {first : List Value} {h₀ : Heap} (_X : K.In h₀) (_hm : MethIs q g self) (hf : fnIn K g = true)
    (h : wpAny M A (eval e env) (fun v s₁ => StarOf M A E v (fun vs s₂ => MethP K q g self s₂.heap ∧ wpAny M A (call (.ref q) (first ++ vs)) Q E s₂) s₁) E s)
    (he : starEach [.Starred e p] env = [(true, eval e env)] := by rfl) :
    wpAny M A (callWith pos (.ref q) first (backTo pos (starEach [.Starred e p] env)) []) Q E s := by
  rw [he]
  exact ks_call rfl (keeps_M hf) (ks_lone h)
theorem callWith_MS2 {q g : Addr} {self : Value} {e : PySem.Expr} {rest : List PySem.Expr} {pos : Pos} {first : List Value} {h₀ : Heap} (_X : K.In h₀) (_hm : MethIs q g self) (hf : fnIn K g = true)
    (h : wpAny M A (spliced (backTo pos (starEach (e :: rest) env))) (fun vs s₁ => MethP K q g self s₁.heap ∧ wpAny M A (call (.ref q) (first ++ vs)) Q E s₁) E s)
    (he : starEach (e :: rest) env = (false, eval e env) :: starEach rest env := by rfl) (hst : (backTo pos (starEach rest env)).any (·.1) = true := by rfl) :
    wpAny M A (callWith pos (.ref q) first (backTo pos (starEach (e :: rest) env)) []) Q E s := by
  rw [he] at h ⊢
  exact ks_call (by show (false || (backTo pos (starEach rest env)).any (·.1)) = true; rw [hst]; rfl) (keeps_M hf) (Calls.evalArgs_plain h)
end

theorem meets_bool_list (l : Addr) (items : Array Value) (hfit : (items.size : Int) < 2 ^ 63) :
    Meets (Builtin.«bool.__new__» ⟨[.type "bool", .ref l], []⟩) (fun _ R s => s.heap.IsList l items ∧ R (.ok (.ret (.bool (!items.isEmpty)))) { s with toks := s.toks + 1 + 1 }) :=
  Meets.of_wp fun prog w A R s hs => by
    obtain ⟨hp, g, d, tk, os⟩ := s
    obtain ⟨hl, hs⟩ := hs
    have f1 := F.conv_sub_bool
    repeat (any_goals (first | assumption | (with_reducible refine wpAny_truthy_list hl hfit ?_) | wp_step))
    all_goals first | exact ⟨_, rfl, hs⟩ | exact hs | skip
theorem call_bool_list {prog : Program} {w : World} {A : Around} {E : Value → Shared → Prop} {s : Shared} {l : Addr} {items : Array Value} {Q : Value → Shared → Prop} (hl : s.heap.IsList l items) (hfit : (items.size : Int) < 2 ^ 63) (h : Q (.bool (!items.isEmpty)) { s with toks := s.toks + 1 + 1 }) :
    wpAny (model prog w) A (call (.type "bool") [.ref l]) Q E s :=
  call_bool_1 (meets_bool_list l items hfit) ⟨hl, ⟨rfl, h⟩⟩

theorem clear_K {prog : Program} {w : World} {A : Around} {E : Value → Shared → Prop} {s : Shared} {h₀ : Heap} {L D : Addr} {m : Str → Option Value} {news : List (Addr × Obj)} {g : Obj → List (Addr × Obj)} {its : Array Value} {n : Nat} {Q : Value → Shared → Prop}
    (F : Fr h₀ L s.heap m) (N : News h₀ L s.heap news) (U : UpdF D (listOf its n) news g) (hz : its.size ≤ sizeLine)
    (h : ∀ h' n', Fr h₀ L h' m → News h₀ L h' (g (listOf #[] n')) → Q .none { s with heap := h' }) : wpAny (model prog w) A (call (.builtin "list.clear") [.ref D]) Q E s := by
  obtain ⟨pre, post, rfl, hg, a, c⟩ := U.split
  have z := N (D, listOf its n) (List.mem_append.mpr (.inr (.head _)))
  refine call_meets PySem.F.slot_list_clear ⟨_, z.1, rfl⟩ PySem.F.entry_list_clear (PySem.F.args_list_clear_1 _) (PySem.AutoSeq1.list_clear_list_0 D its n (by simpa using hz)) ⟨z.1, ?_⟩
  refine h _ _ (F.change (Heap.SameBut.update ..) z.2.1 z.2.2) (hg _ ▸ news_set N a c (Heap.SameBut.update ..) (Heap.get?_update_self _ z.1 rfl))
/-! part L4 -/
set_option maxHeartbeats 1000000
section
variable {prog : Program} {w : World} {A : Around} {E : Value → Shared → Prop} {s : Shared} {env : Env} {h₀ : Heap} {m : Str → Option Value} {news : List (Addr × Obj)}
  {elt iter : PySem.Expr} {x : Str} {px : Pos} {ifs : List PySem.Expr} {scope : Scope} {cl : List (Str × Addr)} {pos : Pos}
/-- the heap stands where an element or a test of a comprehension is reckoned -/
structure CompAt (h₀ : Heap) (news : List (Addr × Obj)) (C : Addr) (x : Str) (v : Value) (s₃ : Shared) (m₃ : Str → Option Value) : Prop where
  ns : s₃.heap.Ns C m₃
  var : m₃ x = some v
  keep : ∀ b o, h₀.get? b = some o → s₃.heap.get? b = some o
  led : ∀ q ∈ news, s₃.heap.get? q.1 = some q.2
  c0 : h₀.get? C = none
  cn : ∀ q ∈ news, q.1 ≠ C
/-- a comprehension whose tests and elements leave the heap as it is -/
structure CompQ (prog : Program) (w : World) (A : Around) (env : Env) (h₀ : Heap) (news : List (Addr × Obj)) (scope : Scope) (cl : List (Str × Addr)) (x : Str) (ifs : List PySem.Expr) (elt : PySem.Expr) (P : Nat → Value → Prop) (p : Value → Bool) (G : Value → Value → Prop) : Prop where
  tests : ∀ C i v s₃ m₃ E', P i v → CompAt h₀ news C x v s₃ m₃ →
    wpAny (model prog w) A (forIn ifs true fun c r => if r = true then do let ok ← isTrue c (compEnvC scope cl C env) (eval c (compEnvC scope cl C env)); pure (ForInStep.yield ok) else pure (ForInStep.yield r))
      (fun ok s₄ => ok = p v ∧ ∃ tk, s₄ = { s₃ with toks := tk }) E' s₃
  elt : ∀ C i v s₃ m₃ E', P i v → p v = true → CompAt h₀ news C x v s₃ m₃ →
    wpAny (model prog w) A (eval elt (compEnvC scope cl C env)) (fun y s₄ => G v y ∧ ∃ tk, s₄ = { s₃ with toks := tk }) E' s₃
theorem CompQ.quiet {P : Nat → Value → Prop} {p : Value → Bool} {G : Value → Value → Prop} {L I : Addr} {s₂ : Shared} (q : CompQ prog w A env h₀ news scope cl x ifs elt P p G) (F : Fr h₀ L s₂.heap m) (N : News h₀ L s₂.heap news) (hI0 : h₀.get? I = none) (hnI : ∀ p ∈ news, p.1 ≠ I) :
    QuietOnC prog w A env scope cl x ifs elt [I] P p G s₂ := by
  have mk : ∀ C v (s₃ : Shared) m₃, s₂.heap.objs.size ≤ C → s₃.heap.Ns C m₃ → m₃ x = some v → (∀ b o, b ∉ [I] → s₂.heap.get? b = some o → s₃.heap.get? b = some o) → CompAt h₀ news C x v s₃ m₃ := fun C v s₃ m₃ hC hn hm hk =>
    ⟨hn, hm, fun b o e => hk b o (fun h => by rw [List.mem_singleton.mp h, hI0] at e; cases e) (F.keep b o e), fun q hq => hk _ _ (fun h => hnI q hq (List.mem_singleton.mp h)) (N q hq).1, by
      cases e : h₀.get? C with
      | none => rfl
      | some o => exact absurd (Heap.lt_size (F.keep _ _ e)) (Nat.not_lt.mpr hC), fun q hq e => absurd (Heap.lt_size (N q hq).1) (by rw [e]; exact Nat.not_lt.mpr hC)⟩
  exact ⟨fun C i v s₃ m₃ E' hC hP hn hm hk _ => wpAny_mono (q.tests C i v s₃ m₃ E' hP (mk C v s₃ m₃ hC hn hm hk)) (fun ok s₄ h => by obtain ⟨e, tk, rfl⟩ := h; exact ⟨e, s₃.heap, tk, rfl, fun _ _ e => e⟩) fun _ _ e => e,
    fun C i v s₃ m₃ E' hC hP hp hn hm hk _ => wpAny_mono (q.elt C i v s₃ m₃ E' hP hp (mk C v s₃ m₃ hC hn hm hk)) (fun ok s₄ h => by obtain ⟨e, tk, rfl⟩ := h; exact ⟨e, s₃.heap, tk, rfl, fun _ _ e => e⟩) fun _ _ e => e⟩
/-- what is left when the source of a comprehension stands -/
def CompX (prog : Program) (w : World) (A : Around) (env : Env) (scope : Scope) (cl : List (Str × Addr)) (x : Str) (ifs : List PySem.Expr) (elt : PySem.Expr) (p : Value → Bool) (G : Value → Value → Prop) (Q : Value → Shared → Prop) (it : Value) (s₂ : Shared) : Prop :=
  ∃ I fp wr n P St, it = .ref I ∧ Walks prog w A I fp wr n P St ∧ n ≤ sizeLine ∧ St 0 s₂.heap ∧ (∀ b ∈ fp, b < s₂.heap.objs.size) ∧ QuietOnC prog w A env scope cl x ifs elt wr P p G s₂ ∧
      (∀ D h' tk ys (vs : List Value), s₂.heap.get? D = none → h'.IsList D ys → h'.PlainList D ys → vs.length = n → (∀ j v, vs[j]? = some v → P j v) → Paired G (vs.filter p) ys.toList →
        (∀ b o, b ∉ wr → s₂.heap.get? b = some o → h'.get? b = some o) → Q (.ref D) { s₂ with heap := h', toks := tk })
theorem compX_of {L I : Addr} {fp : List Addr} {n : Nat} {P : Nat → Value → Prop} {St : Nat → Heap → Prop} {p : Value → Bool} {G : Value → Value → Prop} {Q : Value → Shared → Prop} (W : Walks prog w A I fp [I] n P St) (hz : n ≤ sizeLine) (hst : St 0 s.heap) (hfp : ∀ b ∈ fp, b < s.heap.objs.size)
    (F : Fr h₀ L s.heap m) (N : News h₀ L s.heap news) (hI0 : h₀.get? I = none) (hLI : L ≠ I) (hnI : ∀ p ∈ news, p.1 ≠ I) (q : CompQ prog w A env h₀ news scope cl x ifs elt P p G)
    (hQ : ∀ D h' tk ys k (vs : List Value), Fr h₀ L h' m → News h₀ L h' ((D, listOf ys k) :: news) → (∀ q ∈ news, q.1 ≠ D) → vs.length = n → (∀ j v, vs[j]? = some v → P j v) → Paired G (vs.filter p) ys.toList → Q (.ref D) { s with heap := h', toks := tk }) :
    CompX prog w A env scope cl x ifs elt p G Q (.ref I) s := by
  refine ⟨I, fp, [I], n, P, St, rfl, W, hz, hst, hfp, q.quiet F N hI0 hnI, ?_⟩
  intro D h' tk ys vs hD hl hpl hlen hP hF hk
  obtain ⟨k, hk'⟩ := hpl
  have hD0 : h₀.get? D = none := by
    cases e : h₀.get? D with
    | none => rfl
    | some o => have := F.keep _ _ e; rw [hD] at this; cases this
  have hDL : D ≠ L := by
    rintro rfl
    obtain ⟨o, _, _, ho, _⟩ := F.ns
    rw [hD] at ho; cases ho
  refine hQ D h' tk ys k vs ⟨F.ns.at' fun o e => hk _ o (fun h => hLI (List.mem_singleton.mp h)) e, fun b o e => hk b o (fun h => by rw [List.mem_singleton.mp h, hI0] at e; cases e) (F.keep b o e), F.above⟩ ?_ ?_ hlen hP hF
  · intro q hq
    rcases List.mem_cons.mp hq with rfl | hq
    · exact ⟨hk', hDL, hD0⟩
    · exact ⟨hk _ _ (fun h => hnI q hq (List.mem_singleton.mp h)) (N q hq).1, (N q hq).2⟩
  · intro q hq e
    have := (N q hq).1
    rw [e, hD] at this; cases this
theorem eval_comp {Q : Value → Shared → Prop} (p : Value → Bool) (G : Value → Value → Prop)
    (hclos : closureFor scope env = pure cl) (hcell : ∀ y ∈ scope.names, y.2 ≠ .cell) (hkind : scope.kind = .function)
    (hnames : ∀ y ∈ scope.names, y.2 = .local → scope.names.lookup y.1 = some .local) (hx : scope.names.lookup x = some .local)
    (h : wpAny (model prog w) A (eval iter env) (fun xv s₁ => wpAny (model prog w) A (pyIter xv) (CompX prog w A env scope cl x ifs elt p G Q) E s₁) E s)
    (hs : ∀ x, foldedSetIterable iter env x = pure x := by intro _; rfl) :
    wpAny (model prog w) A (eval (.ListComp elt [⟨.Name x px, iter, ifs, 0⟩] scope pos) env) Q E s :=
  wpAny_ListComp_free p G hclos hcell hkind hnames hx h hs
variable {L l : Addr} {Q : Value → Shared → Prop} {p : Value → Bool} {G : Value → Value → Prop}
theorem comp_list {vs : List Value} {n : Nat} (hh : A.handled = none) (hl : (l, listOf vs.toArray n) ∈ news) (F : Fr h₀ L s.heap m) (N : News h₀ L s.heap news) (hz : vs.length ≤ sizeLine) (q : CompQ prog w A env h₀ news scope cl x ifs elt (fun i v => vs[i]? = some v) p G)
    (hQ : ∀ D h' tk ys k, Fr h₀ L h' m → News h₀ L h' ((D, listOf ys k) :: news) → (∀ q ∈ news, q.1 ≠ D) → Paired G (vs.filter p) ys.toList → Q (.ref D) { s with heap := h', toks := tk }) :
    wpAny (model prog w) A (pyIter (.ref l)) (CompX prog w A env scope cl x ifs elt p G Q) E s := by
  have hls : s.heap.IsList l vs.toArray := ⟨_, (N _ hl).1, rfl, ⟨_, rfl⟩⟩
  have hlt := news_lt N _ hl
  refine wpAny_pyIter_list hls ?_
  have W := Walks.list (prog := prog) (w := w) hh s.heap.objs.size l (Nat.ne_of_lt hlt) vs.toArray
  rw [List.size_toArray] at W
  have hP : (fun (i : Nat) (v : Value) => vs.toArray[i]? = some v) = fun i v => vs[i]? = some v := by funext i v; simp
  rw [hP] at W
  refine compX_of W hz ⟨⟨_, Heap.get?_push_size _ rfl, rfl, rfl⟩, hls.at fun o e => Heap.get?_push_of_some _ e⟩ ?_ (F.push _) (fun p hp => ⟨Heap.get?_push_of_some _ (N p hp).1, (N p hp).2⟩) (fresh_of F) (fun e => absurd F.ns.lt (e ▸ Nat.lt_irrefl _)) (fun p hp => Nat.ne_of_lt (news_lt N p hp)) q ?_
  · intro b hb
    rw [Heap.size_push]
    rcases List.mem_cons.mp hb with rfl | hb
    · exact Nat.lt_succ_self _
    · rw [List.mem_singleton.mp hb]; exact Nat.lt_succ_of_lt hlt
  · intro D h' tk ys k vs' F' N' hD hlen hP' hG
    have e : vs' = vs := by
      apply List.ext_getElem? 
      intro i
      cases hi : vs'[i]? with
      | some v => exact (hP' i v hi).symm
      | none =>
        have : vs.length ≤ i := by have z := List.getElem?_eq_none_iff.mp hi; rw [hlen] at z; simpa using z
        exact (List.getElem?_eq_none this).symm
    subst e
    exact hQ D h' tk ys k F' N' hD hG
variable {K : Type} [DecidableEq K] {knd : KeyKind prog w K}
theorem comp_values {d v : Addr} {od : Obj} {kvs : List (K × Value)} (hh : A.handled = none) (hv : s.heap.get? v = some ({ cls := .type "dict_values", data := .fields #[.ref d] } : Obj)) (hl : (d, od) ∈ news) (hd : od.IsDictOf knd kvs) (F : Fr h₀ L s.heap m) (N : News h₀ L s.heap news) (hz : kvs.length ≤ sizeLine)
    (q : CompQ prog w A env h₀ news scope cl x ifs elt (fun i v => ∃ k, kvs[i]? = some (k, v)) p G)
    (hQ : ∀ D h' tk ys k, Fr h₀ L h' m → News h₀ L h' ((D, listOf ys k) :: news) → (∀ q ∈ news, q.1 ≠ D) → Paired G ((kvs.map (·.2)).filter p) ys.toList → Q (.ref D) { s with heap := h', toks := tk }) :
    wpAny (model prog w) A (pyIter (.ref v)) (CompX prog w A env scope cl x ifs elt p G Q) E s := by
  have hdo := Heap.dictOf_iff.mpr ⟨od, (N _ hl).1, hd⟩
  obtain ⟨ep, hda⟩ : ∃ ep, s.heap.DictAt knd d kvs ep := by
    obtain ⟨o, es, ep, ho, r⟩ := hdo
    exact ⟨ep, o, es, ho, r⟩
  have hlt := news_lt N _ hl
  refine wpAny_pyIter_values (knd := knd) ⟨_, hv, rfl, rfl⟩ hda ?_
  have W := Walks.dictValues (prog := prog) (w := w) (knd := knd) hh s.heap.objs.size d (Nat.ne_of_lt hlt) kvs ep
  refine compX_of W hz ⟨⟨_, Heap.get?_push_size _ rfl, rfl, rfl⟩, hda.push _⟩ ?_ (F.push _) (fun p hp => ⟨Heap.get?_push_of_some _ (N p hp).1, (N p hp).2⟩) (fresh_of F) (fun e => absurd F.ns.lt (e ▸ Nat.lt_irrefl _)) (fun p hp => Nat.ne_of_lt (news_lt N p hp)) q ?_
  · intro b hb
    rw [Heap.size_push]
    rcases List.mem_cons.mp hb with rfl | hb
    · exact Nat.lt_succ_self _
    · rw [List.mem_singleton.mp hb]; exact Nat.lt_succ_of_lt hlt
  · intro D h' tk ys k vs' F' N' hD hlen hP' hG
    have e : vs' = kvs.map (·.2) := by
      apply List.ext_getElem?
      intro i
      rw [List.getElem?_map]
      cases hi : vs'[i]? with
      | some v => obtain ⟨k, hk⟩ := hP' i v hi; rw [hk]; rfl
      | none =>
        have : kvs.length ≤ i := by have z := List.getElem?_eq_none_iff.mp hi; rw [hlen] at z; exact z
        rw [List.getElem?_eq_none this]; rfl
    subst e
    exact hQ D h' tk ys k F' N' hD hG
end

section
variable {M : Model} {prog : Program} {w : World} {A : Around} {E : Value → Shared → Prop} {s : Shared} {K : Frag}
theorem get_slotH {x C p : Addr} {ox od : Obj} {name : Str} {v : Value} {i : Nat} {expr : Bool} {Q : Value → Shared → Prop} (X : K.In s.heap) (I : InstAt s.heap x ox C (some od)) (hg : plainGet K C name = true) (hc : isClsIn K C = true)
    (ha : findIn K (.ref C) name = some (some (.ref p))) (hn : specialIn K (.ref p) "__get__" = some (some (.builtin "member_descriptor.__get__"))) (ht : takesIn K (.ref p) = some true) (hp : slotIn K p C = some i)
    (hv : (ox.slots[i]?).join = some v) (hh : handedIn v = true) (h : Q v { s with toks := s.toks + 1 }) : wpAny (model prog w) A (getAttr (.ref x) name expr) Q E s :=
  get_bind X I (plainGet_of hg).1 (findObj_data hc ha hn ht) (plainGet_of hg).2 (wpAny_call (slot_get (s := { s with toks := s.toks + 1 }) X I hp hv (handed_on hh h)))
theorem comp_var {scope : Scope} {cl : List (Str × Addr)} {C : Addr} {env : Env} {x : Str} {pos : Pos} {v : Value} {m₃ : Str → Option Value} {Q : Value → Shared → Prop} (hn : s.heap.Ns C m₃) (hv : m₃ x = some v) (h : Q v s)
    (hk : (compEnvC scope cl C env).scope.kind = .function := by rfl) (hl : (compEnvC scope cl C env).kindOf x = some .local := by rfl) (hd : (x == ("__debug__" : Str)) = false := by decide) :
    wpAny M A (eval (.Name x pos) (compEnvC scope cl C env)) Q E s := wpAny_Name (wpAny_loadName_local hk hl hn hv h) hd
theorem tests_nil {cenv : Env} {Q : Bool → Shared → Prop} (h : Q true s) :
    wpAny M A (forIn ([] : List PySem.Expr) true fun c r => if r = true then do let ok ← isTrue c cenv (eval c cenv); pure (ForInStep.yield ok) else pure (ForInStep.yield r)) Q E s := wpAny_pure h
theorem tests_one {cenv : Env} {c : PySem.Expr} {Q : Bool → Shared → Prop} (h : wpAny M A (isTrue c cenv (eval c cenv)) Q E s) :
    wpAny M A (forIn [c] true fun c r => if r = true then do let ok ← isTrue c cenv (eval c cenv); pure (ForInStep.yield ok) else pure (ForInStep.yield r)) Q E s := by
  rw [List.forIn_cons, if_pos rfl]
  refine wpAny_bind (wpAny_bind (wpAny_mono h (fun ok s' h' => wpAny_pure ?_) fun _ _ e => e))
  exact wpAny_pure h'
end
/-! part L5 -/
set_option maxHeartbeats 1000000
set_option maxHeartbeats 4000000
section
theorem li_ga : Slot "list_iterator" "__getattribute__" "object.__getattribute__" :=
  .of (owner := "object") (n := "__getattribute__") (by rw [typeLookup_type, builtinLookup_eq_fast]; kernel_rfl) (by decide +kernel) (by decide +kernel) (by decide +kernel)
    (by first | exact .inl (by decide +kernel) | exact .inr (by decide +kernel)) (by rw [isSubtype_type]; kernel_rfl)
theorem li_ga_entry : entryFor table "object.__getattribute__" = some Builtin.«object.__getattribute__» := entryFor_of_tree (by kernel_rfl)
theorem li_ga_args (a b : Value) : argsOk "object.__getattribute__" ⟨[a, b], []⟩ := by unfold argsOk; kernel_rfl
theorem li_hook : typeLookup (.type "list_iterator") "__getattr__" = pure none := by rw [typeLookup_type, builtinLookup_eq_fast]; kernel_rfl
theorem li_lk : typeLookup (.type "list_iterator") "__next__" = pure (some (.builtin "list_iterator.__next__")) := slot_listiter_next.lookup
theorem li_next_type : typeOf (.builtin "list_iterator.__next__") = pure (.type "wrapper_descriptor") := by show builtinType _ = _; rw [builtinType_eq_fast]; kernel_rfl
theorem wd_get : Slot "wrapper_descriptor" "__get__" "wrapper_descriptor.__get__" :=
  .of (owner := "wrapper_descriptor") (n := "__get__") (by rw [typeLookup_type, builtinLookup_eq_fast]; kernel_rfl) (by decide +kernel) (by decide +kernel) (by decide +kernel)
    (by first | exact .inl (by decide +kernel) | exact .inr (by decide +kernel)) (by rw [isSubtype_type]; kernel_rfl)
theorem wd_get_entry : entryFor table "wrapper_descriptor.__get__" = some Builtin.«wrapper_descriptor.__get__» := entryFor_of_tree (by kernel_rfl)
theorem wd_get_args (a b c : Value) : argsOk "wrapper_descriptor.__get__" ⟨[a, b, c], []⟩ := by unfold argsOk; kernel_rfl
theorem wd_set : typeLookup (.type "wrapper_descriptor") "__set__" = pure none := by rw [typeLookup_type, builtinLookup_eq_fast]; kernel_rfl
theorem wd_del : typeLookup (.type "wrapper_descriptor") "__delete__" = pure none := by rw [typeLookup_type, builtinLookup_eq_fast]; kernel_rfl
end
abbrev mwObj (it : Addr) : Obj := { cls := .type "method-wrapper", data := .fields #[.builtin "list_iterator.__next__", .ref it] }

section
variable {prog : Program} {w : World} {A : Around} {E : Value → Shared → Prop} {h : Heap} {g : Array GenState} {d : Drawn} {t : Nat} {os : OsState} {it : Addr} {o : Obj}
theorem li_sub : isSubtype (.type "list_iterator") (.type (".".intercalate ("list_iterator.__next__".cutAt '.').dropLast)) = pure true := by
  rw [show ".".intercalate ("list_iterator.__next__".cutAt '.').dropLast = "list_iterator" by decide +kernel, isSubtype_type]; kernel_rfl
theorem next_get {R : Result → Shared → Prop} (hx : h.get? it = some o) (hc : o.cls = .type "list_iterator") (hq : R (.ok (.ret (.ref h.objs.size))) ⟨h.push (mwObj it), g, d, t, os⟩) :
    codeAny (model prog w) A (.call (.builtin "wrapper_descriptor.__get__") ⟨[.builtin "list_iterator.__next__", .ref it, .type "list_iterator"], []⟩) R ⟨h, g, d, t, os⟩ := by
  have hT : (⟨h, g, d, t, os⟩ : Shared).TypeIs (.ref it) "list_iterator" := ⟨_, hx, hc⟩
  have hT5 : (⟨h, g, d, t, os⟩ : Shared).TypeIs (.builtin "list_iterator.__next__") "wrapper_descriptor" := li_next_type
  have f8 := li_sub
  refine codeAny_call_builtin wd_get.plain wd_get_entry (wd_get.check _ _ _ _ _ _ _ _ hT5 (wd_get_args _ _ _) ?_)
  repeat (any_goals (first | assumption | wp_step))
abbrev liObj (l : Addr) (i : Nat) : Obj := { cls := .type "list_iterator", data := .fields #[.ref l, .int i 0] }
theorem next_entry {l : Addr} {i : Nat} {tk : Tok} {Q : Fin → Shared → Prop} (hx : h.get? it = some (liObj l i)) (hq : Q (.done (.ret (.ref h.objs.size))) ⟨h.push (mwObj it), g, d, t, os⟩) :
    wpAny (model prog w) A (Builtin.«object.__getattribute__» ⟨[.ref it, .str "__next__" tk], []⟩) Q E ⟨h, g, d, t, os⟩ := by
  have hT : (⟨h, g, d, t, os⟩ : Shared).TypeIs (.ref it) "list_iterator" := ⟨_, hx, rfl⟩
  have hT5 : (⟨h, g, d, t, os⟩ : Shared).TypeIs (.builtin "list_iterator.__next__") "wrapper_descriptor" := li_next_type
  have f4 := li_lk
  have f5 := li_next_type
  have f6 := wd_get.lookup
  have f7 := wd_set
  have f8 := wd_del
  repeat (any_goals (first | assumption | wp_step))
  refine next_get hx rfl ?_
  repeat (any_goals (first | assumption | wp_step))
theorem next_call {l : Addr} {i : Nat} {tk : Tok} {R : Result → Shared → Prop} (hx : h.get? it = some (liObj l i)) (hq : R (.ok (.ret (.ref h.objs.size))) ⟨h.push (mwObj it), g, d, t, os⟩) :
    codeAny (model prog w) A (.call (.builtin "object.__getattribute__") ⟨[.ref it, .str "__next__" tk], []⟩) R ⟨h, g, d, t, os⟩ :=
  codeAny_call_builtin li_ga.plain li_ga_entry (li_ga.check _ _ _ _ _ _ _ _ (show (⟨h, g, d, t, os⟩ : Shared).TypeIs (.ref it) "list_iterator" from ⟨_, hx, rfl⟩) (li_ga_args _ _) (next_entry hx hq))
theorem getAttr_next' {l : Addr} {i : Nat} {Q : Value → Shared → Prop} (hx : h.get? it = some (liObj l i)) (hq : Q (.ref h.objs.size) ⟨h.push (mwObj it), g, d, t + 1, os⟩) :
    wpAny (model prog w) A (getAttr (.ref it) (Str.ofString "__next__") true) Q E ⟨h, g, d, t, os⟩ := by
  have hT : (⟨h, g, d, t + 1, os⟩ : Shared).TypeIs (.ref it) "list_iterator" := ⟨_, hx, rfl⟩
  have f2 := li_ga.lookup
  have f3 := li_ga.bind (.ref it)
  have f5 := li_hook
  unfold getAttr
  repeat (any_goals (first | assumption | wp_step))
  refine next_call hx ?_
  repeat (any_goals (first | assumption | wp_step))
/-- a call of the bound __next__ -/
theorem mw_call {R : Result → Shared → Prop} {m : Addr} (hm : h.get? m = some (mwObj it)) (hq : wpAny (model prog w) A.in1 (Builtin.«list_iterator.__next__» ⟨[.ref it], []⟩) (fun fin s' => match fin with | .done f => R (.ok f) s' | .again c' => c'.quiet = true ∧ codeAny (model prog w) A c' R s') (fun e s' => R (.error e) s') ⟨h, g, d, t, os⟩) :
    codeAny (model prog w) A (.call (.ref m) ⟨[], []⟩) R ⟨h, g, d, t, os⟩ := by
  refine codeAny_of_tree ?_
  show wpAny _ _ (callAny (.ref m) ⟨[], []⟩) _ _ _
  unfold callAny
  repeat (any_goals (first | assumption | wp_step))
  exact ⟨Code.quiet_builtin _ (by decide +kernel), codeAny_builtin entry_listiter_next hq⟩
end
/-! part S2 -/
set_option maxHeartbeats 1000000
section
variable {w : World} {A : Around} {E : Value → Shared → Prop} {s : Shared} {h₀ : Heap} {L d : Addr} {m : Str → Option Value} {news : List (Addr × Obj)} {g : Obj → List (Addr × Obj)} {o : Obj} {kvs : List (Int × Value)} {k : Int} {t : Tok} {v : Value}
theorem h_get {Q : Value → Shared → Prop} {x : Option Value} (N : News h₀ L s.heap news) (hp : (d, o) ∈ news) (hd : o.IsDictOf (intKind PR w) kvs) (lo : (d == sysModules) = false) (hl : valueAt kvs k = x) (h : Q (x.getD .none) { s with toks := s.toks + 1 }) :
    wpAny (model PR w) A (call (.builtin "dict.get") [.ref d, .int k t]) Q E s := kdg_get1 N hp hd lo (intKind_is _ _ _ _) x hl h
theorem h_set {Q : Unit → Shared → Prop} (F : Fr h₀ L s.heap m) (N : News h₀ L s.heap news) (U : UpdF d o news g) (hd : o.IsDictOf (intKind PR w) kvs) (hsz : kvs.length ≤ sizeLine)
    (h : ∀ h' o', Fr h₀ L h' m → News h₀ L h' (g o') → o'.IsDictOf (intKind PR w) (stored kvs k v) → Q () { s with heap := h', toks := s.toks + 1 }) : wpAny (model PR w) A (setItem (.ref d) (.int k t) v) Q E s := kda_set F N U hd (intKind_is _ _ _ _) hsz h
theorem h_items {pl : Sem Bool} {Q : Value × List Value → Shared → Prop} (N : News h₀ L s.heap news) (hp : (d, o) ∈ news) (hd : o.IsDictOf (intKind PR w) kvs) (h : Q (.builtin "dict.items", [.ref d]) s) : wpAny (model PR w) A (getMethod (.ref d) (Str.ofString "items") pl) Q E s := kob_method PySem.F.slot_dict_items PySem.F.type_dict_items N hp hd h
theorem h_values {pl : Sem Bool} {Q : Value × List Value → Shared → Prop} (N : News h₀ L s.heap news) (hp : (d, o) ∈ news) (hd : o.IsDictOf (intKind PR w) kvs) (h : Q (.builtin "dict.values", [.ref d]) s) : wpAny (model PR w) A (getMethod (.ref d) (Str.ofString "values") pl) Q E s := kob_method PySem.F.slot_dict_values PySem.F.type_dict_values N hp hd h
theorem h_mget {pl : Sem Bool} {Q : Value × List Value → Shared → Prop} (N : News h₀ L s.heap news) (hp : (d, o) ∈ news) (hd : o.IsDictOf (intKind PR w) kvs) (h : Q (.builtin "dict.get", [.ref d]) s) : wpAny (model PR w) A (getMethod (.ref d) (Str.ofString "get") pl) Q E s := kdg_method N hp hd h
theorem h_len {Q : Value → Shared → Prop} {items : Array Value} {n : Nat} (N : News h₀ L s.heap news) (hp : (d, ({ cls := .type "tuple", data := .seq items n } : Obj)) ∈ news) (hz : (items.size : Int) < 2 ^ 63) (h : Q (.int items.size (s.toks + 1)) { s with toks := s.toks + 1 + 1 }) : wpAny (model PR w) A (call (.builtin "len") [.ref d]) Q E s := len_tuple (News.isTup N hp) hz h
theorem h_item {value slice : PySem.Expr} {Q : Value → Shared → Prop} (N : News h₀ L s.heap news) (hp : (d, o) ∈ news) (hd : o.IsDictOf (intKind PR w) kvs) (hl : valueAt kvs k = some v) (h : Q v { s with toks := s.toks + 1 })
    (hs : subscripted slice false (.ref d) (.int k t) = operate [.ref d, .int k t] (getItem (.ref d) (.int k t)) := by with_unfolding_all rfl) (hg : ∀ r, letTemporaryGo value (.ref d) r = pure () := by intro _; with_unfolding_all rfl) :
    wpAny (model PR w) A (subscriptTail value slice (.ref d) (.int k t)) Q E s := kda_item N hp hd (intKind_is _ _ _ _) hl h hs hg
theorem h_tail {value slice : PySem.Expr} {Q : Value → Shared → Prop} (N : News h₀ L s.heap news) (hp : (d, o) ∈ news) (hd : o.IsDictOf (intKind PR w) kvs) (h : wpAny (model PR w) A (getItem (.ref d) (.int k t)) Q E s)
    (hs : subscripted slice false (.ref d) (.int k t) = operate [.ref d, .int k t] (getItem (.ref d) (.int k t)) := by with_unfolding_all rfl) : wpAny (model PR w) A (subscriptTail value slice (.ref d) (.int k t)) Q E s := kdt_tail N hp hd h hs
theorem h_mem {nd : Nd} {l : List Nd} {p : Addr × Obj} (h : nd ∈ l) (hp : p ∈ nd.objs) : p ∈ NN l := mem_NN h hp
end
local macro_rules | `(tactic| k_lt $h) => `(tactic| (replace $h := allLt_of $h; (simp only [AllLt, and_true] at $h:ident); (repeat (obtain ⟨_, $h⟩ := $h)); (try (have := allLt_ne $h))))
local macro_rules | `(tactic| k_lt2 $h) => `(tactic| (replace $h := ltN $h; try (have := allLt_ne2 $h (by assumption))))
local macro_rules | `(tactic| k_all) => `(tactic| assumption)
local macro_rules | `(tactic| k_room) => `(tactic| ((try simp only [depth_mark, depth_under_make, depth_under_kw, depth_in1, depth_deeper, depth_caller]); (try simp only [recursionLimit]); omega))
local macro_rules | `(tactic| k_mem) => `(tactic| first
  | ((with_reducible first | refine memL ?_ | refine memL' ?_); first | exact mem_obj (by assumption) | exact mem_suc (by assumption) | exact mem_dct (by assumption))
  | ((with_reducible first | refine memR ?_ | refine memR' ?_); k_mem))
local macro_rules | `(tactic| size_fits) => `(tactic| assumption)
local macro_rules | `(tactic| k_mem) => `(tactic| assumption)
local macro_rules | `(tactic| k_ne) => `(tactic| first | assumption | (refine Ne.symm ?_; assumption))
local macro_rules | `(tactic| k_mem) => `(tactic| ((with_reducible first | refine memL ?_ | refine memL' ?_); first | exact mem_np (by assumption) | exact mem_dct_np (by assumption) | exact mem_suc_np (by assumption)))
example : (Challenge.rw_dm0134_02, Mine.hd.heap_39) = (Challenge.rw_dm0134_02, Mine.hd.heap_39) := by k_fill; rfl
/-! part B2 -/
set_option maxHeartbeats 1000000
set_option maxHeartbeats 8000000
section
variable {w : World} {A : Around} {h₀ : Heap} {L : Addr} {m : Str → Option Value} {s : Shared} {rest : List (Addr × Obj)}
   {sx sd d : Addr} {t1 t2 t3 t4 tp tf ep : Nat} {np nf : Int} {od : Obj} {kvs : List (Int × Value)} {r : Value} {k : Int} {tk : Nat} {R : Result → Shared → Prop}
theorem c_get_new (C : Cx 3 w A h₀ L) (F : Fr h₀ L s.heap m)
   (N : News h₀ L s.heap ((sx, instObj 137 sd) :: (sd, sdict w t1 t2 t3 t4 d r np nf tp tf ep) :: (d, od) :: rest))
   (h12 : sx ≠ sd) (h13 : sx ≠ d) (h23 : sd ≠ d) (off : ∀ p ∈ rest, p.1 ≠ d)
   (hd : od.IsDictOf (intKind PR w) kvs) (lo : (d == sysModules) = false) (hl : PySem.valueAt kvs k = none) (hz : kvs.length ≤ sizeLine)
   (h : ∀ h' t' od' sa a da tn, Fr h₀ L h' m → News h₀ L h' ((sa, listOf #[] 0) :: (a, nodeObj da sa 0 tn k tk) :: (da, dictOf [] 0) :: (sx, instObj 137 sd) :: (sd, sdict w t1 t2 t3 t4 d r np nf tp tf ep) :: (d, od') :: rest) →
     od'.IsDictOf (intKind PR w) (stored kvs k (.ref a)) → da < a → a < sa → sx < da → sd < da → d < da → AllLt da rest → R (.ok (.ret (.ref a))) { s with heap := h', toks := t' })
   : codeAny (model PR w) A (.call (.ref 80) ⟨[.ref sx, .int k tk], []⟩) R s := by
  obtain ⟨A₀, base, outer, env, p, loose, mean, mg, mb, B, X₀, T, hA, hf, hke, hh, hgu, hdep, hun⟩ := C
  obtain ⟨hd', dep, fr, gu, un⟩ := A
  dsimp only at hA hh hgu hdep hun
  subst hA hh hgu
  ((refine' code_def (by k_asm) (by k_asm) (by k_asm) (by k_asm) (by k_asm) rfl (by first | exact rfl | k_asm) (by first | exact rfl | k_asm) ?k6 ?k7 ?k8 ?k9 ?kB ?_ ?c2 ?c3 ?c4 ?c5; (case k6 => k_is); (case k7 => k_is); (case k8 => k_room); (case k9 => exact BindsTo.of_eq rfl); (case c5 => decide); (case kB => exact locs rfl); (case c2 => exact rfl); (case c3 => exact rfl); (case c4 => exact rfl); intro _ _ _ _ _ _ _ _ _; (try dsimp only); (try k_fold)))
  refine wpAny_noRaise ?_
  refine abs_post fun Qf hQf => ?_
  (repeat' ((fail_if_success (with_reducible first | (refine at1 ?_ ?_; constructor) )); (first | (k_unfold; (try dsimp only)) | (k_end; wrow_close) | (k_here; (with_reducible show wpAny _ _ (call (Value.builtin "dict.get") [_, Value.int _ _]) _ _ _); k_dflt (refine h_get (by k_asm) (by k_mem) (by k_asm) (by k_asm) (by k_asm) ?_); (try dsimp only [Option.getD])) | ((with_reducible show wpAny _ _ (setItem (Value.ref _) (Value.int _ _) _) _ _ _); k_dflt (refine h_set (by k_asm) (by k_asm) (by k_updF) (by k_asm) (by assumption) ?_; k_whole); intro _ _ _ nN _; (try dsimp only at nN); (try k_sweep)) | ((with_reducible first | refine' h_items ?N ?m ?d ?_ | refine' h_values ?N ?m ?d ?_ | refine' h_mget ?N ?m ?d ?_); (case N => k_asm); (case m => k_mem); (case d => k_asm); k_whole) | walk1 | (dsimp only; walk1) | (leave1; walk_say "STEP leave1"; try dsimp only) | fail "no step")))
  refine hQf _ _ ?_
  try dsimp only
  (repeat' ((fail_if_success (with_reducible first | (refine at1 ?_ ?_; constructor) )); (first | (k_unfold; (try dsimp only)) | (k_end; wrow_close) | (k_here; (with_reducible show wpAny _ _ (call (Value.builtin "dict.get") [_, Value.int _ _]) _ _ _); k_dflt (refine h_get (by k_asm) (by k_mem) (by k_asm) (by k_asm) (by k_asm) ?_); (try dsimp only [Option.getD])) | ((with_reducible show wpAny _ _ (setItem (Value.ref _) (Value.int _ _) _) _ _ _); k_dflt (refine h_set (by k_asm) (by k_asm) (by k_updF) (by k_asm) (by assumption) ?_; k_whole); intro _ _ _ nN _; (try dsimp only at nN); (try k_sweep)) | ((with_reducible first | refine' h_items ?N ?m ?d ?_ | refine' h_values ?N ?m ?d ?_ | refine' h_mget ?N ?m ?d ?_); (case N => k_asm); (case m => k_mem); (case d => k_asm); k_whole) | walk1 | (dsimp only; walk1) | (leave1; walk_say "STEP leave1"; try dsimp only) | fail "no step")))
  refine' h _ _ _ _ _ _ _ ?a ?b ?c ?e1 ?e2 ?e3 ?e4 ?e5 ?e6
  case a => k_asm
  case b => k_asm
  case c => assumption
  case e1 => assumption
  case e2 => assumption
  case e3 => assumption
  case e4 => assumption
  case e5 => assumption
  case e6 => assumption
theorem c_get_old {a : Addr} (C : Cx 3 w A h₀ L) (F : Fr h₀ L s.heap m)
   (N : News h₀ L s.heap ((sx, instObj 137 sd) :: (sd, sdict w t1 t2 t3 t4 d r np nf tp tf ep) :: (d, od) :: rest))
   (hd : od.IsDictOf (intKind PR w) kvs) (lo : (d == sysModules) = false) (hl : PySem.valueAt kvs k = some (.ref a))
   (h : ∀ h' t', Fr h₀ L h' m → News h₀ L h' ((sx, instObj 137 sd) :: (sd, sdict w t1 t2 t3 t4 d r np nf tp tf ep) :: (d, od) :: rest) → R (.ok (.ret (.ref a))) { s with heap := h', toks := t' })
   : codeAny (model PR w) A (.call (.ref 80) ⟨[.ref sx, .int k tk], []⟩) R s := by
  obtain ⟨A₀, base, outer, env, p, loose, mean, mg, mb, B, X₀, T, hA, hf, hke, hh, hgu, hdep, hun⟩ := C
  obtain ⟨hd', dep, fr, gu, un⟩ := A
  dsimp only at hA hh hgu hdep hun
  subst hA hh hgu
  ((refine' code_def (by k_asm) (by k_asm) (by k_asm) (by k_asm) (by k_asm) rfl (by first | exact rfl | k_asm) (by first | exact rfl | k_asm) ?k6 ?k7 ?k8 ?k9 ?kB ?_ ?c2 ?c3 ?c4 ?c5; (case k6 => k_is); (case k7 => k_is); (case k8 => k_room); (case k9 => exact BindsTo.of_eq rfl); (case c5 => decide); (case kB => exact locs rfl); (case c2 => exact rfl); (case c3 => exact rfl); (case c4 => exact rfl); intro _ _ _ _ _ _ _ _ _; (try dsimp only); (try k_fold)))
  refine wpAny_noRaise ?_
  refine abs_post fun Qf hQf => ?_
  (repeat' ((fail_if_success (with_reducible first | (refine at1 ?_ ?_; constructor) )); (first | (k_unfold; (try dsimp only)) | (k_end; wrow_close) | (k_here; (with_reducible show wpAny _ _ (call (Value.builtin "dict.get") [_, Value.int _ _]) _ _ _); k_dflt (refine h_get (by k_asm) (by k_mem) (by k_asm) (by k_asm) (by k_asm) ?_); (try dsimp only [Option.getD])) | ((with_reducible show wpAny _ _ (setItem (Value.ref _) (Value.int _ _) _) _ _ _); k_dflt (refine h_set (by k_asm) (by k_asm) (by k_updF) (by k_asm) (by assumption) ?_; k_whole); intro _ _ _ nN _; (try dsimp only at nN); (try k_sweep)) | ((with_reducible first | refine' h_items ?N ?m ?d ?_ | refine' h_values ?N ?m ?d ?_ | refine' h_mget ?N ?m ?d ?_); (case N => k_asm); (case m => k_mem); (case d => k_asm); k_whole) | walk1 | (dsimp only; walk1) | (leave1; walk_say "STEP leave1"; try dsimp only) | fail "no step")))
  refine hQf _ _ ?_
  try dsimp only
  (repeat' ((fail_if_success (with_reducible first | (refine at1 ?_ ?_; constructor) )); (first | (k_unfold; (try dsimp only)) | (k_end; wrow_close) | (k_here; (with_reducible show wpAny _ _ (call (Value.builtin "dict.get") [_, Value.int _ _]) _ _ _); k_dflt (refine h_get (by k_asm) (by k_mem) (by k_asm) (by k_asm) (by k_asm) ?_); (try dsimp only [Option.getD])) | ((with_reducible show wpAny _ _ (setItem (Value.ref _) (Value.int _ _) _) _ _ _); k_dflt (refine h_set (by k_asm) (by k_asm) (by k_updF) (by k_asm) (by assumption) ?_; k_whole); intro _ _ _ nN _; (try dsimp only at nN); (try k_sweep)) | ((with_reducible first | refine' h_items ?N ?m ?d ?_ | refine' h_values ?N ?m ?d ?_ | refine' h_mget ?N ?m ?d ?_); (case N => k_asm); (case m => k_mem); (case d => k_asm); k_whole) | walk1 | (dsimp only; walk1) | (leave1; walk_say "STEP leave1"; try dsimp only) | fail "no step")))
  refine' h _ _ ?a ?b
  case a => k_asm
  case b => k_asm
end
/-! part B3 -/
set_option maxHeartbeats 1000000
set_option maxHeartbeats 8000000
/-- what stands fast of a sorter -/
structure Sx where
  sx : Addr
  sd : Addr
  d : Addr
  t1 : Nat
  t2 : Nat
  t3 : Nat
  t4 : Nat
abbrev SL (w : World) (c : Sx) (r : Value) (np nf : Int) (tp tf : Nat) (od : Obj) (tail : List (Addr × Obj)) : List (Addr × Obj) :=
  (c.sx, instObj 137 c.sd) :: (c.sd, sdict w c.t1 c.t2 c.t3 c.t4 c.d r np nf tp tf 4) :: (c.d, od) :: tail
/-- the addresses are apart, the dict tells the nodes -/
structure SOK (w : World) (c : Sx) (od : Obj) (nodes : List Nd) (rest : List (Addr × Obj)) : Prop where
  nd : ∀ r np nf tp tf, ND (SL w c r np nf tp tf od (NN nodes ++ rest))
  dict : od.IsDictOf (intKind PR w) (kvsOf nodes)
  lo : (c.d == sysModules) = false
structure SFacts (c : Sx) (l : List (Addr × Obj)) : Prop where
  h12 : c.sx ≠ c.sd
  h13 : c.sx ≠ c.d
  h23 : c.sd ≠ c.d
  o1 : ∀ p ∈ l, p.1 ≠ c.sx
  o2 : ∀ p ∈ l, p.1 ≠ c.sd
  o3 : ∀ p ∈ l, p.1 ≠ c.d
  n : ND l
theorem SOK.facts {w : World} {c : Sx} {od : Obj} {nodes : List Nd} {rest : List (Addr × Obj)} (K : SOK w c od nodes rest) : SFacts c (NN nodes ++ rest) := by
  have n := K.nd .none 0 0 0 0
  exact ⟨(n.head (c.sd, _) (.head _)).symm, (n.head (c.d, _) (.tail _ (.head _))).symm, (n.tail.head (c.d, _) (.head _)).symm, fun p hp => n.head p (.tail _ (.tail _ hp)), fun p hp => n.tail.head p (.tail _ hp), n.tail.tail.head, n.tail.tail.tail⟩
theorem SOK.of_facts {w : World} {c : Sx} {od : Obj} {nodes : List Nd} {rest : List (Addr × Obj)} (h12 : c.sx ≠ c.sd) (h13 : c.sx ≠ c.d) (h23 : c.sd ≠ c.d) (o1 : ∀ p ∈ NN nodes ++ rest, p.1 ≠ c.sx) (o2 : ∀ p ∈ NN nodes ++ rest, p.1 ≠ c.sd) (o3 : ∀ p ∈ NN nodes ++ rest, p.1 ≠ c.d)
    (n : ND (NN nodes ++ rest)) (hd : od.IsDictOf (intKind PR w) (kvsOf nodes)) (lo : (c.d == sysModules) = false) : SOK w c od nodes rest := by
  refine ⟨fun r np nf tp tf => ND.cons (ND.cons (ND.cons n o3) ?_) ?_, hd, lo⟩
  · intro q hq
    rcases List.mem_cons.mp hq with rfl | hq
    · exact h23.symm
    · exact o2 q hq
  · intro q hq
    rcases List.mem_cons.mp hq with rfl | hq
    · exact h12.symm
    rcases List.mem_cons.mp hq with rfl | hq
    · exact h13.symm
    · exact o1 q hq
/-- one more object beside -/
theorem SOK.more {w : World} {c : Sx} {od : Obj} {nodes : List Nd} {rest : List (Addr × Obj)} (K : SOK w c od nodes rest) {a : Addr} {o : Obj} (h1 : a ≠ c.sx) (h2 : a ≠ c.sd) (h3 : a ≠ c.d) (h : ∀ p ∈ NN nodes ++ rest, p.1 ≠ a) : SOK w c od nodes ((a, o) :: rest) := by
  obtain ⟨h12, h13, h23, o1, o2, o3, n⟩ := K.facts
  have pm : (NN nodes ++ (a, o) :: rest).Perm ((a, o) :: (NN nodes ++ rest)) := List.perm_middle
  have key : ∀ x, a ≠ x → (∀ p ∈ NN nodes ++ rest, p.1 ≠ x) → ∀ p ∈ NN nodes ++ (a, o) :: rest, p.1 ≠ x := fun x hx hr p hp => by
    rcases List.mem_cons.mp (pm.mem_iff.mp hp) with rfl | hp
    · exact hx
    · exact hr p hp
  exact .of_facts h12 h13 h23 (key _ h1 o1) (key _ h2 o2) (key _ h3 o3) ((ND.cons n h).perm pm) K.dict K.lo
theorem SOK.less {w : World} {c : Sx} {od : Obj} {nodes : List Nd} {rest : List (Addr × Obj)} {p : Addr × Obj} (K : SOK w c od nodes (p :: rest)) : SOK w c od nodes rest := by
  obtain ⟨h12, h13, h23, o1, o2, o3, n⟩ := K.facts
  have pm : (NN nodes ++ p :: rest).Perm (p :: (NN nodes ++ rest)) := List.perm_middle
  exact .of_facts h12 h13 h23 (fun q hq => o1 q (pm.mem_iff.mpr (.tail _ hq))) (fun q hq => o2 q (pm.mem_iff.mpr (.tail _ hq))) (fun q hq => o3 q (pm.mem_iff.mpr (.tail _ hq))) (n.perm pm.symm).tail K.dict K.lo
theorem SOK.modN {w : World} {c : Sx} {od : Obj} {nodes : List Nd} {rest : List (Addr × Obj)} (K : SOK w c od nodes rest) {a : Addr} {f : Nd → Nd} (hf : ∀ nd, ((f nd).objs.map (·.1)) = nd.objs.map (·.1)) (hk : ∀ nd, (f nd).k = nd.k) (ha : ∀ nd, (f nd).a = nd.a) : SOK w c od (Mine.modN a f nodes) rest := by
  refine ⟨fun r np nf tp tf => (K.nd r np nf tp tf).same ?_, by rw [kvs_modN hk ha]; exact K.dict, K.lo⟩
  simp only [List.map_cons, List.map_append, adr_modN hf]
theorem SOK.setNp {w : World} {c : Sx} {od : Obj} {nodes : List Nd} {rest : List (Addr × Obj)} (K : SOK w c od nodes rest) (a : Addr) (v : Int) (t : Tok) : SOK w c od (Mine.modN a (Mine.setNp v t) nodes) rest := K.modN (fun _ => rfl) (fun _ => rfl) fun _ => rfl
theorem SOK.addSi {w : World} {c : Sx} {od : Obj} {nodes : List Nd} {rest : List (Addr × Obj)} (K : SOK w c od nodes rest) (a : Addr) (v : Int) (t : Tok) : SOK w c od (Mine.modN a (Mine.addSi v t) nodes) rest := K.modN (fun _ => rfl) (fun _ => rfl) fun _ => rfl
theorem SOK.updNp {w : World} {c : Sx} {r : Value} {np nf : Int} {tp tf : Nat} {od : Obj} {nodes : List Nd} {rest : List (Addr × Obj)} {nd : Nd} {v : Int} {t : Tok} (K : SOK w c od nodes rest) (hm : nd ∈ nodes) :
    Upd nd.a (nodeObj nd.da nd.sa nd.np nd.tn nd.k nd.tk) (nodeObj nd.da nd.sa v t nd.k nd.tk) (SL w c r np nf tp tf od (NN nodes ++ rest)) (SL w c r np nf tp tf od (NN (Mine.modN nd.a (Mine.setNp v t) nodes) ++ rest)) := by
  obtain ⟨h12, h13, h23, o1, o2, o3, n⟩ := K.facts
  have hx := List.mem_append_left rest (mem_obj hm)
  exact .tail (o1 _ hx).symm (.tail (o2 _ hx).symm (.tail (o3 _ hx).symm (Upd.left (upd_np n.left hm) fun p hp e => n.apart _ (mem_obj hm) p hp e.symm)))
theorem SOK.updSi {w : World} {c : Sx} {r : Value} {np nf : Int} {tp tf : Nat} {od : Obj} {nodes : List Nd} {rest : List (Addr × Obj)} {nd : Nd} {v : Int} {t : Tok} (K : SOK w c od nodes rest) (hm : nd ∈ nodes) :
    Upd nd.sa (listOf (vals nd.si).toArray nd.ep) (listOf ((vals nd.si).toArray.push (.int v t)) (nd.ep + 1)) (SL w c r np nf tp tf od (NN nodes ++ rest)) (SL w c r np nf tp tf od (NN (Mine.modN nd.a (Mine.addSi v t) nodes) ++ rest)) := by
  obtain ⟨h12, h13, h23, o1, o2, o3, n⟩ := K.facts
  have hx := List.mem_append_left rest (mem_suc hm)
  have e : (vals nd.si).toArray.push (.int v t) = (vals (nd.si ++ [(v, t)])).toArray := by simp
  rw [e]
  exact .tail (o1 _ hx).symm (.tail (o2 _ hx).symm (.tail (o3 _ hx).symm (Upd.left (upd_si n.left hm) fun p hp e => n.apart _ (mem_suc hm) p hp e.symm)))
theorem SL_in {w : World} {c : Sx} {r : Value} {np nf : Int} {tp tf : Nat} {od : Obj} {l rest : List (Addr × Obj)} {q : Addr × Obj} : ∀ p ∈ SL w c r np nf tp tf od (l ++ q :: rest), p ∈ q :: SL w c r np nf tp tf od (l ++ rest) :=
  fun _ hp => (List.perm_middle (l₁ := _ :: _ :: _ :: l)).mem_iff.mp hp
theorem SL_out {w : World} {c : Sx} {r : Value} {np nf : Int} {tp tf : Nat} {od : Obj} {l rest : List (Addr × Obj)} {q : Addr × Obj} : ∀ p ∈ q :: SL w c r np nf tp tf od (l ++ rest), p ∈ SL w c r np nf tp tf od (l ++ q :: rest) :=
  fun _ hp => (List.perm_middle (l₁ := _ :: _ :: _ :: l)).mem_iff.mpr hp
theorem perm_mid2 {l rest : List (Addr × Obj)} {q a : Addr × Obj} : (l ++ a :: q :: rest).Perm (q :: (l ++ a :: rest)) := ((List.Perm.swap q a rest).append_left l).trans List.perm_middle
theorem SL_out2 {w : World} {c : Sx} {r : Value} {np nf : Int} {tp tf : Nat} {od : Obj} {l rest : List (Addr × Obj)} {q a : Addr × Obj} : ∀ p ∈ q :: SL w c r np nf tp tf od (l ++ a :: rest), p ∈ SL w c r np nf tp tf od (l ++ a :: q :: rest) :=
  fun _ hp => (perm_mid2 (l := _ :: _ :: _ :: l)).mem_iff.mpr hp
theorem SL_in2 {w : World} {c : Sx} {r : Value} {np nf : Int} {tp tf : Nat} {od : Obj} {l rest : List (Addr × Obj)} {q a : Addr × Obj} : ∀ p ∈ SL w c r np nf tp tf od (l ++ a :: q :: rest), p ∈ q :: SL w c r np nf tp tf od (l ++ a :: rest) :=
  fun _ hp => (perm_mid2 (l := _ :: _ :: _ :: l)).mem_iff.mp hp
theorem SOK.off {w : World} {c : Sx} {od : Obj} {nodes : List Nd} {rest : List (Addr × Obj)} {a : Addr} {o : Obj} (K : SOK w c od nodes ((a, o) :: rest)) {r : Value} {np nf : Int} {tp tf : Nat} : ∀ p ∈ SL w c r np nf tp tf od (NN nodes ++ rest), p.1 ≠ a := by
  obtain ⟨h12, h13, h23, o1, o2, o3, n⟩ := K.facts
  have pm : (NN nodes ++ (a, o) :: rest).Perm ((a, o) :: (NN nodes ++ rest)) := List.perm_middle
  have ha : (a, o) ∈ NN nodes ++ (a, o) :: rest := by simp
  intro p hp
  rcases List.mem_cons.mp hp with rfl | hp
  · exact (o1 _ ha).symm
  rcases List.mem_cons.mp hp with rfl | hp
  · exact (o2 _ ha).symm
  rcases List.mem_cons.mp hp with rfl | hp
  · exact (o3 _ ha).symm
  · exact (n.perm pm.symm).head p hp
/-- one more object beside, off all of them -/
theorem SOK.moreOff {w : World} {c : Sx} {od : Obj} {nodes : List Nd} {rest : List (Addr × Obj)} (K : SOK w c od nodes rest) {a : Addr} {o : Obj} {r : Value} {np nf : Int} {tp tf : Nat} (hI : ∀ p ∈ SL w c r np nf tp tf od (NN nodes ++ rest), p.1 ≠ a) : SOK w c od nodes ((a, o) :: rest) :=
  K.more (hI (c.sx, _) (.head _)).symm (hI (c.sd, _) (.tail _ (.head _))).symm (hI (c.d, _) (.tail _ (.tail _ (.head _)))).symm fun p hp => hI p (.tail _ (.tail _ (.tail _ hp)))
theorem SOK.setRest {w : World} {c : Sx} {od : Obj} {nodes : List Nd} {rest : List (Addr × Obj)} {a : Addr} {o o' : Obj} (K : SOK w c od nodes ((a, o) :: rest)) : SOK w c od nodes ((a, o') :: rest) :=
  ⟨fun r np nf tp tf => (K.nd r np nf tp tf).same (by simp), K.dict, K.lo⟩
theorem SOK.perm {w : World} {c : Sx} {od : Obj} {nodes : List Nd} {rest rest' : List (Addr × Obj)} (K : SOK w c od nodes rest) (h : rest'.Perm rest) : SOK w c od nodes rest' :=
  ⟨fun r np nf tp tf => (K.nd r np nf tp tf).perm (List.Perm.cons _ (List.Perm.cons _ (List.Perm.cons _ (List.Perm.append_left _ h)))), K.dict, K.lo⟩
theorem updF_mid {a : Addr} {o : Obj} : ∀ {l1 l2 : List (Addr × Obj)}, (∀ p ∈ l1, p.1 ≠ a) → (∀ p ∈ l2, p.1 ≠ a) → UpdF a o (l1 ++ (a, o) :: l2) (fun o' => l1 ++ (a, o') :: l2)
  | [], _, _, h => .head h
  | _ :: _, _, h1, h => .tail (h1 _ (.head _)) (updF_mid (fun p hp => h1 p (.tail _ hp)) h)
theorem SOK.updF {w : World} {c : Sx} {r : Value} {np nf : Int} {tp tf : Nat} {od : Obj} {nodes : List Nd} {rest : List (Addr × Obj)} {a : Addr} {o : Obj} (K : SOK w c od nodes ((a, o) :: rest)) :
    UpdF a o (SL w c r np nf tp tf od (NN nodes ++ (a, o) :: rest)) (fun o' => SL w c r np nf tp tf od (NN nodes ++ (a, o') :: rest)) := by
  have h := K.off (r := r) (np := np) (nf := nf) (tp := tp) (tf := tf)
  exact .tail (h (c.sx, _) (.head _)) (.tail (h (c.sd, _) (.tail _ (.head _))) (.tail (h (c.d, _) (.tail _ (.tail _ (.head _)))) (updF_mid (fun p hp => h p (.tail _ (.tail _ (.tail _ (List.mem_append_left _ hp))))) fun p hp => h p (.tail _ (.tail _ (.tail _ (List.mem_append_right _ hp)))))))
theorem SOK.updMid {w : World} {c : Sx} {r : Value} {np nf : Int} {tp tf : Nat} {od : Obj} {nodes : List Nd} {rest : List (Addr × Obj)} {a : Addr} {o o' : Obj} (K : SOK w c od nodes ((a, o) :: rest)) :
    Upd a o o' (SL w c r np nf tp tf od (NN nodes ++ (a, o) :: rest)) (SL w c r np nf tp tf od (NN nodes ++ (a, o') :: rest)) := by
  have h := K.off (r := r) (np := np) (nf := nf) (tp := tp) (tf := tf)
  exact .tail (h (c.sx, _) (.head _)) (.tail (h (c.sd, _) (.tail _ (.head _))) (.tail (h (c.d, _) (.tail _ (.tail _ (.head _)))) (Upd.right (fun p hp => h p (.tail _ (.tail _ (.tail _ (List.mem_append_left _ hp))))) (.head fun p hp => h p (.tail _ (.tail _ (.tail _ (List.mem_append_right _ hp))))))))
/-- the node of a key, made where it lacks -/
def getA (k : Int) (l : List (Int × Int × List Int)) : List (Int × Int × List Int) := if k ∈ l.map (·.1) then l else l ++ [(k, 0, [])]
theorem keys_abs (l : List Nd) : (absN l).map (·.1) = l.map (·.k) := by unfold absN; rw [List.map_map]; rfl
theorem keys_kvs (l : List Nd) : (kvsOf l).map (·.1) = l.map (·.k) := by unfold kvsOf; rw [List.map_map]; rfl
theorem SOK.keys {w : World} {c : Sx} {od : Obj} {nodes : List Nd} {rest : List (Addr × Obj)} (K : SOK w c od nodes rest) : (nodes.map (·.k)).Nodup := by
  obtain ⟨es, ep, _, _, _, _, hn⟩ := K.dict
  rw [keys_kvs] at hn; exact hn
theorem valueAt_none {nodes : List Nd} {k : Int} (h : k ∉ nodes.map (·.k)) : valueAt (kvsOf nodes) k = none := by
  unfold valueAt kvsOf
  rw [List.find?_map]
  have : (nodes.find? ((fun kv : Int × Value => decide (kv.1 = k)) ∘ fun nd : Nd => (nd.k, Value.ref nd.a))) = none := by
    rw [List.find?_eq_none]
    intro x hx
    simp only [Function.comp_apply, decide_eq_true_eq]
    exact fun e => h (List.mem_map.mpr ⟨x, hx, e⟩)
  rw [this]; rfl
theorem valueAt_some {nodes : List Nd} {nd : Nd} (hn : (nodes.map (·.k)).Nodup) (h : nd ∈ nodes) : valueAt (kvsOf nodes) nd.k = some (.ref nd.a) := by
  obtain ⟨i, hi, e⟩ := List.mem_iff_getElem.mp h
  refine valueAt_of_get (i := i) (by rw [keys_kvs]; exact hn) ?_
  unfold kvsOf
  rw [List.getElem?_map, List.getElem?_eq_getElem hi, e]; rfl
section
variable {w : World} {A : Around} {h₀ : Heap} {L : Addr} {m : Str → Option Value} {s : Shared} {rest : List (Addr × Obj)} {c : Sx} {tp tf : Nat} {np nf : Int} {od : Obj} {nodes : List Nd} {r : Value} {k : Int} {tk : Nat} {R : Result → Shared → Prop}
theorem c_get (C : Cx 3 w A h₀ L) (F : Fr h₀ L s.heap m) (N : News h₀ L s.heap (SL w c r np nf tp tf od (NN nodes ++ rest))) (K : SOK w c od nodes rest) (hz : nodes.length ≤ 10000)
   (h : ∀ h' t' od' nodes' nd, Fr h₀ L h' m → News h₀ L h' (SL w c r np nf tp tf od' (NN nodes' ++ rest)) → SOK w c od' nodes' rest → nd ∈ nodes' → nd.k = k → absN nodes' = getA k (absN nodes) → nodes'.length ≤ nodes.length + 1 →
     R (.ok (.ret (.ref nd.a))) { s with heap := h', toks := t' })
   : codeAny (model PR w) A (.call (.ref 80) ⟨[.ref c.sx, .int k tk], []⟩) R s := by
  have nd0 := K.nd r np nf tp tf
  by_cases hk : k ∈ nodes.map (·.k)
  · obtain ⟨nd, hnd, rfl⟩ := List.mem_map.mp hk
    refine c_get_old C F N K.dict K.lo (valueAt_some K.keys hnd) fun h' t' F' N' => h h' t' od nodes nd F' N' K hnd rfl ?_ (Nat.le_succ _)
    unfold getA; rw [if_pos (by rw [keys_abs]; exact hk)]
  · have hl := valueAt_none hk
    refine c_get_new C F N (nd0.head (c.sd, _) (.head _)).symm (nd0.head (c.d, _) (.tail _ (.head _))).symm (nd0.tail.head (c.d, _) (.head _)).symm (nd0.tail.tail.head) K.dict K.lo hl (by unfold kvsOf; rw [List.length_map]; exact Nat.le_trans hz (by decide))
      fun h' t' od' sa a da tn F' N' hd' l1 l2 l3 l4 l5 l6 => ?_
    have l6' := allLt_mem l6
    let nd : Nd := ⟨k, tk, 0, tn, [], 0, a, da, sa⟩
    have eN : ∀ r np nf tp tf, List.Perm (SL w c r np nf tp tf od' (NN (nodes ++ [nd]) ++ rest)) (nd.objs ++ SL w c r np nf tp tf od' (NN nodes ++ rest)) := fun r np nf tp tf => by
      rw [NN_append, show NN [nd] = nd.objs from by simp [NN]]
      refine List.Perm.trans (List.Perm.cons _ (List.Perm.cons _ (List.Perm.cons _ (List.Perm.append_right rest List.perm_append_comm)))) ?_
      rw [List.append_assoc]
      exact (List.perm_append_comm (l₁ := [_, _, _]) (l₂ := nd.objs ++ (NN nodes ++ rest))).trans (by
        rw [List.append_assoc]
        exact List.Perm.append_left _ List.perm_append_comm)
    refine h h' t' od' (nodes ++ [nd]) nd F' (News.sub N' fun p hp => (eN r np nf tp tf).mem_iff.mp hp) ⟨?_, ?_, K.lo⟩ (by simp) rfl ?_ (by simp)
    · intro r np nf tp tf
      refine ND.perm ?_ (eN r np nf tp tf)
      have nd1 : ND (SL w c r np nf tp tf od' (NN nodes ++ rest)) := (K.nd r np nf tp tf).same rfl
      have lt : ∀ q ∈ SL w c r np nf tp tf od' (NN nodes ++ rest), q.1 < da := by
        intro q hq
        rcases List.mem_cons.mp hq with rfl | hq
        · exact l3
        rcases List.mem_cons.mp hq with rfl | hq
        · exact l4
        rcases List.mem_cons.mp hq with rfl | hq
        · exact l5
        exact l6' q hq
      refine ND.cons (ND.cons (ND.cons nd1 ?_) ?_) ?_
      · intro q hq; exact Nat.ne_of_lt (lt q hq)
      · intro q hq
        rcases List.mem_cons.mp hq with rfl | hq
        · exact Nat.ne_of_lt l1
        · exact Nat.ne_of_lt (Nat.lt_trans (lt q hq) l1)
      · intro q hq
        rcases List.mem_cons.mp hq with rfl | hq
        · exact Nat.ne_of_lt l2
        rcases List.mem_cons.mp hq with rfl | hq
        · exact Nat.ne_of_lt (Nat.lt_trans l1 l2)
        · exact Nat.ne_of_lt (Nat.lt_trans (Nat.lt_trans (lt q hq) l1) l2)
    · rw [kvsOf_append]; rw [stored_absent hl] at hd'; exact hd'
    · unfold getA
      rw [if_neg (by rw [keys_abs]; exact hk), absN_append]; rfl
end
/-- the sorter's ledger in a loop: before prepare; behind it, with the ready list standing; with the ready list changing -/
inductive JS (w : World) (c : Sx) (np nf : Int) (tp tf : Nat) (R : List (Addr × Obj)) (f : List (Int × Int × List Int)) (b : Nat) : List (Addr × Obj) → Prop
  | mk (od : Obj) (nodes : List Nd) (K : SOK w c od nodes R) (a : absN nodes = f) (l : nodes.length ≤ b) : JS w c np nf tp tf R f b (SL w c .none np nf tp tf od (NN nodes ++ R))
theorem SL_swap {w : World} {c : Sx} {r : Value} {np nf : Int} {tp tf : Nat} {od : Obj} {l rest : List (Addr × Obj)} {x y : Addr × Obj} : ∀ p ∈ SL w c r np nf tp tf od (l ++ x :: y :: rest), p ∈ SL w c r np nf tp tf od (l ++ y :: x :: rest) :=
  fun _ hp => (List.Perm.append_left (_ :: _ :: _ :: l) (List.Perm.swap x y rest)).mem_iff.mpr hp
local macro_rules | `(tactic| k_upd) => `(tactic| first | exact SOK.updNp (by assumption) (by assumption) | exact SOK.updSi (by assumption) (by assumption))
local macro_rules | `(tactic| k_upd) => `(tactic| first | exact SOK.updMid (by assumption) | exact SOK.updMid (SOK.setNp (by assumption) _ _ _))
/-! part B4 -/
set_option maxHeartbeats 1000000
set_option maxHeartbeats 8000000
theorem peek_rest {K : Frag} {S : Setting} {fd : FuncData} {args : Args} {vs : List Value} (f : Value → List (Str × Value)) (e : bindArgs fd args = newTuple vs >>= fun t => pure (f t)) (hz : vs.length ≤ sizeLine) :
    peek1 K S (bindArgs fd args) = some (({ cls := .type "tuple", data := .seq vs.toArray } : Obj), fun D => some (f (.ref D))) := by
  rw [e]
  unfold newTuple newObj
  dsimp only
  rw [if_neg (by simpa using Nat.not_lt.mpr hz)]
  rfl
def modA (k : Int) (f : Int × List Int → Int × List Int) (l : List (Int × Int × List Int)) : List (Int × Int × List Int) := l.map fun x => if x.1 = k then (x.1, f x.2) else x
def addStep (k : Int) (l : List (Int × Int × List Int)) (p : Int) : List (Int × Int × List Int) := modA p (fun x => (x.1, x.2 ++ [k])) (getA p l)
def addA (k : Int) (ps : List Int) (l : List (Int × Int × List Int)) : List (Int × Int × List Int) :=
  ps.foldl (addStep k) (modA k (fun x => (x.1 + ps.length, x.2)) (getA k l))
/-- no list of successors is longer than b -/
def BA (b : Nat) (l : List (Int × Int × List Int)) : Prop := ∀ x ∈ l, x.2.2.length ≤ b
theorem BA.get {b : Nat} {l : List (Int × Int × List Int)} {k : Int} (h : BA b l) : BA b (getA k l) := by
  unfold getA
  split
  · exact h
  · intro x hx
    rcases List.mem_append.mp hx with hx | hx
    · exact h x hx
    · rw [List.mem_singleton.mp hx]; exact Nat.zero_le _
theorem BA.mod {b b' : Nat} {l : List (Int × Int × List Int)} {k : Int} {f : Int × List Int → Int × List Int} (h : BA b l) (hb : b ≤ b') (hf : ∀ x : Int × List Int, x.2.length ≤ b → (f x).2.length ≤ b') : BA b' (modA k f l) := by
  intro x hx
  obtain ⟨y, hy, rfl⟩ := List.mem_map.mp hx
  split
  · exact hf _ (h y hy)
  · exact Nat.le_trans (h y hy) hb
theorem BA.step {b : Nat} {l : List (Int × Int × List Int)} {k p : Int} (h : BA b l) : BA (b + 1) (addStep k l p) :=
  h.get.mod (Nat.le_succ _) fun x hx => by simpa using hx
theorem BA.fold {k : Int} : ∀ (ps : List Int) {b : Nat} {l : List (Int × Int × List Int)}, BA b l → BA (b + ps.length) (ps.foldl (addStep k) l)
  | [], _, _, h => h
  | p :: ps, b, l, h => by
    rw [List.foldl_cons, List.length_cons, Nat.add_comm ps.length 1, ← Nat.add_assoc]
    exact BA.fold ps h.step
theorem BA.add {b : Nat} {l : List (Int × Int × List Int)} {k : Int} {ps : List Int} (h : BA b l) : BA (b + ps.length) (addA k ps l) :=
  BA.fold ps (h.get.mod (Nat.le_refl _) fun _ hx => hx)
theorem BA.of_nodes {b : Nat} {l : List Nd} (h : BA b (absN l)) {nd : Nd} (hm : nd ∈ l) : nd.si.length ≤ b := by
  have := h (nd.k, nd.np, nd.si.map (·.1)) (List.mem_map.mpr ⟨nd, hm, rfl⟩)
  simpa using this
theorem vals_get {ps : List (Int × Tok)} {i : Nat} {v : Value} (h : (vals ps)[i]? = some v) : ∃ p, ps[i]? = some p ∧ v = .int p.1 p.2 := by
  rw [List.getElem?_map] at h
  cases e : ps[i]? with
  | none => rw [e] at h; cases h
  | some p => rw [e] at h; cases h; exact ⟨p, rfl, rfl⟩
theorem inj_k {l : List Nd} (hn : (l.map (·.k)).Nodup) {x y : Nd} (hx : x ∈ l) (hy : y ∈ l) (e : x.k = y.k) : x = y := by
  induction l with
  | nil => cases hx
  | cons z l ih =>
    rw [List.map_cons, List.nodup_cons] at hn
    rcases List.mem_cons.mp hx with e1 | h1 <;> rcases List.mem_cons.mp hy with e2 | h2
    · rw [e1, e2]
    · exact absurd (List.mem_map.mpr ⟨y, h2, by rw [← e, e1]⟩) hn.1
    · exact absurd (List.mem_map.mpr ⟨x, h1, by rw [e, e2]⟩) hn.1
    · exact ih hn.2 h1 h2
theorem inj_a {l : List Nd} (hn : ND (NN l)) {x y : Nd} (hx : x ∈ l) (hy : y ∈ l) (e : x.a = y.a) : x = y := by
  induction l with
  | nil => cases hx
  | cons z l ih =>
    rw [NN_cons] at hn
    rcases List.mem_cons.mp hx with e1 | h1 <;> rcases List.mem_cons.mp hy with e2 | h2
    · rw [e1, e2]
    · exact absurd (e1 ▸ e) (hn.apart (z.a, _) (.tail _ (.head _)) _ (mem_obj h2))
    · exact absurd (e2 ▸ e.symm) (hn.apart (z.a, _) (.tail _ (.head _)) _ (mem_obj h1))
    · exact ih hn.right h1 h2
theorem abs_modN {l : List Nd} {nd : Nd} {f : Nd → Nd} {g : Int × List Int → Int × List Int} (hk : (l.map (·.k)).Nodup) (hn : ND (NN l)) (hm : nd ∈ l)
    (hf : ((f nd).k, (f nd).np, (f nd).si.map (·.1)) = (nd.k, g (nd.np, nd.si.map (·.1)))) : absN (modN nd.a f l) = modA nd.k g (absN l) := by
  unfold absN modN modA
  rw [List.map_map, List.map_map]
  apply List.map_congr_left
  intro x hx
  simp only [Function.comp_apply]
  by_cases e : x = nd
  · subst e; rw [if_pos rfl, if_pos rfl]; exact hf
  · rw [if_neg fun q => e (inj_a hn hx hm q), if_neg fun q => e (inj_k hk hx hm q)]
theorem len_modN {a : Addr} {f : Nd → Nd} (l : List Nd) : (modN a f l).length = l.length := by unfold modN; rw [List.length_map]
theorem mem_modN {nd : Nd} {l : List Nd} {f : Nd → Nd} (h : nd ∈ l) : f nd ∈ modN nd.a f l := List.mem_map.mpr ⟨nd, h, by rw [if_pos rfl]⟩
section
variable {w : World} {A : Around} {h₀ : Heap} {L : Addr} {m : Str → Option Value} {s : Shared} {rest : List (Addr × Obj)} {c : Sx} {tp tf : Nat} {np nf : Int} {od : Obj} {nodes : List Nd} {r : Value} {k : Int} {tk : Nat} {R : Result → Shared → Prop} {ps : List (Int × Tok)}
theorem c_add (C : Cx 4 w A h₀ L) (F : Fr h₀ L s.heap m) (N : News h₀ L s.heap (SL w c .none np nf tp tf od (NN nodes ++ rest))) (K : SOK w c od nodes rest) (hz : nodes.length ≤ 5000) (hp : ps.length ≤ 1000) {b : Nat} (hb : BA b (absN nodes)) (hbz : b + ps.length ≤ 10000)
   (h : ∀ h' t' od' nodes', Fr h₀ L h' m → News h₀ L h' (SL w c .none np nf tp tf od' (NN nodes' ++ rest)) → SOK w c od' nodes' rest → absN nodes' = addA k (ps.map (·.1)) (absN nodes) → nodes'.length ≤ nodes.length + 1 + ps.length →
     R (.ok (.ret .none)) { s with heap := h', toks := t' })
   : codeAny (model PR w) A (.call (.ref 87) ⟨.ref c.sx :: .int k tk :: vals ps, []⟩) R s := by
  obtain ⟨A₀, base, outer, env, p, loose, mean, mg, mb, B, X₀, T, hA, hf, hke, hh, hgu, hdep, hun⟩ := C
  obtain ⟨hd', dep, fr, gu, un⟩ := A
  dsimp only at hA hh hgu hdep hun
  subst hA hh hgu
  refine' kp_rest (vs := vals ps) (binds := fun D => [(Str.ofString "self", .ref c.sx), (Str.ofString "node", .int k tk), (Str.ofString "predecessors", .ref D)]) B F X₀ N T rfl hf hke ?k6 ?k7 ?k8 ?kV ?kP ?kG ?kB ?_ ?c2 ?c3 ?c4 ?c5
  case k6 => k_is
  case k7 => k_is
  case k8 => k_room
  case kV => exact rfl
  case kP => exact peek_rest (fun t => [(Str.ofString "self", .ref c.sx), (Str.ofString "node", .int k tk), (Str.ofString "predecessors", t)]) (by cases ps <;> rfl) (by rw [List.length_map]; exact Nat.le_trans hp (by decide))
  case kG => exact fun _ => rfl
  case kB => exact fun _ => locs rfl
  case c5 => decide
  case c2 => exact rfl
  case c3 => exact rfl
  case c4 => exact rfl
  intro D' g' L' h' l1 FG' F' N' B' X' T'
  have K1 := K.more (o := ({ cls := .type "tuple", data := .seq (vals ps).toArray } : Obj)) (Nat.ne_of_gt (l1 (c.sx, _) (.head _))) (Nat.ne_of_gt (l1 (c.sd, _) (.tail _ (.head _)))) (Nat.ne_of_gt (l1 (c.d, _) (.tail _ (.tail _ (.head _))))) fun p hp => Nat.ne_of_lt (l1 p (.tail _ (.tail _ (.tail _ hp))))
  (try dsimp only at F')
  (try dsimp only)
  refine wpAny_noRaise ?_
  refine abs_post fun Qf hQf => ?_
  (try k_fold)
  (repeat' ((fail_if_success (with_reducible first | (refine at1 ?_ ?_; constructor) )); (first | (k_unfold; (try dsimp only)) | (k_end; wrow_close) | ((with_reducible show wpAny _ _ (call (Value.builtin "len") [Value.ref _]) _ _ _); k_dflt (refine h_len (by k_asm) (by k_mem) (by assumption) ?_; k_whole); (try simp only [List.size_toArray, List.length_map])) | walk1 | (dsimp only; walk1) | (leave1; walk_say "STEP leave1"; try dsimp only) | fail "no step")))
  rename Fr _ _ _ _ => F1
  rename News _ _ _ _ => N1
  refine wpAny_call ?_
  refine c_get (rest := (D', ({ cls := .type "tuple", data := .seq (vals ps).toArray } : Obj)) :: rest) (r := .none) (np := np) (nf := nf) (tp := tp) (tf := tf) (od := od) (nodes := nodes) ⟨_, _, _, _, _, _, _, _, _, B', X', T', rfl, rfl, rfl, rfl, rfl, by show dep + 1 + 5 * 3 < 900; omega, by show un + 3 + 50 * 3 < 9000; omega⟩ F1 (News.sub N1 SL_in) K1 (by omega) fun h1 t1 od1 nodes1 nd F2 N2 K2 hm hk ha hl => ?_
  clear N1 F1
  dsimp only
  have hI : (((vals ps).toArray.size : Nat) : Int) < 2 ^ 63 := by rw [List.size_toArray, List.length_map]; omega
  (repeat' ((fail_if_success (with_reducible first | (refine at1 ?_ ?_; constructor) )); (first | (k_unfold; (try dsimp only)) | (k_end; wrow_close) | ((with_reducible show wpAny _ _ (call (Value.builtin "len") [Value.ref _]) _ _ _); k_dflt (refine h_len (by k_asm) (by k_mem) (by assumption) ?_; k_whole); (try simp only [List.size_toArray, List.length_map])) | walk1 | (dsimp only; walk1) | (leave1; walk_say "STEP leave1"; try dsimp only) | fail "no step")))
  refine for_rule ?_
  (repeat' ((fail_if_success (with_reducible first | (refine at1 ?_ ?_; constructor) )); (first | (k_unfold; (try dsimp only)) | (k_end; wrow_close) | ((with_reducible show wpAny _ _ (call (Value.builtin "len") [Value.ref _]) _ _ _); k_dflt (refine h_len (by k_asm) (by k_mem) (by assumption) ?_; k_whole); (try simp only [List.size_toArray, List.length_map])) | walk1 | (dsimp only; walk1) | (leave1; walk_say "STEP leave1"; try dsimp only) | fail "no step")))
  rename Fr _ _ _ _ => F3
  rename News _ _ _ _ => N3
  refine iter_tuple (vs := vals ps) (n := 0) [Str.ofString "pred", Str.ofString "pred_info"] (fun i m nx => JS w c np nf tp tf ((D', ({ cls := .type "tuple", data := .seq (vals ps).toArray } : Obj)) :: rest) (((ps.map (·.1)).take i).foldl (addStep k) (modA k (fun x => (x.1 + (ps.map (·.1)).length, x.2)) (getA k (absN nodes)))) (nodes.length + 1 + i) nx)
    rfl ?hl ?hks (fun _ _ => rfl) F3 N3 ?hj ?turn ?done
  case hl => k_mem
  case hks => rintro i m nx ⟨od2, nodes2, _, _, _⟩; k_mem
  case hj => 
    refine ⟨od1, _, K2.setNp _ _ _, ?_, ?_⟩
    · rw [List.take_zero, List.foldl_nil, abs_modN (g := fun x => (x.1 + (ps.map (·.1)).length, x.2)) K2.keys K2.facts.n.left hm (by simp [setNp]), hk, ha]
    · rw [len_modN]; exact hl
  case turn =>
    rintro i v mu nx h4 t4 I io Qt hQt hv ⟨od2, nodes2, K4, ha4, hl4⟩ hI hIlt F4 N4
    obtain ⟨p4, hp4, rfl⟩ := vals_get hv
    have hi : i < ps.length := (List.getElem?_eq_some_iff.mp hp4).1
    (repeat' ((fail_if_success (with_reducible first | (refine at1 ?_ ?_; constructor) )); (first | (k_unfold; (try dsimp only)) | (k_end; wrow_close) | ((with_reducible show wpAny _ _ (call (Value.builtin "len") [Value.ref _]) _ _ _); k_dflt (refine h_len (by k_asm) (by k_mem) (by assumption) ?_; k_whole); (try simp only [List.size_toArray, List.length_map])) | walk1 | (dsimp only; walk1) | (leave1; walk_say "STEP leave1"; try dsimp only) | fail "no step")))
    rename Fr _ _ _ _ => F5
    rename News _ _ _ _ => N5
    refine wpAny_call ?_
    have K5 := K4.moreOff (o := io) hI
    refine c_get (r := .none) (np := np) (nf := nf) (tp := tp) (tf := tf) (od := od2) (nodes := nodes2) (rest := (I, io) :: (D', ({ cls := .type "tuple", data := .seq (vals ps).toArray } : Obj)) :: rest) ⟨_, _, _, _, _, _, _, _, _, B', X', T', rfl, rfl, rfl, rfl, rfl, by show dep + 1 + 5 * 3 < 900; omega, by show un + 3 + 50 * 3 < 9000; omega⟩ F5 (News.sub N5 SL_in) K5 (by omega) fun h6 t6 od6 nodes6 nd6 F6 N6 K6 hm6 hk6 ha6 hl6 => ?_
    clear N5 F5
    dsimp only
    have hB6 : BA (b + ps.length) (absN nodes6) := by
      rw [ha6, ha4]
      refine BA.get ?_
      have z := BA.fold (k := k) ((ps.map (·.1)).take i) (b := b) (l := modA k (fun x => (x.1 + (ps.map (·.1)).length, x.2)) (getA k (absN nodes))) (hb.get.mod (Nat.le_refl _) fun _ hx => hx)
      intro x hx
      have := z x hx
      simp only [List.length_take, List.length_map] at this
      omega
    have hsz : (vals nd6.si).toArray.size ≤ sizeLine := by
      have := hB6.of_nodes hm6
      rw [List.size_toArray, List.length_map]
      exact Nat.le_trans (Nat.le_trans this hbz) (by decide)
    (repeat' ((fail_if_success (with_reducible first | (refine at1 ?_ ?_; constructor) )); (first | (k_unfold; (try dsimp only)) | (k_end; wrow_close) | ((with_reducible show wpAny _ _ (call (Value.builtin "len") [Value.ref _]) _ _ _); k_dflt (refine h_len (by k_asm) (by k_mem) (by assumption) ?_; k_whole); (try simp only [List.size_toArray, List.length_map])) | walk1 | (dsimp only; walk1) | (leave1; walk_say "STEP leave1"; try dsimp only) | fail "no step")))
    rename Fr _ _ _ _ => F7
    rename News _ _ _ _ => N7
    refine hQt _ _ (TurnP.next F7 N7 SL_out (K6.addSi _ _ _).off ⟨Same.put' (Same.put' same_of_mm), od6, _, (K6.addSi _ _ _).less, ?_, ?_⟩)
    · rw [abs_modN (g := fun x => (x.1, x.2 ++ [k])) K6.keys K6.facts.n.left hm6 (by simp [addSi]), hk6, ha6, ha4, List.take_add_one, List.getElem?_map, hp4]
      simp [addStep]
    · rw [len_modN]; omega
  case done =>
    rintro mu nx h4 t4 ⟨od2, nodes2, K4, ha4, hl4⟩ F4 N4
    (repeat' ((fail_if_success (with_reducible first | (refine at1 ?_ ?_; constructor) )); (first | (k_unfold; (try dsimp only)) | (k_end; wrow_close) | ((with_reducible show wpAny _ _ (call (Value.builtin "len") [Value.ref _]) _ _ _); k_dflt (refine h_len (by k_asm) (by k_mem) (by assumption) ?_; k_whole); (try simp only [List.size_toArray, List.length_map])) | walk1 | (dsimp only; walk1) | (leave1; walk_say "STEP leave1"; try dsimp only) | fail "no step")))
    refine hQf _ _ ?_
    try dsimp only
    (repeat' ((fail_if_success (with_reducible first | (refine at1 ?_ ?_; constructor) )); (first | (k_unfold; (try dsimp only)) | (k_end; wrow_close) | ((with_reducible show wpAny _ _ (call (Value.builtin "len") [Value.ref _]) _ _ _); k_dflt (refine h_len (by k_asm) (by k_mem) (by assumption) ?_; k_whole); (try simp only [List.size_toArray, List.length_map])) | walk1 | (dsimp only; walk1) | (leave1; walk_say "STEP leave1"; try dsimp only) | fail "no step")))
    rename Fr _ _ _ _ => F7
    rename News _ _ _ _ => N7
    refine h _ _ od2 nodes2 F7 (News.sub N7 fun p hp => SL_out p (.tail _ hp)) K4.less ?_ ?_
    · rw [ha4, List.take_of_length_le (by simp)]; rfl
    · rw [List.length_map] at hl4; exact hl4
end
/-! part B5 -/
set_option maxHeartbeats 1000000
set_option maxHeartbeats 8000000
/-- what a graph tells: a key, the address of its list, what is in it -/
structure Gr where
  k : Int
  a : Addr
  ps : List (Int × Tok)
  n : Nat
def gkvs (G : List Gr) : List (Int × Value) := G.map fun g => (g.k, Value.ref g.a)
def gobjs (G : List Gr) : List (Addr × Obj) := G.map fun g => (g.a, listOf (vals g.ps).toArray g.n)
theorem mem_gobjs {G : List Gr} {g : Gr} (h : g ∈ G) : (g.a, listOf (vals g.ps).toArray g.n) ∈ gobjs G := List.mem_map.mpr ⟨g, h, rfl⟩
theorem int_of_is {w : World} {k : Int} {v : Value} (h : (intKind PR w).is k v = true) : ∃ t, v = .int k t := by
  cases v <;> first | (exfalso; revert h; exact Bool.false_ne_true) | skip
  rename_i i t
  have : (i == k) = true := h
  exact ⟨t, by rw [eq_of_beq this]⟩
theorem BA.graph {G : List Gr} (hG : ∀ g ∈ G, g.ps.length ≤ 100) (i : Nat) : BA (100 * i) ((G.take i).foldl (fun l g => addA g.k (g.ps.map (·.1)) l) []) := by
  induction i with
  | zero => intro x hx; cases hx
  | succ i ih =>
    rw [List.take_add_one]
    cases hg : G[i]? with
    | none => intro x hx; have := ih x (by simpa using hx); omega
    | some g =>
      rw [List.foldl_append]
      intro x hx
      have h1 := (ih.add (k := g.k) (ps := g.ps.map (·.1))) x (by simpa using hx)
      have h2 := hG g (List.mem_of_getElem? hg)
      rw [List.length_map] at h1
      omega
section
variable {w : World} {A : Around} {h₀ : Heap} {L : Addr} {m : Str → Option Value} {s : Shared} {rest : List (Addr × Obj)} {R : Result → Shared → Prop} {x dx gd : Addr} {go : Obj} {G : List Gr}
theorem c_init (C : Cx 5 w A h₀ L) (F : Fr h₀ L s.heap m) (N : News h₀ L s.heap ((x, instObj 137 dx) :: (dx, dictOf [] 0) :: (gd, go) :: rest)) 
   (hx : x ≠ dx) (hgx : gd ≠ x) (hgd : gd ≠ dx) (o1 : ∀ p ∈ rest, p.1 ≠ x) (o2 : ∀ p ∈ rest, p.1 ≠ dx) (nr : ND ((gd, go) :: rest)) (hd : go.IsDictOf (intKind PR w) (gkvs G)) (lo : (gd == sysModules) = false) (hG : ∀ p ∈ gobjs G, p ∈ rest) (hGz : ∀ g ∈ G, g.ps.length ≤ 100) (hGl : G.length ≤ 20)
   (h : ∀ h' t' c od' nodes' tp tf, Fr h₀ L h' m → News h₀ L h' (SL w c .none 0 0 tp tf od' (NN nodes' ++ (gd, go) :: rest)) → SOK w c od' nodes' ((gd, go) :: rest) → c.sx = x → c.sd = dx →
     absN nodes' = G.foldl (fun l g => addA g.k (g.ps.map (·.1)) l) [] → R (.ok (.ret .none)) { s with heap := h', toks := t' })
   : codeAny (model PR w) A (.call (.ref 73) ⟨[.ref x, .ref gd], []⟩) R s := by
  obtain ⟨A₀, base, outer, env, p, loose, mean, mg, mb, B, X₀, T, hA, hf, hke, hh, hgu, hdep, hun⟩ := C
  obtain ⟨hd', dep, fr, gu, un⟩ := A
  dsimp only at hA hh hgu hdep hun
  subst hA hh hgu
  refine' code_def B F X₀ N T rfl hf hke ?k6 ?k7 ?k8 ?k9 ?kB ?_ ?c2 ?c3 ?c4 ?c5
  case k6 => k_is
  case k7 => k_is
  case k8 => k_room
  case k9 => exact binds_K (X₀.keeps F.keep) rfl (by k_is) rfl rfl rfl
  case c5 => decide
  case kB => exact locs rfl
  case c2 => exact rfl
  case c3 => exact rfl
  case c4 => exact rfl
  intro g' L' h' FG' F' N' B' X' T'
  (try dsimp only)
  refine wpAny_noRaise ?_
  refine abs_post fun Qf hQf => ?_
  (try k_fold)
  (repeat' ((fail_if_success (with_reducible first | (refine at1 ?_ ?_; constructor) )); (first | (k_unfold; (try dsimp only)) | (k_end; wrow_close) | ((with_reducible first | refine' h_items ?N ?m ?d ?_ | refine' h_values ?N ?m ?d ?_ | refine' h_mget ?N ?m ?d ?_); (case N => k_asm); (case m => k_mem); (case d => k_asm); k_whole) | (ks_star; (with_reducible show wpAny _ _ (eval (Expr.Call (Expr.Attribute _ _ _) _ [] _) _) _ _ _); refine methodCall_star ?_) | (ks_star; (with_reducible show wpAny _ _ (callWith _ (Value.ref _) _ _ _) _ _ _); (with_reducible rename News _ _ _ _ => nN'); k_dflt (first | refine' callWith_MS ?k0 (methIn nN' ?k1) ?k2 ?_ | refine' callWith_MS2 ?k0 (methIn nN' ?k1) ?k2 ?_); (case k0 => k_asm); (case k1 => k_mem); (case k2 => k_is)) | ((with_reducible show StarOf _ _ _ (Value.ref _) _ _); k_dflt (refine' star_seq ?k1 ?k2 ?m ?c ?d ?T ?e ?z ?_; (case k1 => k_asm); (case k2 => k_asm); (case m => k_mem); (case c => exact rfl); (case d => exact rfl); (case T => exact .inl rfl); (case e => exact rfl); (case z => assumption); k_whole); intro _ _ _; (try k_sweep); try dsimp only [List.nil_append, List.cons_append]) | walk1 | (dsimp only; walk1) | (leave1; walk_say "STEP leave1"; try dsimp only) | fail "no step")))
  rename Fr _ _ _ _ => F1
  rename News _ _ _ _ => N1
  rename Obj.IsDictOf (intKind _ _) _ [] => hi
  obtain ⟨c, tp, tf, e1, e2, e3, N2⟩ : ∃ (c : Sx) (tp tf : Nat), c.sx = x ∧ c.sd = dx ∧ c.d = _ ∧ News g' L' _ (SL w c .none 0 0 tp tf _ (NN [] ++ (gd, go) :: rest)) := ⟨⟨x, dx, _, _, _, _, _⟩, _, _, rfl, rfl, rfl, News.sub N1 (List.forall_mem_cons.mpr ⟨by k_mem, List.forall_mem_cons.mpr ⟨by k_mem, List.forall_mem_cons.mpr ⟨by k_mem, fun p hp => .tail _ (.tail _ (.tail _ hp))⟩⟩⟩)⟩
  have K2 : SOK w c _ [] ((gd, go) :: rest) := .of_facts (by rw [e1, e2]; exact hx) (by rw [e1, e3]; exact Nat.ne_of_lt (by assumption)) (by rw [e2, e3]; exact Nat.ne_of_lt (by assumption))
    (fun p hp => by
      rw [e1]
      rcases List.mem_cons.mp hp with rfl | hp
      · exact hgx
      · exact o1 p hp)
    (fun p hp => by
      rw [e2]
      rcases List.mem_cons.mp hp with rfl | hp
      · exact hgd
      · exact o2 p hp)
    (fun p hp => by
      rw [e3]
      rcases List.mem_cons.mp hp with rfl | hp
      · exact Nat.ne_of_lt (by assumption)
      · exact (by assumption : ∀ p ∈ rest, p.1 ≠ _) p hp) nr hi (by rw [e3]; assumption)
  subst e1 e2
  clear N1
  refine forT_rule ?_
  (repeat' ((fail_if_success (with_reducible first | (refine at1 ?_ ?_; constructor) )); (first | (k_unfold; (try dsimp only)) | (k_end; wrow_close) | ((with_reducible first | refine' h_items ?N ?m ?d ?_ | refine' h_values ?N ?m ?d ?_ | refine' h_mget ?N ?m ?d ?_); (case N => k_asm); (case m => k_mem); (case d => k_asm); k_whole) | (ks_star; (with_reducible show wpAny _ _ (eval (Expr.Call (Expr.Attribute _ _ _) _ [] _) _) _ _ _); refine methodCall_star ?_) | (ks_star; (with_reducible show wpAny _ _ (callWith _ (Value.ref _) _ _ _) _ _ _); (with_reducible rename News _ _ _ _ => nN'); k_dflt (first | refine' callWith_MS ?k0 (methIn nN' ?k1) ?k2 ?_ | refine' callWith_MS2 ?k0 (methIn nN' ?k1) ?k2 ?_); (case k0 => k_asm); (case k1 => k_mem); (case k2 => k_is)) | ((with_reducible show StarOf _ _ _ (Value.ref _) _ _); k_dflt (refine' star_seq ?k1 ?k2 ?m ?c ?d ?T ?e ?z ?_; (case k1 => k_asm); (case k2 => k_asm); (case m => k_mem); (case c => exact rfl); (case d => exact rfl); (case T => exact .inl rfl); (case e => exact rfl); (case z => assumption); k_whole); intro _ _ _; (try k_sweep); try dsimp only [List.nil_append, List.cons_append]) | walk1 | (dsimp only; walk1) | (leave1; walk_say "STEP leave1"; try dsimp only) | fail "no step")))
  rename Fr _ _ _ _ => F3
  rename News _ _ _ _ => N3
  refine iter_items (knd := intKind PR w) (od := go) (kvs := gkvs G) (news := SL w c .none 0 0 tp tf _ (NN [] ++ (gd, go) :: rest)) [Str.ofString "node", Str.ofString "predecessors"] (fun i m nx => JS w c 0 0 tp tf ((gd, go) :: rest) ((G.take i).foldl (fun l g => addA g.k (g.ps.map (·.1)) l) []) (101 * i) nx)
    rfl (N3 _ (.head _)).1 (by k_mem) hd (by rintro i m nx ⟨od2, nodes2, _, _, _⟩; k_mem) F3 (News.sub N3 fun p hp => .tail _ hp) ⟨_, [], K2, rfl, Nat.le_refl _⟩ rfl ?turn ?done
  case turn =>
    rintro i k v0 v1 mu nx h4 t4 I io Qt hQt hv hkey ⟨od2, nodes2, K4, ha4, hl4⟩ hI hIlt F4 N4
    obtain ⟨t0, rfl⟩ := int_of_is hkey
    obtain ⟨g, hg, hgk⟩ : ∃ g, G[i]? = some g ∧ (g.k, Value.ref g.a) = (k, v1) := by
      unfold gkvs at hv
      rw [List.getElem?_map] at hv
      cases e : G[i]? with
      | none => rw [e] at hv; cases hv
      | some g => rw [e] at hv; cases hv; exact ⟨g, rfl, rfl⟩
    cases hgk
    have hgm : g ∈ G := List.mem_of_getElem? hg
    have hgr : (g.a, listOf (vals g.ps).toArray g.n) ∈ (I, io) :: SL w c .none 0 0 tp tf od2 (NN nodes2 ++ (gd, go) :: rest) := List.mem_cons_of_mem _ (List.mem_cons_of_mem _ (List.mem_cons_of_mem _ (List.mem_cons_of_mem _ (List.mem_append_right _ (List.mem_cons_of_mem _ (hG _ (mem_gobjs hgm)))))))
    have hgz : (vals g.ps).toArray.size ≤ sizeLine := by rw [List.size_toArray, List.length_map]; exact Nat.le_trans (hGz g hgm) (by decide)
    (repeat' ((fail_if_success (with_reducible first | (refine at1 ?_ ?_; constructor) )); (first | (k_unfold; (try dsimp only)) | (k_end; wrow_close) | ((with_reducible first | refine' h_items ?N ?m ?d ?_ | refine' h_values ?N ?m ?d ?_ | refine' h_mget ?N ?m ?d ?_); (case N => k_asm); (case m => k_mem); (case d => k_asm); k_whole) | (ks_star; (with_reducible show wpAny _ _ (eval (Expr.Call (Expr.Attribute _ _ _) _ [] _) _) _ _ _); refine methodCall_star ?_) | (ks_star; (with_reducible show wpAny _ _ (callWith _ (Value.ref _) _ _ _) _ _ _); (with_reducible rename News _ _ _ _ => nN'); k_dflt (first | refine' callWith_MS ?k0 (methIn nN' ?k1) ?k2 ?_ | refine' callWith_MS2 ?k0 (methIn nN' ?k1) ?k2 ?_); (case k0 => k_asm); (case k1 => k_mem); (case k2 => k_is)) | ((with_reducible show StarOf _ _ _ (Value.ref _) _ _); k_dflt (refine' star_seq ?k1 ?k2 ?m ?c ?d ?T ?e ?z ?_; (case k1 => k_asm); (case k2 => k_asm); (case m => k_mem); (case c => exact rfl); (case d => exact rfl); (case T => exact .inl rfl); (case e => exact rfl); (case z => assumption); k_whole); intro _ _ _; (try k_sweep); try dsimp only [List.nil_append, List.cons_append]) | walk1 | (dsimp only; walk1) | (leave1; walk_say "STEP leave1"; try dsimp only) | fail "no step")))
    rename Fr _ _ _ _ => F5
    rename News _ _ _ _ => N5
    rw [List.append_nil]
    refine call_meth N5 (.head _) ?_
    have hb2 : BA (100 * i) (absN nodes2) := by rw [ha4]; exact BA.graph hGz i
    have hi : i < G.length := (List.getElem?_eq_some_iff.mp hg).1
    have hgz2 := hGz g hgm
    refine c_add (np := 0) (nf := 0) (tp := tp) (tf := tf) (od := od2) (nodes := nodes2) (rest := (I, io) :: (gd, go) :: rest) ⟨_, _, _, _, _, _, _, _, _, B', X', T', rfl, rfl, rfl, rfl, rfl, by show dep + 1 + 5 * 4 < 900; omega, by show un + 3 + 50 * 4 < 9000; omega⟩ F5
      (News.sub N5 fun p hp => .tail _ (SL_in p hp)) (K4.moreOff hI) (by omega) (by omega) hb2 (by omega) fun h6 t6 od6 nodes6 F6 N6 K6 ha6 hl6 => ?_
    clear N5 F5
    dsimp only
    (repeat' ((fail_if_success (with_reducible first | (refine at1 ?_ ?_; constructor) )); (first | (k_unfold; (try dsimp only)) | (k_end; wrow_close) | ((with_reducible first | refine' h_items ?N ?m ?d ?_ | refine' h_values ?N ?m ?d ?_ | refine' h_mget ?N ?m ?d ?_); (case N => k_asm); (case m => k_mem); (case d => k_asm); k_whole) | (ks_star; (with_reducible show wpAny _ _ (eval (Expr.Call (Expr.Attribute _ _ _) _ [] _) _) _ _ _); refine methodCall_star ?_) | (ks_star; (with_reducible show wpAny _ _ (callWith _ (Value.ref _) _ _ _) _ _ _); (with_reducible rename News _ _ _ _ => nN'); k_dflt (first | refine' callWith_MS ?k0 (methIn nN' ?k1) ?k2 ?_ | refine' callWith_MS2 ?k0 (methIn nN' ?k1) ?k2 ?_); (case k0 => k_asm); (case k1 => k_mem); (case k2 => k_is)) | ((with_reducible show StarOf _ _ _ (Value.ref _) _ _); k_dflt (refine' star_seq ?k1 ?k2 ?m ?c ?d ?T ?e ?z ?_; (case k1 => k_asm); (case k2 => k_asm); (case m => k_mem); (case c => exact rfl); (case d => exact rfl); (case T => exact .inl rfl); (case e => exact rfl); (case z => assumption); k_whole); intro _ _ _; (try k_sweep); try dsimp only [List.nil_append, List.cons_append]) | walk1 | (dsimp only; walk1) | (leave1; walk_say "STEP leave1"; try dsimp only) | fail "no step")))
    rename Fr _ _ _ _ => F7
    rename News _ _ _ _ => N7
    refine hQt _ _ (TurnP.next F7 N7 SL_out K6.off ⟨Same.put' (Same.put' same_of_mm), od6, _, K6.less, ?_, ?_⟩)
    · rw [ha6, ha4, List.take_add_one, hg]
      simp
    · omega
  case done =>
    rintro mu nx h4 t4 ⟨od2, nodes2, K4, ha4, hl4⟩ F4 N4
    (repeat' ((fail_if_success (with_reducible first | (refine at1 ?_ ?_; constructor) )); (first | (k_unfold; (try dsimp only)) | (k_end; wrow_close) | ((with_reducible first | refine' h_items ?N ?m ?d ?_ | refine' h_values ?N ?m ?d ?_ | refine' h_mget ?N ?m ?d ?_); (case N => k_asm); (case m => k_mem); (case d => k_asm); k_whole) | (ks_star; (with_reducible show wpAny _ _ (eval (Expr.Call (Expr.Attribute _ _ _) _ [] _) _) _ _ _); refine methodCall_star ?_) | (ks_star; (with_reducible show wpAny _ _ (callWith _ (Value.ref _) _ _ _) _ _ _); (with_reducible rename News _ _ _ _ => nN'); k_dflt (first | refine' callWith_MS ?k0 (methIn nN' ?k1) ?k2 ?_ | refine' callWith_MS2 ?k0 (methIn nN' ?k1) ?k2 ?_); (case k0 => k_asm); (case k1 => k_mem); (case k2 => k_is)) | ((with_reducible show StarOf _ _ _ (Value.ref _) _ _); k_dflt (refine' star_seq ?k1 ?k2 ?m ?c ?d ?T ?e ?z ?_; (case k1 => k_asm); (case k2 => k_asm); (case m => k_mem); (case c => exact rfl); (case d => exact rfl); (case T => exact .inl rfl); (case e => exact rfl); (case z => assumption); k_whole); intro _ _ _; (try k_sweep); try dsimp only [List.nil_append, List.cons_append]) | walk1 | (dsimp only; walk1) | (leave1; walk_say "STEP leave1"; try dsimp only) | fail "no step")))
    refine hQf _ _ ?_
    try dsimp only
    (repeat' ((fail_if_success (with_reducible first | (refine at1 ?_ ?_; constructor) )); (first | (k_unfold; (try dsimp only)) | (k_end; wrow_close) | ((with_reducible first | refine' h_items ?N ?m ?d ?_ | refine' h_values ?N ?m ?d ?_ | refine' h_mget ?N ?m ?d ?_); (case N => k_asm); (case m => k_mem); (case d => k_asm); k_whole) | (ks_star; (with_reducible show wpAny _ _ (eval (Expr.Call (Expr.Attribute _ _ _) _ [] _) _) _ _ _); refine methodCall_star ?_) | (ks_star; (with_reducible show wpAny _ _ (callWith _ (Value.ref _) _ _ _) _ _ _); (with_reducible rename News _ _ _ _ => nN'); k_dflt (first | refine' callWith_MS ?k0 (methIn nN' ?k1) ?k2 ?_ | refine' callWith_MS2 ?k0 (methIn nN' ?k1) ?k2 ?_); (case k0 => k_asm); (case k1 => k_mem); (case k2 => k_is)) | ((with_reducible show StarOf _ _ _ (Value.ref _) _ _); k_dflt (refine' star_seq ?k1 ?k2 ?m ?c ?d ?T ?e ?z ?_; (case k1 => k_asm); (case k2 => k_asm); (case m => k_mem); (case c => exact rfl); (case d => exact rfl); (case T => exact .inl rfl); (case e => exact rfl); (case z => assumption); k_whole); intro _ _ _; (try k_sweep); try dsimp only [List.nil_append, List.cons_append]) | walk1 | (dsimp only; walk1) | (leave1; walk_say "STEP leave1"; try dsimp only) | fail "no step")))
    rename Fr _ _ _ _ => F7
    rename News _ _ _ _ => N7
    refine h _ _ c od2 nodes2 tp tf F7 N7 K4 rfl rfl ?_
    rw [ha4, List.take_of_length_le (by simp [gkvs])]
end
/-! part B6 -/
set_option maxHeartbeats 1000000
set_option maxHeartbeats 8000000
section
variable {w : World} {A : Around} {h₀ : Heap} {L : Addr} {m : Str → Option Value} {s : Shared} {rest : List (Addr × Obj)} {c : Sx} {tp tf : Nat} {np nf : Int} {od : Obj} {nodes : List Nd} {ra : Addr} {rs : List (Int × Tok)} {rn : Nat} {R : Result → Shared → Prop}
theorem fit_of {rs : List (Int × Tok)} (hr : rs.length ≤ 10000) : (((vals rs).toArray.size : Nat) : Int) < 2 ^ 63 := by rw [List.size_toArray, List.length_map]; omega
theorem c_is_active (C : Cx 3 w A h₀ L) (F : Fr h₀ L s.heap m) (N : News h₀ L s.heap (SL w c (.ref ra) np nf tp tf od (NN nodes ++ (ra, listOf (vals rs).toArray rn) :: rest))) (hr : rs.length ≤ 10000)
   (h : ∀ h' t', Fr h₀ L h' m → News h₀ L h' (SL w c (.ref ra) np nf tp tf od (NN nodes ++ (ra, listOf (vals rs).toArray rn) :: rest)) → R (.ok (.ret (.bool (decide (nf < np) || decide (rs ≠ []))))) { s with heap := h', toks := t' })
   : codeAny (model PR w) A (.call (.ref 106) ⟨[.ref c.sx], []⟩) R s := by
  have hfit := fit_of hr
  obtain ⟨A₀, base, outer, env, p, loose, mean, mg, mb, B, X₀, T, hA, hf, hke, hh, hgu, hdep, hun⟩ := C
  obtain ⟨hd', dep, fr, gu, un⟩ := A
  dsimp only at hA hh hgu hdep hun
  subst hA hh hgu
  ((refine' code_def (by k_asm) (by k_asm) (by k_asm) (by k_asm) (by k_asm) rfl (by first | exact rfl | k_asm) (by first | exact rfl | k_asm) ?k6 ?k7 ?k8 ?k9 ?kB ?_ ?c2 ?c3 ?c4 ?c5; (case k6 => k_is); (case k7 => k_is); (case k8 => k_room); (case k9 => exact BindsTo.of_eq rfl); (case c5 => decide); (case kB => exact locs rfl); (case c2 => exact rfl); (case c3 => exact rfl); (case c4 => exact rfl); intro _ _ _ _ _ _ _ _ _; (try dsimp only); (try k_fold)))
  refine abs_post fun Qf hQf => ?_
  (repeat' ((fail_if_success (with_reducible first | (refine at1 ?_ ?_; constructor) )); (first | (k_unfold; (try dsimp only)) | (k_end; wrow_close) | ((with_reducible show wpAny _ _ (call (Value.type "bool") [Value.ref _]) _ _ _); k_dflt (refine call_bool_list (News.isList (by k_asm) (by k_mem)) (by assumption) ?_; k_whole)) | ((with_reducible show wpAny _ _ (subscriptTail _ _ (Value.ref _) (Value.int _ _)) _ _ _); first | k_dflt (refine h_item (by k_asm) (by k_mem) (by k_asm) (by assumption) ?_; k_whole) | k_dflt (refine h_tail (by k_asm) (by k_mem) (by k_asm) ?_; k_whole)) | ((with_reducible show wpAny _ _ (call (Value.builtin "len") [Value.ref _]) _ _ _); k_dflt (refine h_len (by k_asm) (by k_mem) (by assumption) ?_; k_whole); (try simp only [List.size_toArray, List.length_map])) | walk1 | (dsimp only; walk1) | (leave1; walk_say "STEP leave1"; try dsimp only) | fail "no step")))
  · refine hQf _ _ ?_
    dsimp only
    (repeat' ((fail_if_success (with_reducible first | (refine at1 ?_ ?_; constructor) )); (first | (k_unfold; (try dsimp only)) | (k_end; wrow_close) | ((with_reducible show wpAny _ _ (call (Value.type "bool") [Value.ref _]) _ _ _); k_dflt (refine call_bool_list (News.isList (by k_asm) (by k_mem)) (by assumption) ?_; k_whole)) | ((with_reducible show wpAny _ _ (subscriptTail _ _ (Value.ref _) (Value.int _ _)) _ _ _); first | k_dflt (refine h_item (by k_asm) (by k_mem) (by k_asm) (by assumption) ?_; k_whole) | k_dflt (refine h_tail (by k_asm) (by k_mem) (by k_asm) ?_; k_whole)) | ((with_reducible show wpAny _ _ (call (Value.builtin "len") [Value.ref _]) _ _ _); k_dflt (refine h_len (by k_asm) (by k_mem) (by assumption) ?_; k_whole); (try simp only [List.size_toArray, List.length_map])) | walk1 | (dsimp only; walk1) | (leave1; walk_say "STEP leave1"; try dsimp only) | fail "no step")))
    rename Fr _ _ _ _ => F7
    rename News _ _ _ _ => N7
    have e : nf < np := by assumption
    simpa [e] using h _ _ F7 N7
  · refine hQf _ _ ?_
    dsimp only
    (repeat' ((fail_if_success (with_reducible first | (refine at1 ?_ ?_; constructor) )); (first | (k_unfold; (try dsimp only)) | (k_end; wrow_close) | ((with_reducible show wpAny _ _ (call (Value.type "bool") [Value.ref _]) _ _ _); k_dflt (refine call_bool_list (News.isList (by k_asm) (by k_mem)) (by assumption) ?_; k_whole)) | ((with_reducible show wpAny _ _ (subscriptTail _ _ (Value.ref _) (Value.int _ _)) _ _ _); first | k_dflt (refine h_item (by k_asm) (by k_mem) (by k_asm) (by assumption) ?_; k_whole) | k_dflt (refine h_tail (by k_asm) (by k_mem) (by k_asm) ?_; k_whole)) | ((with_reducible show wpAny _ _ (call (Value.builtin "len") [Value.ref _]) _ _ _); k_dflt (refine h_len (by k_asm) (by k_mem) (by assumption) ?_; k_whole); (try simp only [List.size_toArray, List.length_map])) | walk1 | (dsimp only; walk1) | (leave1; walk_say "STEP leave1"; try dsimp only) | fail "no step")))
    rename Fr _ _ _ _ => F7
    rename News _ _ _ _ => N7
    have e : ¬ nf < np := by assumption
    have e2 : (!(vals rs).toArray.isEmpty) = (decide (nf < np) || decide (rs ≠ [])) := by
      rw [decide_eq_false e, Bool.false_or]
      cases rs <;> simp
    rw [e2]
    exact h _ _ F7 N7
def outA (ks : List Int) (l : List (Int × Int × List Int)) : List (Int × Int × List Int) := ks.foldl (fun l k => modA k (fun x => (-1, x.2)) l) l
/-- the nodes but for their counts -/
def Nd.bare (nd : Nd) : Nd := { nd with np := 0, tn := 0 }
def sk (l : List Nd) : List Nd := l.map Nd.bare
theorem sk_setNp (a : Addr) (v : Int) (t : Tok) (l : List Nd) : sk (modN a (setNp v t) l) = sk l := by
  unfold sk modN
  rw [List.map_map]
  apply List.map_congr_left
  intro x _
  simp only [Function.comp_apply]
  split <;> rfl
theorem mem_sk {l l2 : List Nd} (h : sk l2 = sk l) {nd : Nd} (hm : nd ∈ l) : ∃ nd2 ∈ l2, nd2.bare = nd.bare := by
  have : nd.bare ∈ sk l2 := h ▸ List.mem_map_of_mem hm
  obtain ⟨x, hx, e⟩ := List.mem_map.mp this
  exact ⟨x, hx, e⟩
theorem mem_suc_sk {l l2 : List Nd} (h : sk l2 = sk l) {nd : Nd} (hm : nd ∈ l) : (nd.sa, listOf (vals nd.si).toArray nd.ep) ∈ NN l2 := by
  obtain ⟨x, hx, e⟩ := mem_sk h hm
  have e1 : x.sa = nd.sa := (congrArg Nd.sa e : x.bare.sa = nd.bare.sa)
  have e2 : x.si = nd.si := (congrArg Nd.si e : x.bare.si = nd.bare.si)
  have e3 : x.ep = nd.ep := (congrArg Nd.ep e : x.bare.ep = nd.bare.ep)
  rw [← e1, ← e2, ← e3]
  exact mem_suc hx
theorem sk_keys {l l2 : List Nd} (h : sk l2 = sk l) : l2.map (·.k) = l.map (·.k) := by
  have e : ∀ l : List Nd, l.map (·.k) = (sk l).map (·.k) := fun l => by unfold sk; rw [List.map_map]; rfl
  rw [e, h, ← e]
theorem key_node {l : List Nd} {k : Int} (h : k ∈ l.map (·.k)) : ∃ nd ∈ l, nd.k = k := by
  obtain ⟨x, hx, e⟩ := List.mem_map.mp h
  exact ⟨x, hx, e⟩
inductive JR (w : World) (c : Sx) (r : Value) (np nf : Int) (tp tf : Nat) (od : Obj) (R : List (Addr × Obj)) (skn : List Nd) (f : List (Int × Int × List Int)) : List (Addr × Obj) → Prop
  | mk (nodes : List Nd) (K : SOK w c od nodes R) (s : sk nodes = skn) (a : absN nodes = f) : JR w c r np nf tp tf od R skn f (SL w c r np nf tp tf od (NN nodes ++ R))
inductive JD (w : World) (c : Sx) (ra : Addr) (np nf : Int) (tp : Nat) (od : Obj) (R : List (Addr × Obj)) (skn : List Nd) (f : List (Int × Int × List Int) × List Int) (b : Nat) : List (Addr × Obj) → Prop
  | mk (nodes : List Nd) (rs : List (Int × Tok)) (rn tf : Nat) (K : SOK w c od nodes ((ra, listOf (vals rs).toArray rn) :: R)) (s : sk nodes = skn) (a : (absN nodes, rs.map (·.1)) = f) (l : rs.length ≤ b) : JD w c ra np nf tp od R skn f b (SL w c (.ref ra) np nf tp tf od (NN nodes ++ (ra, listOf (vals rs).toArray rn) :: R))
theorem c_get_ready (C : Cx 3 w A h₀ L) (F : Fr h₀ L s.heap m) (N : News h₀ L s.heap (SL w c (.ref ra) np nf tp tf od (NN nodes ++ (ra, listOf (vals rs).toArray rn) :: rest))) (K : SOK w c od nodes ((ra, listOf (vals rs).toArray rn) :: rest)) (hr : rs.length ≤ 10000)
   (hk : ∀ p ∈ rs, p.1 ∈ nodes.map (·.k))
   (h : ∀ h' t' nodes' T tp' rn', Fr h₀ L h' m → News h₀ L h' ((T, ({ cls := .type "tuple", data := .seq (vals rs).toArray } : Obj)) :: SL w c (.ref ra) (np + rs.length) nf tp' tf od (NN nodes' ++ (ra, listOf #[] rn') :: rest)) → SOK w c od nodes' ((ra, listOf #[] rn') :: rest) →
     (∀ p ∈ SL w c (.ref ra) np nf tp tf od (NN nodes ++ (ra, listOf (vals rs).toArray rn) :: rest), p.1 < T) → sk nodes' = sk nodes → absN nodes' = outA (rs.map (·.1)) (absN nodes) → R (.ok (.ret (.ref T))) { s with heap := h', toks := t' })
   : codeAny (model PR w) A (.call (.ref 99) ⟨[.ref c.sx], []⟩) R s := by
  have hfit := fit_of hr
  have hsz : (vals rs).toArray.size ≤ 16384 := by rw [List.size_toArray, List.length_map]; omega
  have hsz2 : (vals rs).toArray.size ≤ sizeLine := Nat.le_trans hsz (by decide)
  have hdo := K.dict
  obtain ⟨A₀, base, outer, env, p, loose, mean, mg, mb, B, X₀, T, hA, hf, hke, hh, hgu, hdep, hun⟩ := C
  obtain ⟨hd', dep, fr, gu, un⟩ := A
  dsimp only at hA hh hgu hdep hun
  subst hA hh hgu
  ((refine' code_def (by k_asm) (by k_asm) (by k_asm) (by k_asm) (by k_asm) rfl (by first | exact rfl | k_asm) (by first | exact rfl | k_asm) ?k6 ?k7 ?k8 ?k9 ?kB ?_ ?c2 ?c3 ?c4 ?c5; (case k6 => k_is); (case k7 => k_is); (case k8 => k_room); (case k9 => exact BindsTo.of_eq rfl); (case c5 => decide); (case kB => exact locs rfl); (case c2 => exact rfl); (case c3 => exact rfl); (case c4 => exact rfl); intro _ _ _ _ _ _ _ _ _; (try dsimp only); (try k_fold)))
  refine wpAny_noRaise ?_
  refine abs_post fun Qf hQf => ?_
  (repeat' ((fail_if_success (with_reducible first | (refine at1 ?_ ?_; constructor) )); (first | (k_unfold; (try dsimp only)) | (k_end; wrow_close) | ((with_reducible show wpAny _ _ (call (Value.type "bool") [Value.ref _]) _ _ _); k_dflt (refine call_bool_list (News.isList (by k_asm) (by k_mem)) (by assumption) ?_; k_whole)) | ((with_reducible show wpAny _ _ (subscriptTail _ _ (Value.ref _) (Value.int _ _)) _ _ _); first | k_dflt (refine h_item (by k_asm) (by k_mem) (by k_asm) (by assumption) ?_; k_whole) | k_dflt (refine h_tail (by k_asm) (by k_mem) (by k_asm) ?_; k_whole)) | ((with_reducible show wpAny _ _ (call (Value.builtin "len") [Value.ref _]) _ _ _); k_dflt (refine h_len (by k_asm) (by k_mem) (by assumption) ?_; k_whole); (try simp only [List.size_toArray, List.length_map])) | walk1 | (dsimp only; walk1) | (leave1; walk_say "STEP leave1"; try dsimp only) | fail "no step")))
  rename Fr _ _ _ _ => F1
  rename News _ _ _ _ => N1
  refine kde_tupleOf F1 N1 (News.isList N1 (by k_mem)) hsz List.toList_toArray fun T h1 F2 N2 lT => ?_
  clear N1 F1
  have K2 := K.moreOff (o := ({ cls := .type "tuple", data := .seq (vals rs).toArray } : Obj)) fun p hp => Nat.ne_of_lt (lT p hp)
  (repeat' ((fail_if_success (with_reducible first | (refine at1 ?_ ?_; constructor) )); (first | (k_unfold; (try dsimp only)) | (k_end; wrow_close) | ((with_reducible show wpAny _ _ (call (Value.type "bool") [Value.ref _]) _ _ _); k_dflt (refine call_bool_list (News.isList (by k_asm) (by k_mem)) (by assumption) ?_; k_whole)) | ((with_reducible show wpAny _ _ (subscriptTail _ _ (Value.ref _) (Value.int _ _)) _ _ _); first | k_dflt (refine h_item (by k_asm) (by k_mem) (by k_asm) (by assumption) ?_; k_whole) | k_dflt (refine h_tail (by k_asm) (by k_mem) (by k_asm) ?_; k_whole)) | ((with_reducible show wpAny _ _ (call (Value.builtin "len") [Value.ref _]) _ _ _); k_dflt (refine h_len (by k_asm) (by k_mem) (by assumption) ?_; k_whole); (try simp only [List.size_toArray, List.length_map])) | walk1 | (dsimp only; walk1) | (leave1; walk_say "STEP leave1"; try dsimp only) | fail "no step")))
  rename Fr _ _ _ _ => F1
  rename News _ _ _ _ => N1
  refine for_rule ?_
  (repeat' ((fail_if_success (with_reducible first | (refine at1 ?_ ?_; constructor) )); (first | (k_unfold; (try dsimp only)) | (k_end; wrow_close) | ((with_reducible show wpAny _ _ (call (Value.type "bool") [Value.ref _]) _ _ _); k_dflt (refine call_bool_list (News.isList (by k_asm) (by k_mem)) (by assumption) ?_; k_whole)) | ((with_reducible show wpAny _ _ (subscriptTail _ _ (Value.ref _) (Value.int _ _)) _ _ _); first | k_dflt (refine h_item (by k_asm) (by k_mem) (by k_asm) (by assumption) ?_; k_whole) | k_dflt (refine h_tail (by k_asm) (by k_mem) (by k_asm) ?_; k_whole)) | ((with_reducible show wpAny _ _ (call (Value.builtin "len") [Value.ref _]) _ _ _); k_dflt (refine h_len (by k_asm) (by k_mem) (by assumption) ?_; k_whole); (try simp only [List.size_toArray, List.length_map])) | walk1 | (dsimp only; walk1) | (leave1; walk_say "STEP leave1"; try dsimp only) | fail "no step")))
  refine iter_tuple (vs := vals rs) (n := 0) (news := SL w c (.ref ra) np nf tp tf od (NN nodes ++ (T, ({ cls := .type "tuple", data := .seq (vals rs).toArray } : Obj)) :: (ra, listOf (vals rs).toArray rn) :: rest)) [Str.ofString "node"]
    (fun i m nx => JR w c (.ref ra) np nf tp tf od ((T, ({ cls := .type "tuple", data := .seq (vals rs).toArray } : Obj)) :: (ra, listOf (vals rs).toArray rn) :: rest) (sk nodes) (outA ((rs.map (·.1)).take i) (absN nodes)) nx)
    rfl (by k_mem) (by rintro i m nx ⟨nodes2, _, _, _⟩; k_mem) (fun _ _ => rfl) F1 (News.sub N1 SL_in) ⟨nodes, K2, rfl, rfl⟩ ?turn ?done
  case turn =>
    rintro i v mu nx h4 t4 I io Qt hQt hv ⟨nodes2, K4, hs4, ha4⟩ hI hIlt F4 N4
    obtain ⟨p4, hp4, rfl⟩ := vals_get hv
    obtain ⟨nd, hm, hkk⟩ := key_node (l := nodes2) (k := p4.1) (by rw [sk_keys hs4]; exact hk p4 (List.mem_of_getElem? hp4))
    have hval := valueAt_some K4.keys hm
    rw [hkk] at hval
    have hdo4 := K4.dict
    have hIa : I ≠ nd.a := fun e => hI _ (List.mem_cons_of_mem _ (List.mem_cons_of_mem _ (List.mem_cons_of_mem _ (List.mem_append_left _ (mem_obj hm))))) e.symm
    (repeat' ((fail_if_success (with_reducible first | (refine at1 ?_ ?_; constructor) )); (first | (k_unfold; (try dsimp only)) | (k_end; wrow_close) | ((with_reducible show wpAny _ _ (call (Value.type "bool") [Value.ref _]) _ _ _); k_dflt (refine call_bool_list (News.isList (by k_asm) (by k_mem)) (by assumption) ?_; k_whole)) | ((with_reducible show wpAny _ _ (subscriptTail _ _ (Value.ref _) (Value.int _ _)) _ _ _); first | k_dflt (refine h_item (by k_asm) (by k_mem) (by k_asm) (by assumption) ?_; k_whole) | k_dflt (refine h_tail (by k_asm) (by k_mem) (by k_asm) ?_; k_whole)) | ((with_reducible show wpAny _ _ (call (Value.builtin "len") [Value.ref _]) _ _ _); k_dflt (refine h_len (by k_asm) (by k_mem) (by assumption) ?_; k_whole); (try simp only [List.size_toArray, List.length_map])) | walk1 | (dsimp only; walk1) | (leave1; walk_say "STEP leave1"; try dsimp only) | fail "no step")))
    rename Fr _ _ _ _ => F7
    rename News _ _ _ _ => N7
    refine hQt _ _ (TurnP.next F7 N7 (fun p hp => hp) ((K4.moreOff (o := io) hI).setNp _ _ _).off ⟨Same.put' same_of_mm, _, K4.setNp _ _ _, ?_, ?_⟩)
    · rw [sk_setNp]; exact hs4
    · rw [abs_modN (g := fun x => (-1, x.2)) K4.keys K4.facts.n.left hm (by simp [setNp]), hkk, ha4, List.take_add_one, List.getElem?_map, hp4]
      simp [outA]
  case done =>
    rintro mu nx h4 t4 ⟨nodes2, K4, hs4, ha4⟩ F4 N4
    have K5 := K4.perm (List.Perm.swap _ _ _)
    (repeat' ((fail_if_success (with_reducible first | (refine at1 ?_ ?_; constructor) )); (first | (k_unfold; (try dsimp only)) | (k_end; wrow_close) | ((with_reducible show wpAny _ _ (call (Value.type "bool") [Value.ref _]) _ _ _); k_dflt (refine call_bool_list (News.isList (by k_asm) (by k_mem)) (by assumption) ?_; k_whole)) | ((with_reducible show wpAny _ _ (subscriptTail _ _ (Value.ref _) (Value.int _ _)) _ _ _); first | k_dflt (refine h_item (by k_asm) (by k_mem) (by k_asm) (by assumption) ?_; k_whole) | k_dflt (refine h_tail (by k_asm) (by k_mem) (by k_asm) ?_; k_whole)) | ((with_reducible show wpAny _ _ (call (Value.builtin "len") [Value.ref _]) _ _ _); k_dflt (refine h_len (by k_asm) (by k_mem) (by assumption) ?_; k_whole); (try simp only [List.size_toArray, List.length_map])) | walk1 | (dsimp only; walk1) | (leave1; walk_say "STEP leave1"; try dsimp only) | fail "no step")))
    rename Fr _ _ _ _ => F5
    rename News _ _ _ _ => N5
    refine clear_K F5 (News.sub N5 (n2 := SL w c (.ref ra) np nf tp tf od (NN nodes2 ++ (ra, listOf (vals rs).toArray rn) :: (T, ({ cls := .type "tuple", data := .seq (vals rs).toArray } : Obj)) :: rest)) ?_) K5.updF hsz2 fun h6 n6 F6 N6 => ?_
    · intro p hp
      exact SL_swap p hp
    clear N5 F5
    have K6 := K5.setRest (o' := listOf #[] n6)
    obtain ⟨h12, h13, h23, o1, o2, o3, n⟩ := K6.facts
    (try dsimp only at N6)
    (repeat' ((fail_if_success (with_reducible first | (refine at1 ?_ ?_; constructor) )); (first | (k_unfold; (try dsimp only)) | (k_end; wrow_close) | ((with_reducible show wpAny _ _ (call (Value.type "bool") [Value.ref _]) _ _ _); k_dflt (refine call_bool_list (News.isList (by k_asm) (by k_mem)) (by assumption) ?_; k_whole)) | ((with_reducible show wpAny _ _ (subscriptTail _ _ (Value.ref _) (Value.int _ _)) _ _ _); first | k_dflt (refine h_item (by k_asm) (by k_mem) (by k_asm) (by assumption) ?_; k_whole) | k_dflt (refine h_tail (by k_asm) (by k_mem) (by k_asm) ?_; k_whole)) | ((with_reducible show wpAny _ _ (call (Value.builtin "len") [Value.ref _]) _ _ _); k_dflt (refine h_len (by k_asm) (by k_mem) (by assumption) ?_; k_whole); (try simp only [List.size_toArray, List.length_map])) | walk1 | (dsimp only; walk1) | (leave1; walk_say "STEP leave1"; try dsimp only) | fail "no step")))
    refine hQf _ _ ?_
    try dsimp only
    (repeat' ((fail_if_success (with_reducible first | (refine at1 ?_ ?_; constructor) )); (first | (k_unfold; (try dsimp only)) | (k_end; wrow_close) | ((with_reducible show wpAny _ _ (call (Value.type "bool") [Value.ref _]) _ _ _); k_dflt (refine call_bool_list (News.isList (by k_asm) (by k_mem)) (by assumption) ?_; k_whole)) | ((with_reducible show wpAny _ _ (subscriptTail _ _ (Value.ref _) (Value.int _ _)) _ _ _); first | k_dflt (refine h_item (by k_asm) (by k_mem) (by k_asm) (by assumption) ?_; k_whole) | k_dflt (refine h_tail (by k_asm) (by k_mem) (by k_asm) ?_; k_whole)) | ((with_reducible show wpAny _ _ (call (Value.builtin "len") [Value.ref _]) _ _ _); k_dflt (refine h_len (by k_asm) (by k_mem) (by assumption) ?_; k_whole); (try simp only [List.size_toArray, List.length_map])) | walk1 | (dsimp only; walk1) | (leave1; walk_say "STEP leave1"; try dsimp only) | fail "no step")))
    rename Fr _ _ _ _ => F7
    rename News _ _ _ _ => N7
    refine h _ _ nodes2 T _ n6 F7 (News.sub (n1 := SL w c (.ref ra) (np + rs.length) nf _ tf od (NN nodes2 ++ (ra, listOf #[] n6) :: (T, ({ cls := .type "tuple", data := .seq (vals rs).toArray } : Obj)) :: rest)) N7 SL_out2) (K6.perm (List.Perm.swap _ _ _)).less lT hs4 ?_
    rw [ha4, List.take_of_length_le (by simp)]
end
/-! part B7 -/
set_option maxHeartbeats 1000000
set_option maxHeartbeats 8000000
/-- the count of a key -/
def npA (l : List (Int × Int × List Int)) (k : Int) : Int := ((l.find? fun x => x.1 = k).map fun x => x.2.1).getD 0
def sucA (l : List (Int × Int × List Int)) (k : Int) : List Int := ((l.find? fun x => x.1 = k).map fun x => x.2.2).getD []
def doneStep (st : List (Int × Int × List Int) × List Int) (k : Int) : List (Int × Int × List Int) × List Int :=
  (modA k (fun x => (x.1 - 1, x.2)) st.1, if npA st.1 k - 1 = 0 then st.2 ++ [k] else st.2)
def doneA (st : List (Int × Int × List Int) × List Int) (k : Int) : List (Int × Int × List Int) × List Int :=
  (sucA st.1 k).foldl doneStep (modA k (fun x => (-2, x.2)) st.1, st.2)
theorem find_abs {l : List Nd} {nd : Nd} (hk : (l.map (·.k)).Nodup) (hm : nd ∈ l) : (absN l).find? (fun x => x.1 = nd.k) = some (nd.k, nd.np, nd.si.map (·.1)) := by
  unfold absN
  rw [List.find?_map]
  induction l with
  | nil => cases hm
  | cons x l ih =>
    rw [List.map_cons, List.nodup_cons] at hk
    rw [List.find?_cons]
    rcases List.mem_cons.mp hm with rfl | hm
    · simp
    · have hne : x.k ≠ nd.k := fun e => hk.1 (List.mem_map.mpr ⟨nd, hm, e.symm⟩)
      simp only [Function.comp_apply, hne, decide_false]
      exact ih hk.2 hm
theorem npA_abs {l : List Nd} {nd : Nd} (hk : (l.map (·.k)).Nodup) (hm : nd ∈ l) : npA (absN l) nd.k = nd.np := by unfold npA; rw [find_abs hk hm]; rfl
theorem sucA_abs {l : List Nd} {nd : Nd} (hk : (l.map (·.k)).Nodup) (hm : nd ∈ l) : sucA (absN l) nd.k = nd.si.map (·.1) := by unfold sucA; rw [find_abs hk hm]; rfl
section
variable {w : World} {A : Around} {h₀ : Heap} {L : Addr} {m : Str → Option Value} {s : Shared} {rest : List (Addr × Obj)} {c : Sx} {tp tf : Nat} {np nf : Int} {od : Obj} {nodes : List Nd} {ra : Addr} {rs ds : List (Int × Tok)} {rn : Nat} {R : Result → Shared → Prop}
theorem c_done (C : Cx 3 w A h₀ L) (F : Fr h₀ L s.heap m) (N : News h₀ L s.heap (SL w c (.ref ra) np nf tp tf od (NN nodes ++ (ra, listOf (vals rs).toArray rn) :: rest))) (K : SOK w c od nodes ((ra, listOf (vals rs).toArray rn) :: rest)) (hr : rs.length ≤ 1000) (hds : ds.length ≤ 20)
   (hk : ∀ p ∈ ds, p.1 ∈ nodes.map (·.k)) (hB : BA 1000 (absN nodes)) (hsuc : ∀ nd ∈ nodes, ∀ p ∈ nd.si, p.1 ∈ nodes.map (·.k))
   (hout : ∀ i d, (ds.map (·.1))[i]? = some d → npA (((ds.map (·.1)).take i).foldl doneA (absN nodes, rs.map (·.1))).1 d = -1)
   (h : ∀ h' t' nodes' rs' rn' tf', Fr h₀ L h' m → News h₀ L h' (SL w c (.ref ra) np (nf + ds.length) tp tf' od (NN nodes' ++ (ra, listOf (vals rs').toArray rn') :: rest)) → SOK w c od nodes' ((ra, listOf (vals rs').toArray rn') :: rest) →
     sk nodes' = sk nodes → (absN nodes', rs'.map (·.1)) = (ds.map (·.1)).foldl doneA (absN nodes, rs.map (·.1)) → rs'.length ≤ 1000 + 1000 * ds.length → R (.ok (.ret .none)) { s with heap := h', toks := t' })
   : codeAny (model PR w) A (.call (.ref 120) ⟨.ref c.sx :: vals ds, []⟩) R s := by
  obtain ⟨A₀, base, outer, env, p, loose, mean, mg, mb, B, X₀, T, hA, hf, hke, hh, hgu, hdep, hun⟩ := C
  obtain ⟨hd', dep, fr, gu, un⟩ := A
  dsimp only at hA hh hgu hdep hun
  subst hA hh hgu
  refine' kp_rest (vs := vals ds) (binds := fun D => [(Str.ofString "self", .ref c.sx), (Str.ofString "nodes", .ref D)]) B F X₀ N T rfl hf hke ?k6 ?k7 ?k8 ?kV ?kP ?kG ?kB ?_ ?c2 ?c3 ?c4 ?c5
  case k6 => k_is
  case k7 => k_is
  case k8 => k_room
  case kV => exact rfl
  case kP => exact peek_rest (fun t => [(Str.ofString "self", .ref c.sx), (Str.ofString "nodes", t)]) (by cases ds <;> rfl) (by rw [List.length_map]; exact Nat.le_trans hds (by decide))
  case kG => exact fun _ => rfl
  case kB => exact fun _ => locs rfl
  case c5 => decide
  case c2 => exact rfl
  case c3 => exact rfl
  case c4 => exact rfl
  intro D g' L' h' l1 FG' F' N' B' X' T'
  have K1 := K.moreOff (o := ({ cls := .type "tuple", data := .seq (vals ds).toArray } : Obj)) fun p hp => Nat.ne_of_lt (l1 p hp)
  have K2 := K1.perm (List.Perm.swap _ _ _)
  (try dsimp only at F')
  (try dsimp only)
  refine wpAny_noRaise ?_
  refine abs_post fun Qf hQf => ?_
  (try k_fold)
  (repeat' ((fail_if_success (with_reducible first | (refine at1 ?_ ?_; constructor) )); (first | (k_unfold; (try dsimp only)) | (k_end; wrow_close) | (k_here; (with_reducible show wpAny _ _ (call (Value.builtin "dict.get") [_, Value.int _ _]) _ _ _); k_dflt (refine h_get (by k_asm) (by k_mem) (by k_asm) (by k_asm) (by k_asm) ?_); (try dsimp only [Option.getD])) | ((with_reducible first | refine' h_items ?N ?m ?d ?_ | refine' h_values ?N ?m ?d ?_ | refine' h_mget ?N ?m ?d ?_); (case N => k_asm); (case m => k_mem); (case d => k_asm); k_whole) | ((with_reducible show wpAny _ _ (subscriptTail _ _ (Value.ref _) (Value.int _ _)) _ _ _); first | k_dflt (refine h_item (by k_asm) (by k_mem) (by k_asm) (by assumption) ?_; k_whole) | k_dflt (refine h_tail (by k_asm) (by k_mem) (by k_asm) ?_; k_whole)) | walk1 | (dsimp only; walk1) | (leave1; walk_say "STEP leave1"; try dsimp only) | fail "no step")))
  rename Fr _ _ _ _ => F1
  rename News _ _ _ _ => N1
  refine for_rule ?_
  (repeat' ((fail_if_success (with_reducible first | (refine at1 ?_ ?_; constructor) )); (first | (k_unfold; (try dsimp only)) | (k_end; wrow_close) | (k_here; (with_reducible show wpAny _ _ (call (Value.builtin "dict.get") [_, Value.int _ _]) _ _ _); k_dflt (refine h_get (by k_asm) (by k_mem) (by k_asm) (by k_asm) (by k_asm) ?_); (try dsimp only [Option.getD])) | ((with_reducible first | refine' h_items ?N ?m ?d ?_ | refine' h_values ?N ?m ?d ?_ | refine' h_mget ?N ?m ?d ?_); (case N => k_asm); (case m => k_mem); (case d => k_asm); k_whole) | ((with_reducible show wpAny _ _ (subscriptTail _ _ (Value.ref _) (Value.int _ _)) _ _ _); first | k_dflt (refine h_item (by k_asm) (by k_mem) (by k_asm) (by assumption) ?_; k_whole) | k_dflt (refine h_tail (by k_asm) (by k_mem) (by k_asm) ?_; k_whole)) | walk1 | (dsimp only; walk1) | (leave1; walk_say "STEP leave1"; try dsimp only) | fail "no step")))
  refine iter_tuple (vs := vals ds) (n := 0) (news := SL w c (.ref ra) np nf tp tf od (NN nodes ++ (ra, listOf (vals rs).toArray rn) :: (D, ({ cls := .type "tuple", data := .seq (vals ds).toArray } : Obj)) :: rest)) [Str.ofString "node", Str.ofString "nodeinfo", Str.ofString "stat", Str.ofString "successor", Str.ofString "successor_info"]
    (fun i m nx => JD w c ra np (nf + i) tp od ((D, ({ cls := .type "tuple", data := .seq (vals ds).toArray } : Obj)) :: rest) (sk nodes) (((ds.map (·.1)).take i).foldl doneA (absN nodes, rs.map (·.1))) (1000 + 1000 * i) nx)
    rfl (by k_mem) (by rintro i m nx ⟨nodes2, rs2, rn2, tf2, _, _, _, _⟩; k_mem) (fun _ _ => rfl) F1 (News.sub N1 SL_in2) (by rw [show nf + ((0 : Nat) : Int) = nf from Int.add_zero nf]; exact ⟨nodes, rs, rn, tf, K2, rfl, rfl, hr⟩) ?turn ?done
  case turn =>
    rintro i v mu nx h4 t4 I io Qt hQt hv ⟨nodes2, rs2, rn2, tf2, K4, hs4, ha4, hr4⟩ hI hIlt F4 N4
    obtain ⟨p4, hp4, rfl⟩ := vals_get hv
    obtain ⟨nd, hm, hkk⟩ := key_node (l := nodes2) (k := p4.1) (by rw [sk_keys hs4]; exact hk p4 (List.mem_of_getElem? hp4))
    have hval := valueAt_some K4.keys hm
    rw [hkk] at hval
    have hdo4 := K4.dict
    have lo4 := K4.lo
    have hIa : I ≠ nd.a := fun e => hI _ (List.mem_cons_of_mem _ (List.mem_cons_of_mem _ (List.mem_cons_of_mem _ (List.mem_append_left _ (mem_obj hm))))) e.symm
    have hnp : nd.np = -1 := by
      have := hout i p4.1 (by rw [List.getElem?_map, hp4]; rfl)
      rw [← ha4, ← hkk, npA_abs K4.keys hm] at this
      exact this
    (repeat' ((fail_if_success (with_reducible first | (refine at1 ?_ ?_; constructor) | show @ite Prop _ _ _ _ )); (first | (k_unfold; (try dsimp only)) | (k_end; wrow_close) | (k_here; (with_reducible show wpAny _ _ (call (Value.builtin "dict.get") [_, Value.int _ _]) _ _ _); k_dflt (refine h_get (by k_asm) (by k_mem) (by k_asm) (by k_asm) (by k_asm) ?_); (try dsimp only [Option.getD])) | ((with_reducible first | refine' h_items ?N ?m ?d ?_ | refine' h_values ?N ?m ?d ?_ | refine' h_mget ?N ?m ?d ?_); (case N => k_asm); (case m => k_mem); (case d => k_asm); k_whole) | ((with_reducible show wpAny _ _ (subscriptTail _ _ (Value.ref _) (Value.int _ _)) _ _ _); first | k_dflt (refine h_item (by k_asm) (by k_mem) (by k_asm) (by assumption) ?_; k_whole) | k_dflt (refine h_tail (by k_asm) (by k_mem) (by k_asm) ?_; k_whole)) | walk1 | (dsimp only; walk1) | (leave1; walk_say "STEP leave1"; try dsimp only) | fail "no step")))
    rw [if_neg (by decide)]
    (repeat' ((fail_if_success (with_reducible first | (refine at1 ?_ ?_; constructor) | show @ite Prop _ _ _ _ )); (first | (k_unfold; (try dsimp only)) | (k_end; wrow_close) | (k_here; (with_reducible show wpAny _ _ (call (Value.builtin "dict.get") [_, Value.int _ _]) _ _ _); k_dflt (refine h_get (by k_asm) (by k_mem) (by k_asm) (by k_asm) (by k_asm) ?_); (try dsimp only [Option.getD])) | ((with_reducible first | refine' h_items ?N ?m ?d ?_ | refine' h_values ?N ?m ?d ?_ | refine' h_mget ?N ?m ?d ?_); (case N => k_asm); (case m => k_mem); (case d => k_asm); k_whole) | ((with_reducible show wpAny _ _ (subscriptTail _ _ (Value.ref _) (Value.int _ _)) _ _ _); first | k_dflt (refine h_item (by k_asm) (by k_mem) (by k_asm) (by assumption) ?_; k_whole) | k_dflt (refine h_tail (by k_asm) (by k_mem) (by k_asm) ?_; k_whole)) | walk1 | (dsimp only; walk1) | (leave1; walk_say "STEP leave1"; try dsimp only) | fail "no step")))
    rw [if_neg (by simp [hnp])]
    (repeat' ((fail_if_success (with_reducible first | (refine at1 ?_ ?_; constructor) | show @ite Prop _ _ _ _ )); (first | (k_unfold; (try dsimp only)) | (k_end; wrow_close) | (k_here; (with_reducible show wpAny _ _ (call (Value.builtin "dict.get") [_, Value.int _ _]) _ _ _); k_dflt (refine h_get (by k_asm) (by k_mem) (by k_asm) (by k_asm) (by k_asm) ?_); (try dsimp only [Option.getD])) | ((with_reducible first | refine' h_items ?N ?m ?d ?_ | refine' h_values ?N ?m ?d ?_ | refine' h_mget ?N ?m ?d ?_); (case N => k_asm); (case m => k_mem); (case d => k_asm); k_whole) | ((with_reducible show wpAny _ _ (subscriptTail _ _ (Value.ref _) (Value.int _ _)) _ _ _); first | k_dflt (refine h_item (by k_asm) (by k_mem) (by k_asm) (by assumption) ?_; k_whole) | k_dflt (refine h_tail (by k_asm) (by k_mem) (by k_asm) ?_; k_whole)) | walk1 | (dsimp only; walk1) | (leave1; walk_say "STEP leave1"; try dsimp only) | fail "no step")))
    have K5 := ((K4.moreOff (o := io) hI).setNp nd.a (-2) 200).perm (List.Perm.swap _ _ _)
    have hsi : ∀ p ∈ nd.si, p.1 ∈ nodes.map (·.k) := by
      obtain ⟨x, hx, e⟩ := mem_sk hs4.symm hm
      have e2 : x.si = nd.si := (congrArg Nd.si e : x.bare.si = nd.bare.si)
      rw [← e2]; exact hsuc x hx
    have hsl : nd.si.length ≤ 1000 := by
      obtain ⟨x, hx, e⟩ := mem_sk hs4.symm hm
      have e2 : x.si = nd.si := (congrArg Nd.si e : x.bare.si = nd.bare.si)
      rw [← e2]; exact hB.of_nodes hx
    have hi20 : i < ds.length := (List.getElem?_eq_some_iff.mp hp4).1
    rename Fr _ _ _ _ => F5
    rename News _ _ _ _ => N5
    refine for_rule ?_
    (repeat' ((fail_if_success (with_reducible first | (refine at1 ?_ ?_; constructor) | show @ite Prop _ _ _ _ )); (first | (k_unfold; (try dsimp only)) | (k_end; wrow_close) | (k_here; (with_reducible show wpAny _ _ (call (Value.builtin "dict.get") [_, Value.int _ _]) _ _ _); k_dflt (refine h_get (by k_asm) (by k_mem) (by k_asm) (by k_asm) (by k_asm) ?_); (try dsimp only [Option.getD])) | ((with_reducible first | refine' h_items ?N ?m ?d ?_ | refine' h_values ?N ?m ?d ?_ | refine' h_mget ?N ?m ?d ?_); (case N => k_asm); (case m => k_mem); (case d => k_asm); k_whole) | ((with_reducible show wpAny _ _ (subscriptTail _ _ (Value.ref _) (Value.int _ _)) _ _ _); first | k_dflt (refine h_item (by k_asm) (by k_mem) (by k_asm) (by assumption) ?_; k_whole) | k_dflt (refine h_tail (by k_asm) (by k_mem) (by k_asm) ?_; k_whole)) | walk1 | (dsimp only; walk1) | (leave1; walk_say "STEP leave1"; try dsimp only) | fail "no step")))
    refine iter_list (vs := vals nd.si) (n := nd.ep) (news := SL w c (.ref ra) np (nf + i) tp tf2 od (NN (modN nd.a (setNp (-2) 200) nodes2) ++ (ra, listOf (vals rs2).toArray rn2) :: (I, io) :: (D, ({ cls := .type "tuple", data := .seq (vals ds).toArray } : Obj)) :: rest)) [Str.ofString "successor", Str.ofString "successor_info"]
      (fun j m nx => JD w c ra np (nf + i) tp od ((I, io) :: (D, ({ cls := .type "tuple", data := .seq (vals ds).toArray } : Obj)) :: rest) (sk nodes2) (((nd.si.map (·.1)).take j).foldl doneStep (modA p4.1 (fun x => (-2, x.2)) (absN nodes2), rs2.map (·.1))) (rs2.length + j) nx)
      rfl ?hl ?hks (fun _ _ => rfl) F5 (News.sub N5 SL_in2) ⟨_, rs2, rn2, tf2, K5, sk_setNp _ _ _ _, ?hj, Nat.le_refl _⟩ ?turn2 ?done2
    case hl => exact List.mem_cons_of_mem _ (List.mem_cons_of_mem _ (List.mem_cons_of_mem _ (List.mem_append_left _ (mem_suc_np hm))))
    case hks =>
      rintro j m nx ⟨nodes3, rs3, rn3, tf3, _, hs, _, _⟩
      exact List.mem_cons_of_mem _ (List.mem_cons_of_mem _ (List.mem_cons_of_mem _ (List.mem_append_left _ (mem_suc_sk hs hm))))
    case hj =>
      rw [List.take_zero, List.foldl_nil, abs_modN (g := fun x => (-2, x.2)) K4.keys K4.facts.n.left hm (by simp [setNp]), hkk]
    case turn2 =>
      rintro j v mu2 nx h5 t5 I2 io2 Qu hQu hv2 ⟨nodes3, rs3, rn3, tf3, K6, hs6, ha6, hr6⟩ hI2 hI2lt F6 N6
      obtain ⟨p6, hp6, rfl⟩ := vals_get hv2
      obtain ⟨nd6, hm6, hk6⟩ := key_node (l := nodes3) (k := p6.1) (by rw [sk_keys hs6, sk_keys hs4]; exact hsi p6 (List.mem_of_getElem? hp6))
      have hval6 := valueAt_some K6.keys hm6
      rw [hk6] at hval6
      have hdo6 := K6.dict
      have hIa6 : I2 ≠ nd6.a := fun e => hI2 _ (List.mem_cons_of_mem _ (List.mem_cons_of_mem _ (List.mem_cons_of_mem _ (List.mem_append_left _ (mem_obj hm6))))) e.symm
      have hIra : I2 ≠ ra := fun e => hI2 (ra, _) (List.mem_cons_of_mem _ (List.mem_cons_of_mem _ (List.mem_cons_of_mem _ (List.mem_append_right _ (.head _))))) e.symm
      have hj : j < nd.si.length := (List.getElem?_eq_some_iff.mp hp6).1
      have hz6 : (vals rs3).toArray.size ≤ sizeLine := by rw [List.size_toArray, List.length_map, sizeLine_eq]; omega
      have fin : ∀ v t, sk (modN nd6.a (setNp v t) nodes3) = sk nodes2 := fun v t => (sk_setNp _ _ _ _).trans hs6
      have habs : ∀ t, absN (modN nd6.a (setNp (nd6.np - 1) t) nodes3) = modA p6.1 (fun x => (x.1 - 1, x.2)) (absN nodes3) := fun t => by
        rw [abs_modN (g := fun x => (x.1 - 1, x.2)) K6.keys K6.facts.n.left hm6 (by simp [setNp]), hk6]
      have hnpA : npA (absN nodes3) p6.1 = nd6.np := by rw [← hk6]; exact npA_abs K6.keys hm6
      have hstep : ((nd.si.map (·.1)).take (j + 1)).foldl doneStep (modA p4.1 (fun x => (-2, x.2)) (absN nodes2), rs2.map (·.1)) = doneStep (absN nodes3, rs3.map (·.1)) p6.1 := by
        rw [List.take_add_one, List.foldl_append, ← ha6, List.getElem?_map, hp6]; rfl
      (repeat' ((fail_if_success (with_reducible first | (refine at1 ?_ ?_; constructor) | show @ite Prop _ _ _ _ )); (first | (k_unfold; (try dsimp only)) | (k_end; wrow_close) | (k_here; (with_reducible show wpAny _ _ (call (Value.builtin "dict.get") [_, Value.int _ _]) _ _ _); k_dflt (refine h_get (by k_asm) (by k_mem) (by k_asm) (by k_asm) (by k_asm) ?_); (try dsimp only [Option.getD])) | ((with_reducible first | refine' h_items ?N ?m ?d ?_ | refine' h_values ?N ?m ?d ?_ | refine' h_mget ?N ?m ?d ?_); (case N => k_asm); (case m => k_mem); (case d => k_asm); k_whole) | ((with_reducible show wpAny _ _ (subscriptTail _ _ (Value.ref _) (Value.int _ _)) _ _ _); first | k_dflt (refine h_item (by k_asm) (by k_mem) (by k_asm) (by assumption) ?_; k_whole) | k_dflt (refine h_tail (by k_asm) (by k_mem) (by k_asm) ?_; k_whole)) | walk1 | (dsimp only; walk1) | (leave1; walk_say "STEP leave1"; try dsimp only) | fail "no step")))
      by_cases e0 : nd6.np - 1 = 0
      · rw [if_pos (by simp [e0])]
        (repeat' ((fail_if_success (with_reducible first | (refine at1 ?_ ?_; constructor) | show @ite Prop _ _ _ _ )); (first | (k_unfold; (try dsimp only)) | (k_end; wrow_close) | (k_here; (with_reducible show wpAny _ _ (call (Value.builtin "dict.get") [_, Value.int _ _]) _ _ _); k_dflt (refine h_get (by k_asm) (by k_mem) (by k_asm) (by k_asm) (by k_asm) ?_); (try dsimp only [Option.getD])) | ((with_reducible first | refine' h_items ?N ?m ?d ?_ | refine' h_values ?N ?m ?d ?_ | refine' h_mget ?N ?m ?d ?_); (case N => k_asm); (case m => k_mem); (case d => k_asm); k_whole) | ((with_reducible show wpAny _ _ (subscriptTail _ _ (Value.ref _) (Value.int _ _)) _ _ _); first | k_dflt (refine h_item (by k_asm) (by k_mem) (by k_asm) (by assumption) ?_; k_whole) | k_dflt (refine h_tail (by k_asm) (by k_mem) (by k_asm) ?_; k_whole)) | walk1 | (dsimp only; walk1) | (leave1; walk_say "STEP leave1"; try dsimp only) | fail "no step")))
        rename Fr _ _ _ _ => F7
        rename News _ _ _ _ => N7
        have e : (vals rs3).toArray.push (.int p6.1 p6.2) = (vals (rs3 ++ [p6])).toArray := by simp
        rw [e] at N7
        refine hQu _ _ (TurnP.next F7 N7 (fun p hp => hp) (((K6.moreOff (o := io2) hI2).setNp _ _ _).perm (List.Perm.swap _ _ _) |> SOK.setRest |> fun z => (z.perm (List.Perm.swap _ _ _)).off) ⟨Same.put' (Same.put' same_of_mm), _, rs3 ++ [p6], rn3 + 1, tf3, (K6.setNp _ _ _).setRest, fin _ _, ?_, ?_⟩)
        · rw [hstep, habs]
          simp only [doneStep, hnpA, if_pos e0, List.map_append, List.map_cons, List.map_nil]
        · simp only [List.length_append, List.length_cons, List.length_nil]; omega
      · rw [if_neg (by simp [e0])]
        (repeat' ((fail_if_success (with_reducible first | (refine at1 ?_ ?_; constructor) | show @ite Prop _ _ _ _ )); (first | (k_unfold; (try dsimp only)) | (k_end; wrow_close) | (k_here; (with_reducible show wpAny _ _ (call (Value.builtin "dict.get") [_, Value.int _ _]) _ _ _); k_dflt (refine h_get (by k_asm) (by k_mem) (by k_asm) (by k_asm) (by k_asm) ?_); (try dsimp only [Option.getD])) | ((with_reducible first | refine' h_items ?N ?m ?d ?_ | refine' h_values ?N ?m ?d ?_ | refine' h_mget ?N ?m ?d ?_); (case N => k_asm); (case m => k_mem); (case d => k_asm); k_whole) | ((with_reducible show wpAny _ _ (subscriptTail _ _ (Value.ref _) (Value.int _ _)) _ _ _); first | k_dflt (refine h_item (by k_asm) (by k_mem) (by k_asm) (by assumption) ?_; k_whole) | k_dflt (refine h_tail (by k_asm) (by k_mem) (by k_asm) ?_; k_whole)) | walk1 | (dsimp only; walk1) | (leave1; walk_say "STEP leave1"; try dsimp only) | fail "no step")))
        rename Fr _ _ _ _ => F7
        rename News _ _ _ _ => N7
        refine hQu _ _ (TurnP.next F7 N7 (fun p hp => hp) ((K6.moreOff (o := io2) hI2).setNp _ _ _).off ⟨Same.put' (Same.put' same_of_mm), _, rs3, rn3, tf3, K6.setNp _ _ _, fin _ _, ?_, ?_⟩)
        · rw [hstep, habs]
          simp only [doneStep, hnpA, if_neg e0]
        · omega
    case done2 =>
      rintro mu2 nx h5 t5 ⟨nodes3, rs3, rn3, tf3, K6, hs6, ha6, hr6⟩ F6 N6
      obtain ⟨h12, h13, h23, o1, o2, o3, n⟩ := K6.facts
      (repeat' ((fail_if_success (with_reducible first | (refine at1 ?_ ?_; constructor) | show @ite Prop _ _ _ _ )); (first | (k_unfold; (try dsimp only)) | (k_end; wrow_close) | (k_here; (with_reducible show wpAny _ _ (call (Value.builtin "dict.get") [_, Value.int _ _]) _ _ _); k_dflt (refine h_get (by k_asm) (by k_mem) (by k_asm) (by k_asm) (by k_asm) ?_); (try dsimp only [Option.getD])) | ((with_reducible first | refine' h_items ?N ?m ?d ?_ | refine' h_values ?N ?m ?d ?_ | refine' h_mget ?N ?m ?d ?_); (case N => k_asm); (case m => k_mem); (case d => k_asm); k_whole) | ((with_reducible show wpAny _ _ (subscriptTail _ _ (Value.ref _) (Value.int _ _)) _ _ _); first | k_dflt (refine h_item (by k_asm) (by k_mem) (by k_asm) (by assumption) ?_; k_whole) | k_dflt (refine h_tail (by k_asm) (by k_mem) (by k_asm) ?_; k_whole)) | walk1 | (dsimp only; walk1) | (leave1; walk_say "STEP leave1"; try dsimp only) | fail "no step")))
      rename Fr _ _ _ _ => F7
      rename News _ _ _ _ => N7
      have en : nf + (i : Int) + 1 = nf + ((i + 1 : Nat) : Int) := by omega
      rw [en] at N7
      refine hQt _ _ (TurnP.next F7 (News.sub (n1 := SL w c (.ref ra) np (nf + ((i + 1 : Nat) : Int)) tp _ od (NN nodes3 ++ (ra, listOf (vals rs3).toArray rn3) :: (I, io) :: (D, ({ cls := .type "tuple", data := .seq (vals ds).toArray } : Obj)) :: rest)) N7 SL_out2) (fun p hp => hp) (K6.perm (List.Perm.swap _ _ _)).off ⟨Same.trans (Same.mono same_of_mm fun z hz => ?_) (Same.put' (Same.put' (Same.put' same_of_mm))), nodes3, rs3, rn3, _, (K6.perm (List.Perm.swap _ _ _)).less, hs6.trans hs4, ?_, ?_⟩)
      · rw [List.contains_cons, Bool.or_eq_false_iff, List.contains_cons, Bool.or_eq_false_iff, List.contains_cons, Bool.or_eq_false_iff] at hz
        exact hz.2.2.2
      · rw [ha6, List.take_of_length_le (by simp), List.take_add_one, List.foldl_append, ← ha4, List.getElem?_map, hp4]
        show _ = doneA (absN nodes2, rs2.map (·.1)) p4.1
        unfold doneA
        rw [← hkk, sucA_abs K4.keys hm]
      · rw [List.length_map] at hr6; omega
  case done => 
    rintro mu nx h4 t4 ⟨nodes2, rs2, rn2, tf2, K4, hs4, ha4, hr4⟩ F4 N4
    (repeat' ((fail_if_success (with_reducible first | (refine at1 ?_ ?_; constructor) | show @ite Prop _ _ _ _ )); (first | (k_unfold; (try dsimp only)) | (k_end; wrow_close) | (k_here; (with_reducible show wpAny _ _ (call (Value.builtin "dict.get") [_, Value.int _ _]) _ _ _); k_dflt (refine h_get (by k_asm) (by k_mem) (by k_asm) (by k_asm) (by k_asm) ?_); (try dsimp only [Option.getD])) | ((with_reducible first | refine' h_items ?N ?m ?d ?_ | refine' h_values ?N ?m ?d ?_ | refine' h_mget ?N ?m ?d ?_); (case N => k_asm); (case m => k_mem); (case d => k_asm); k_whole) | ((with_reducible show wpAny _ _ (subscriptTail _ _ (Value.ref _) (Value.int _ _)) _ _ _); first | k_dflt (refine h_item (by k_asm) (by k_mem) (by k_asm) (by assumption) ?_; k_whole) | k_dflt (refine h_tail (by k_asm) (by k_mem) (by k_asm) ?_; k_whole)) | walk1 | (dsimp only; walk1) | (leave1; walk_say "STEP leave1"; try dsimp only) | fail "no step")))
    refine hQf _ _ ?_
    try dsimp only
    (repeat' ((fail_if_success (with_reducible first | (refine at1 ?_ ?_; constructor) | show @ite Prop _ _ _ _ )); (first | (k_unfold; (try dsimp only)) | (k_end; wrow_close) | (k_here; (with_reducible show wpAny _ _ (call (Value.builtin "dict.get") [_, Value.int _ _]) _ _ _); k_dflt (refine h_get (by k_asm) (by k_mem) (by k_asm) (by k_asm) (by k_asm) ?_); (try dsimp only [Option.getD])) | ((with_reducible first | refine' h_items ?N ?m ?d ?_ | refine' h_values ?N ?m ?d ?_ | refine' h_mget ?N ?m ?d ?_); (case N => k_asm); (case m => k_mem); (case d => k_asm); k_whole) | ((with_reducible show wpAny _ _ (subscriptTail _ _ (Value.ref _) (Value.int _ _)) _ _ _); first | k_dflt (refine h_item (by k_asm) (by k_mem) (by k_asm) (by assumption) ?_; k_whole) | k_dflt (refine h_tail (by k_asm) (by k_mem) (by k_asm) ?_; k_whole)) | walk1 | (dsimp only; walk1) | (leave1; walk_say "STEP leave1"; try dsimp only) | fail "no step")))
    rename Fr _ _ _ _ => F7
    rename News _ _ _ _ => N7
    refine h _ _ nodes2 rs2 rn2 tf2 F7 (News.sub N7 ?_) (K4.perm (List.Perm.swap _ _ _)).less hs4 ?_ ?_
    · intro p hp
      have := SL_out2 (q := (D, ({ cls := .type "tuple", data := .seq (vals ds).toArray } : Obj))) p (.tail _ hp)
      simpa using this
    · rw [ha4, List.take_of_length_le (by simp)]
    · rw [List.length_map] at hr4; exact hr4
end
/-! part L6 -/
set_option maxHeartbeats 1000000
set_option maxHeartbeats 4000000
section
variable {base g g' h₀ : Heap} {A₀ : Around} {outer : List Env} {K : Frag} {p : Program} {loose : List Str} {mean : ExcName → Option Value} {mg mb : Str → Option Value}
abbrev fsOf (l : List Env) : List Addr := l.filterMap (·.frame)
theorem below_turn (B : Below A₀ base outer g) (T : KtsTurn (fsOf outer) g g') : Below A₀ base outer g' := by
  refine ⟨B.stack, fun b o e => T.other b o (B.stays b o e) fun hm => ?_, B.frames.of_keeps fun b o e _ => ?_⟩
  · rw [(B.frames.mem hm).1] at e; cases e
  · obtain ⟨sl, hs⟩ := T.up e
    exact ⟨_, hs, rfl⟩
/-- what a ground must bring -/
structure Gr0 (K : Frag) (p : Program) (loose : List Str) (mean : ExcName → Option Value) (mg mb : Str → Option Value) (A₀ : Around) (base : Heap) (outer : List Env) (h₀ : Heap) : Prop where
  B : Below A₀ base outer h₀
  X : K.In h₀
  T : Top p loose mean mg mb h₀
  XB : K.In base
  TB : Top p loose mean mg mb base
  D : KtsDicts (fsOf outer) h₀
theorem Gr0.turn (G : Gr0 K p loose mean mg mb A₀ base outer g) (T : KtsTurn (fsOf outer) g g') : Gr0 K p loose mean mg mb A₀ base outer g' :=
  have B' := below_turn G.B T
  ⟨B', G.XB.keeps B'.stays, G.TB.keeps B'.stays, G.XB, G.TB, G.D.turn T⟩
theorem mem_fs {env : Env} {L b : Addr} (hf : env.frame = some L) (hm : b ∈ fsOf (env :: outer)) : b = L ∨ b ∈ fsOf outer := by
  obtain ⟨e, he, hb⟩ := List.mem_filterMap.mp hm
  rcases List.mem_cons.mp he with rfl | he
  · exact .inl (Option.some.inj (hf.symm.trans hb)).symm
  · exact .inr (List.mem_filterMap.mpr ⟨e, he, hb⟩)

inductive LeaveT (env : Env) (outer : List Env) (h₀ : Heap) (L : Addr) (m : Str → Option Value) (g : Heap) (R : Result → Shared → Prop) (v : Value) (s' : Shared) : Prop
  | mk (g' : Heap) (L' : Addr) (m' : Str → Option Value) (news' : List (Addr × Obj)) (T : KtsTurn (fsOf (env :: outer)) g g') (F : Fr g' L' s'.heap m') (N : News g' L' s'.heap news') (k : ∀ h₀', KtsTurn (fsOf outer) h₀ h₀' → Fr h₀' L s'.heap m → News h₀' L s'.heap news' → R (.ok (.ret v)) s') : LeaveT env outer h₀ L m g R v s'
theorem leaveT {env : Env} {L : Addr} {m : Str → Option Value} {R : Result → Shared → Prop} {v : Value} {s' : Shared} (B : Below A₀ base outer h₀) (FG : Fr h₀ L g m) (hf : env.frame = some L) (l : LeaveT env outer h₀ L m g R v s') : R (.ok (.ret v)) s' := by
  obtain ⟨g', L', m', news', T, F', N', k⟩ := l
  have hL0 : h₀.get? L = none := kts_self FG
  obtain ⟨T', S⟩ := kts_turn_at (h := g') (fs := fsOf outer) (g := h₀) (fun b hb => let ⟨_, o, ho, _⟩ := B.frames.mem hb; ⟨o, ho⟩)
    (fun b o e nm => T.other b o (FG.keep b o e) fun hm => (mem_fs hf hm).elim (fun q => by rw [q, hL0] at e; cases e) nm)
    (fun b o e hm => T.up (FG.keep b o e))
  obtain ⟨oL, es, ep, hL, hLd, r⟩ := FG.ns
  obtain ⟨sl, hLs⟩ := T.up hL
  refine k _ T' ⟨⟨_, es, ep, F'.keep _ _ hLs, hLd, r⟩, fun b o e => F'.keep b o (S b o e), by rw [T'.size]; exact FG.above⟩ fun q hq => ⟨(N' q hq).1, fun e => ?_, ?_⟩
  · have := (N' q hq).2.2; rw [e, hLs] at this; cases this
  · exact kts_none S (N' q hq).2.2
end

section
variable {prog : Program} {w : World} {A₀ A : Around} {base h₀ : Heap} {outer : List Env} {L : Addr} {m : Str → Option Value} {s : Shared} {news : List (Addr × Obj)} {K : Frag} {p : Program} {loose : List Str} {mean : ExcName → Option Value} {mg mb : Str → Option Value} {env : Env}
  {R : Result → Shared → Prop} {name qual : Str} {params : Arguments} {body : List Stmt} {scope : Scope} {dV kV doc pm cdv ct oc : Value} {an od : Option Addr} {osl : Array (Option Value)} {f : Addr} {args : Args} {binds : List (Str × Value)}
theorem dicts_push (D : KtsDicts (fsOf outer) h₀) (F : Fr h₀ L g m) (hf : env.frame = some L) : KtsDicts (fsOf (env :: outer)) g := fun b hb => by
  rcases mem_fs hf hb with rfl | hb
  · obtain ⟨o, es, n, h1, h2, _⟩ := F.ns
    exact ⟨o, es, n, h1, h2⟩
  · obtain ⟨o, es, n, h1, h2⟩ := D b hb
    exact ⟨o, es, n, F.keep _ _ h1, h2⟩
theorem code_defT (G : Gr0 K p loose mean mg mb A₀ base outer h₀) (F : Fr h₀ L s.heap m) (N : News h₀ L s.heap news) (hA : A.frames = some (env :: outer)) (hf : env.frame = some L) (hke : env.scope.kind = .function)
    (ho : K.lookup f = some ⟨oc, od, .func (fnOf name qual params body scope dV kV doc pm an cdv ct), osl⟩) (hcd : codeIn K cdv qual = true) (hroom : A.depth < recursionLimit)
    (hbind : BindsTo s (fnOf name qual params body scope dV kV doc pm an cdv ct) args binds) (hloc : ∀ y ∈ binds, scope.names.lookup y.1 = some .local)
    (h : ∀ g L' h₁ (Qf : Flow → Shared → Prop), (∀ fl s', LeaveT env outer h₀ L m g R (match fl with | .ret v => v | _ => .none) s' → Qf fl s') → Fr h₀ L g m → Fr g L' h₁ (fun y => binds.reverse.lookup y) → News g L' h₁ news → Gr0 K p loose mean mg mb A base (env :: outer) g → (∀ p ∈ news, p.1 < L') →
      wpAny (model prog w) (A.deeper (envOf qual scope L' f cdv)) (execs body (envOf qual scope L' f cdv))
        Qf (fun _ _ => False)
        { s with heap := h₁, toks := s.toks + binds.length })
    (hco : scope.isCoroutine = false) (hgen : scope.isGenerator = false) (hk : scope.kind = .function)
    (hcell : ∀ x ∈ scope.names, x.2 ≠ .cell) : codeAny (model prog w) A (.call (.ref f) args) R s := by
  have X := G.X.keeps F.keep
  obtain ⟨FG, BG, st, _⟩ := groundX (R := R) G.B F N hA hf hke
  refine codeAny_call_def (fd := fnOf name qual params body scope dV kV doc pm an cdv ct) (body := body) (binds := binds) hroom (X _ _ ho) rfl (G.T.nolimit.keeps F.keep) (codeRec_of X hcd) rfl hbind hcell hloc (fun h₁ hns hk₁ => ?_) hco hgen hk
  exact wpAny_mono (h _ s.heap.objs.size h₁ _ (fun _ _ h => h) FG ⟨hns, fun b o e => hk₁ b o (of_hideAll _ e), Nat.le_of_eq (hideAll_size _ _)⟩
    (fun p hp => ⟨hk₁ _ _ (N p hp).1, Nat.ne_of_lt (Heap.lt_size (N p hp).1), hideAll_none _ (List.mem_map_of_mem hp)⟩)
    ⟨BG, G.X.keeps st, G.T.keeps st, G.XB, G.TB, dicts_push G.D FG hf⟩ (fun p hp => Heap.lt_size (N p hp).1)) (fun fl s' hl => leaveT G.B FG hf hl) fun _ _ y => y.elim
end

section
variable {prog : Program} {w : World} {A₀ : Around} {E : Value → Shared → Prop} {s' : Shared} {base g h : Heap} {outer : List Env} {L a e : Addr} {m : Str → Option Value} {name : Str} {scope : Scope} {cd : Value}
  {b₀ : Stmt} {suite : List Stmt} {pos np : Pos} {rest : List ExceptHandler} {Q : Flow → Shared → Prop} {news : List (Addr × Obj)} {K : Frag}
  {p : Program} {loose : List Str} {mean : ExcName → Option Value} {mg mb : Str → Option Value} {x : Str} {X T' : String}
theorem caught_new (G : Gr0 K p loose mean mg mb A₀ base outer g) (hx : Heap.NewExc h s'.heap e X) (F : Fr g L h m) (N : News g L h news)
    (ex : nsIn K mainGlobals x = some none) (hv : bootBuiltins x = some (.type T')) (hn' : x ≠ "__name__")
    (hexc : isSubtype (.type T') (.type "BaseException") = pure true) (hnt : isSubtype (.type ((Manifest.find? T').elim "type" fun y => y.metatype)) (.type "tuple") = pure false) (hsub : isSubtype (.type X) (.type T') = pure true)
    (k : ∀ h' g', KtsTurn (fsOf outer) g g' → Fr g' L h' m → News g' L h' news →
      wpAny (model prog w) ((A₀.deeper (envOf name scope L a cd)).mark (some (.ref e))) (execs (b₀ :: suite) (envOf name scope L a cd)) Q E { s' with heap := h' })
    (hk : scope.kind = .function) (hx' : (envOf name scope L a cd).kindOf x = some .globalImplicit) (hd' : (x == ("__debug__" : Str)) = false)
    (hE : PassesOwnAt (model prog w) ((A₀.deeper (envOf name scope L a cd)).mark (some (.ref e))) (A₀.deeper (envOf name scope L a cd)) (envOf name scope L a cd) E) :
    wpAny (model prog w) (A₀.deeper (envOf name scope L a cd)) (noteFrame (.ref e) (envOf name scope L a cd))
      (fun _ s₂ => wpAny (model prog w) (A₀.deeper (envOf name scope L a cd)) (setFlight (.ref e) none) (fun _ s₃ =>
        wpAny (model prog w) (A₀.deeper (envOf name scope L a cd)) (handleBy (.ref e) (envOf name scope L a cd) (.ExceptHandler (some (.Name x np)) none (b₀ :: suite) pos :: rest)) Q E s₃) E s₂) E s' := by
  have K' := G.B.push (name := name) (a := a) (cd := cd) F hk
  have hin : ∀ env ∈ (envOf name scope L a cd :: outer), ∀ b, env.frame = some b → b ∈ fsOf (envOf name scope L a cd :: outer) := fun env he b hb => List.mem_filterMap.mpr ⟨env, he, hb⟩
  have hLn : g.get? L = none := kts_self F
  generalize hB : hideAll h (fsOf (envOf name scope L a cd :: outer)) = B
  have hBh : ∀ b o, B.get? b = some o → h.get? b = some o := fun b o q => by rw [← hB] at q; exact of_hideAll _ q
  have hBk : ∀ b o, h.get? b = some o → b ∉ fsOf (envOf name scope L a cd :: outer) → B.get? b = some o := fun b o q nm => by rw [← hB]; exact hideAll_get _ q nm
  have hBf : ∀ b ∈ fsOf (envOf name scope L a cd :: outer), B.get? b = none := fun b q => by rw [← hB]; exact hideAll_none _ q
  have hff : h.FunFrames B (envOf name scope L a cd :: outer) := by rw [← hB]; exact funFrames_hide K'.frames hin
  obtain ⟨ob, tp, he, hcls, hd⟩ := hx.there
  have hen : B.get? e = none := kts_none hBh hx.new
  have hLB : B.get? L = none := hBf L (hin _ (.head _) L rfl)
  have hns : ∀ q ∈ news, B.get? q.1 = some q.2 := fun q hq => hBk _ _ (N q hq).1 fun hm => by
    rcases mem_fs rfl hm with z | z
    · exact (N q hq).2.1 z
    · obtain ⟨o, ho, _⟩ := (G.B.frames.mem z).2
      rw [(N q hq).2.2] at ho; cases ho
  unfold noteFrame
  simp only [show (envOf name scope L a cd).frame = some L from rfl]
  refine wpAny_bind (wpAny_field he hd (x := .none) rfl ?_)
  rw [if_neg (by decide)]
  refine wpAny_entryW (a0 := tp) (base := B) K'.stack (hff.of_keeps fun b o hb _ => ⟨o, hx.keeps b o hb, rfl⟩) rfl he (fun b o eb => hx.keeps b o (hBh b o eb)) hen hd (by show 1 < 6; decide) rfl fun h₄ hN => ?_
  obtain ⟨k1, k2, k3, k4⟩ := hN
  rw [hcls] at k3
  refine wpAny_landsW (L := L) ⟨k1, hen, k2, k3⟩ fun h₅ hheld hsm₅ => ?_
  have hsm : h.UpToSlots h₅ := ((Heap.UpToSlots.of_keeps hx.keeps).trans k4).trans hsm₅
  obtain ⟨g₅, T₅, F₅, K₅⟩ := kts_ground G.B F hBk hheld.1 hsm
  have X₅ : K.In g₅ := G.XB.keeps K₅.stays
  have P₅ : TopRead p loose mg mb g₅ := topRead_of (G.TB.keeps K₅.stays)
  obtain ⟨o5, ho5, ho5c⟩ := hheld.there
  refine wpAny_handleBy_builtin (X := X) (T := T') (b := true) hexc hnt hsub (name_B F₅ X₅ P₅ ex hv hn' ⟨rfl, ⟨o5, ho5, ho5c⟩, ?_⟩ hk hx' hd')
  refine lands_againW hheld fun h₆ hfl₆ hsm₆ => ?_
  obtain ⟨g₆, T₆, F₆, K₆⟩ := kts_ground G.B F hBk hfl₆.1 (hsm.trans hsm₆)
  exact wpAny_passesOwnAt hE (k h₆ g₆ T₆ F₆ fun q hq => ⟨hfl₆.1 _ _ (hns q hq), (N q hq).2.1, T₆.none_ _ (N q hq).2.2⟩)
end
/-! part L7 -/
set_option maxHeartbeats 1000000
set_option maxHeartbeats 4000000
section
variable {prog : Program} {w : World} {A : Around} {h₀ : Heap} {L : Addr} {m : Str → Option Value} {s : Shared} {led : List (Addr × Obj)} {it l mw : Addr} {i : Nat} {items : Array Value} {ep : Nat} {x : Value} {R : Result → Shared → Prop}
theorem upd_led {h : Heap} {f : Obj → Obj} {o : Obj} (F : Fr h₀ L h m) (N : News h₀ L h ((it, o) :: led)) (hap : ∀ p ∈ led, p.1 ≠ it) : Fr h₀ L (h.update it f) m ∧ News h₀ L (h.update it f) led := by
  have hn := (N _ (.head _)).2
  obtain ⟨oL, es, n, hL, r⟩ := F.ns
  refine ⟨⟨⟨oL, es, n, (Heap.get?_update_ne _ _ _ _ (Ne.symm hn.1)).trans hL, r⟩, fun b o e => (Heap.get?_update_ne _ _ _ _ (fun q => by rw [q, hn.2] at e; cases e)).trans (F.keep b o e), F.above⟩, fun p hp => ⟨(Heap.get?_update_ne _ _ _ _ (hap p hp)).trans (N p (.tail _ hp)).1, (N p (.tail _ hp)).2⟩⟩
theorem mw_item (F : Fr h₀ L s.heap m) (N : News h₀ L s.heap ((it, liObj l i) :: led)) (hap : ∀ p ∈ led, p.1 ≠ it) (hm : (mw, mwObj it) ∈ led) (hl : (l, listOf items ep) ∈ led) (hx : items[i]? = some x)
    (k : ∀ h', Fr h₀ L h' m → News h₀ L h' ((it, liObj l (i + 1)) :: led) → R (.ok (.ret x)) { s with heap := h' }) :
    codeAny (model prog w) A (.call (.ref mw) ⟨[], []⟩) R s := by
  have hit := (N _ (.head _)).1
  have hol := (N _ (.tail _ hl)).1
  have hmw := (N _ (.tail _ hm)).1
  obtain ⟨F', N'⟩ := upd_led (f := Obj.mapFields (·.setIfInBounds 1 (rawInt (i + 1)))) F N hap
  have hself := Heap.get?_update_self (Obj.mapFields (·.setIfInBounds 1 (rawInt (i + 1)))) hit (Obj.isFreed_of_fields (Obj.data_mapFields rfl _))
  have hk := k _ F' (fun p hp => by
    rcases List.mem_cons.mp hp with rfl | hp
    · exact ⟨hself.trans (by simp [Obj.mapFields, liObj, rawInt]), (N _ (.head _)).2⟩
    · exact N' p hp)
  obtain ⟨h, g, d, t, os⟩ := s
  refine mw_call hmw ?_
  show wpAny _ _ (field (.ref it) 0 >>= _) _ _ _
  refine wpAny_bind (wpAny_field hit rfl (x := .ref l) rfl ?_)
  show wpAny _ _ (if (Value.ref l == Value.none) = true then _ else _) _ _ _
  rw [if_neg (show ¬ ((Value.ref l == Value.none) = true) from Bool.false_ne_true)]
  show wpAny _ _ (field (.ref it) 1 >>= _) _ _ _
  refine wpAny_bind (wpAny_field hit rfl (x := .int i 0) rfl ?_)
  show wpAny _ _ (seqItems? (.ref l) >>= _) _ _ _
  refine wpAny_bind (wpAny_seqItems hol rfl ?_)
  simp only [Int.toNat_natCast, hx]
  exact wpAny_bind (wpAny_setField hit rfl (by simp) (wpAny_pure hk))
theorem mw_end (F : Fr h₀ L s.heap m) (N : News h₀ L s.heap ((it, liObj l i) :: led)) (hap : ∀ p ∈ led, p.1 ≠ it) (hm : (mw, mwObj it) ∈ led) (hl : (l, listOf items ep) ∈ led) (hx : items[i]? = none) (hh : A.handled = none)
    (k : ∀ h₁ h' e, Fr h₀ L h₁ m → News h₀ L h₁ led → Heap.NewExc h₁ h' e "StopIteration" → R (.error (.ref e)) { s with heap := h' }) :
    codeAny (model prog w) A (.call (.ref mw) ⟨[], []⟩) R s := by
  have hit := (N _ (.head _)).1
  have hol := (N _ (.tail _ hl)).1
  have hmw := (N _ (.tail _ hm)).1
  obtain ⟨F', N'⟩ := upd_led (f := Obj.mapFields (·.setIfInBounds 0 Value.none)) F N hap
  have hk := fun h' e => k _ h' e F' N'
  obtain ⟨h, g, d, t, os⟩ := s
  refine mw_call hmw ?_
  show wpAny _ _ (field (.ref it) 0 >>= _) _ _ _
  refine wpAny_bind (wpAny_field hit rfl (x := .ref l) rfl ?_)
  show wpAny _ _ (if (Value.ref l == Value.none) = true then _ else _) _ _ _
  rw [if_neg (show ¬ ((Value.ref l == Value.none) = true) from Bool.false_ne_true)]
  show wpAny _ _ (field (.ref it) 1 >>= _) _ _ _
  refine wpAny_bind (wpAny_field hit rfl (x := .int i 0) rfl ?_)
  show wpAny _ _ (seqItems? (.ref l) >>= _) _ _ _
  refine wpAny_bind (wpAny_seqItems hol rfl ?_)
  simp only [Int.toNat_natCast, hx]
  refine wpAny_bind (wpAny_rule (wpAny_bind (wpAny_setField hit rfl (by simp) ?_)))
  show wpAny _ _ (newExc (.type "StopIteration") [] >>= _) _ _ _
  refine wpAny_bind ?_
  simp only [newExc, newTuple]
  refine wpAny_bind (wpAny_newObj_type ?_ (by size_fits))
  refine wpAny_bind (m := firstArgMember _ _) (wpAny_of_eq (a := Value.none) (by first | rfl | (simp only [firstArgMember]; rfl)) ?_)
  refine wpAny_newObj_type ?_ (by size_fits)
  simp only [raiseNew]
  refine wpAny_bind (wpAny_handled ?_)
  rw [show A.in1.handled = none from hh]
  refine wpAny_bind (wpAny_pure (wpAny_throw ?_))
  refine hk _ _ ⟨fun b o e => Heap.get?_push_of_some _ (Heap.get?_push_of_some _ e), ?_, _, _, Heap.get?_push_size _ rfl, rfl, rfl⟩
  exact Heap.get?_none_of_le (by rw [Heap.size_push]; exact Nat.le_succ _)
end

section
variable {prog : Program} {w : World} {A : Around} {E : Value → Shared → Prop} {h₀ : Heap} {L : Addr} {m : Str → Option Value} {s : Shared} {news : List (Addr × Obj)} {l I : Addr} {i : Nat} {items : Array Value} {ep : Nat} {Q : Value → Shared → Prop}
theorem iter_N (F : Fr h₀ L s.heap m) (N : News h₀ L s.heap news) (hp : (l, listOf items ep) ∈ news)
    (h : ∀ (I : Addr) h', Fr h₀ L h' m → News h₀ L h' ((I, liObj l 0) :: news) → (∀ p ∈ news, p.1 < I) → Q (.ref I) { s with heap := h' }) :
    wpAny (model prog w) A (call (.builtin "iter") [.ref l]) Q E s := by
  have hL : s.heap.IsList l items := ⟨_, (N _ hp).1, rfl, ⟨_, rfl⟩⟩
  refine PySem.Calls.call_function_entry (by decide +kernel) (by decide +kernel) kdk_entry_iter (kdk_args_iter _) ?_
  unfold Builtin.«iter»
  refine wpAny_bind (m := someArgs "iter" 1 2 _) (wpAny_of_eq (a := [Value.ref l]) (by first | rfl | kernel_rfl!) ?_)
  show wpAny _ _ (pyIter (.ref l) >>= _) _ _ _
  refine wpAny_bind (wpAny_pyIter_list hL ?_)
  exact wpAny_pure ⟨_, rfl, h _ _ (F.push _) (News.push F N _ rfl) (fun q hq => Heap.lt_size (N q hq).1)⟩
theorem next_N (F : Fr h₀ L s.heap m) (N : News h₀ L s.heap news) (hp : (I, liObj l i) ∈ news)
    (h : ∀ (M : Addr) h', Fr h₀ L h' m → News h₀ L h' ((M, mwObj I) :: news) → (∀ p ∈ news, p.1 < M) → Q (.ref M) { s with heap := h', toks := s.toks + 1 }) :
    wpAny (model prog w) A (getAttr (.ref I) (Str.ofString "__next__") true) Q E s := by
  have hi := (N _ hp).1
  have hk := h _ _ (F.push (mwObj I)) (News.push F N _ rfl) (fun q hq => Heap.lt_size (N q hq).1)
  obtain ⟨hh, g, d, t, os⟩ := s
  exact getAttr_next' hi hk
end
/-! part L8 -/
set_option maxHeartbeats 1000000
set_option maxHeartbeats 4000000
section
variable {prog : Program} {w : World} {A : Around} {s : Shared} {env : Env} {g : Heap} {fs : List Addr} {target : PySem.Expr} {body orelse : List Stmt} {Q : Flow → Shared → Prop}
theorem while_rule {test : PySem.Expr} {pos : Pos} (I : Nat → Shared → Prop)
    (turn : ∀ n s, I n s → wpAny (model prog w) A (isTrue test env (eval test env)) (fun b s₂ =>
        if b = true then wpAny (model prog w) A (execs body env) (fun f s₃ => match f with
            | .next | .cont => ∃ m, m < n ∧ I m s₃
            | .brk => Q .next s₃
            | .ret v => Q (.ret v) s₃) (fun _ _ => False) s₂
        else wpAny (model prog w) A (execs orelse env) Q (fun _ _ => False) s₂) (fun _ _ => False) s)
    (n : Nat) (h : I n s) : wpAny (model prog w) A (exec (.While test body orelse pos) env) Q (fun _ _ => False) s := by
  refine wpAny_While (codeAny_whileLoop I (fun n s hI => ?_) n h)
  refine wpAny_mono (turn n s hI) (fun b s₂ h₂ => ?_) fun _ _ e => e.elim
  cases b with
  | false =>
    simp only [Bool.false_eq_true, if_false] at h₂ ⊢
    exact wpAny_mono h₂ (fun _ _ e => e) fun _ _ e => e.elim
  | true =>
    simp only [if_true] at h₂ ⊢
    exact wpAny_mono h₂ (fun f s₃ h₃ => by cases f <;> exact h₃) fun _ _ e => e.elim

inductive TurnGE (fs : List Addr) (g : Heap) (L : Addr) (s : Shared) (I : Addr) (io : Obj) (J : (Str → Option Value) → List (Addr × Obj) → Prop) : Shared → Prop
  | mk (g' h' : Heap) (tk : Nat) (m' : Str → Option Value) (nx : List (Addr × Obj)) (T : KtsTurn fs g g') (F : Fr g' L h' m') (N : News g' L h' ((I, io) :: nx)) (o : ∀ p ∈ nx, p.1 ≠ I) (j : J m' nx) : TurnGE fs g L s I io J { s with heap := h', toks := tk }
inductive LI3 (fs : List Addr) (g : Heap) (L : Addr) (s : Shared) (I : Addr) (n : Nat) (St : Nat → Heap → Prop) (J : Nat → (Str → Option Value) → List (Addr × Obj) → Prop) (k : Nat) : Shared → Prop
  | mk (g' h' : Heap) (tk : Nat) (m' : Str → Option Value) (nx : List (Addr × Obj)) (i : Nat) (T : KtsTurn fs g g') (st : St i h') (F : Fr g' L h' m') (N : News g' L h' nx) (o : ∀ p ∈ nx, p.1 ≠ I) (j : J i m' nx) (hi : i ≤ n) (hk : k = n + 1 - i) : LI3 fs g L s I n St J k { s with heap := h', toks := tk }
/-- the end of a turn, the ground may have turned -/
def TurnG (fs : List Addr) (g : Heap) (L : Addr) (s : Shared) (I : Addr) (io : Obj) (J : (Str → Option Value) → List (Addr × Obj) → Prop) (Q : Flow → Shared → Prop) (f : Flow) (s₃ : Shared) : Prop :=
  match f with
  | .ret v => Q (.ret v) s₃
  | .brk => Q .next s₃
  | _ => TurnGE fs g L s I io J s₃
variable {K : Type} [DecidableEq K] {knd : PySem.KeyKind prog w K}
theorem iter_keysG {m₀ : Str → Option Value} {news : List (Addr × Obj)} {d : Addr} {od : Obj} {kvs : List (K × Value)} (J : Nat → (Str → Option Value) → List (Addr × Obj) → Prop) (hh : A.handled = none) (lo : (d == sysModules) = false) (hl : (d, od) ∈ news) (hd : od.IsDictOf knd kvs)
    (hks : ∀ i m nx, J i m nx → (d, od) ∈ nx) (ht : ∀ I v, letOwnedTupleGo target (.ref I) v = pure ()) (F : Fr g env.locals s.heap m₀) (N : News g env.locals s.heap news) (hj : J 0 m₀ news)
    (turn : ∀ i k x v g' m' nx h tk I io, KtsTurn fs g g' → kvs[i]? = some (k, x) → knd.is k v = true → J i m' nx → (∀ p ∈ nx, p.1 ≠ I) → (∀ p ∈ news, p.1 < I) → Fr g' env.locals h m' → News g' env.locals h ((I, io) :: nx) →
      wpAny (model prog w) A (assign target env v) (fun _ s₂ => wpAny (model prog w) A (execs body env) (TurnG fs g env.locals s I io (J (i + 1)) Q) (fun _ _ => False) s₂) (fun _ _ => False) { s with heap := h, toks := tk })
    (done : ∀ g' m' nx h tk, KtsTurn fs g g' → J kvs.length m' nx → Fr g' env.locals h m' → News g' env.locals h nx → Q .next { s with heap := h, toks := tk }) :
    wpAny (model prog w) A (pyIter (.ref d)) (fun it s₂ => LoopX prog w A env target body Q it s₂) (fun _ _ => False) s := by
  have hdo := Heap.dictOf_iff.mpr ⟨od, (N _ hl).1, hd⟩
  obtain ⟨ep, hda⟩ : ∃ ep, s.heap.DictAt knd d kvs ep := by
    obtain ⟨o, es, ep, ho, r⟩ := hdo
    exact ⟨ep, o, es, ho, r⟩
  have hlt := news_lt N _ hl
  refine wpAny_pyIter_dict lo hda ?_
  generalize hI : s.heap.objs.size = I at *
  have W := Walks.dictKeys (prog := prog) (w := w) (knd := knd) hh I d (Nat.ne_of_lt hlt) kvs ep
  have hLI : I ≠ env.locals := fun e => absurd F.ns.lt (by rw [← e, hI]; exact Nat.lt_irrefl _)
  have hI0 : g.get? I = none := by rw [← hI]; exact fresh_of F
  have next : ∀ (g' h' h₁ : Heap) m' nx, KtsTurn fs g g' → Fr g' env.locals h' m' → News g' env.locals h' nx → (∀ p ∈ nx, p.1 ≠ I) → (∀ b o, b ∉ [I] → h'.get? b = some o → h₁.get? b = some o) → Fr g' env.locals h₁ m' ∧ News g' env.locals h₁ nx := fun g' h' h₁ m' nx T F' N' hn hk =>
    ⟨⟨F'.ns.at' fun o e => hk _ o (fun hm => hLI (List.mem_singleton.mp hm).symm) e, fun b o e => hk b o (fun hm => by rw [List.mem_singleton.mp hm, T.none_ _ hI0] at e; cases e) (F'.keep b o e), F'.above⟩,
      fun p hp => ⟨hk _ _ (fun hm => hn p hp (List.mem_singleton.mp hm)) (N' p hp).1, (N' p hp).2⟩⟩
  refine ⟨ht _, LI3 fs g env.locals s I kvs.length (fun i h' => h'.IsKeyIter I d i kvs.length ep ∧ h'.DictAt knd d kvs ep) J, kvs.length + 1,
    ⟨g, _, _, m₀, news, 0, .refl, ⟨⟨_, by rw [← hI]; exact Heap.get?_push_size _ rfl, rfl, rfl⟩, hda.push _⟩, F.push _, fun p hp => ⟨Heap.get?_push_of_some _ (N p hp).1, (N p hp).2⟩, fun p hp => Nat.ne_of_lt (hI ▸ news_lt N p hp), hj, Nat.zero_le _, rfl⟩, ?_⟩
  rintro k₀ s' ⟨g', h', tk, m', nx, i, T, hst', F', N', hn', hJ, hi, hk⟩
  by_cases hlt : i < kvs.length
  · refine W.item i _ _ _ hlt hst' fun v h₁ tk₁ hP hst₁ hk₁ => ?_
    obtain ⟨F₁, N₁⟩ := next _ _ _ _ _ T F' N' hn' hk₁
    obtain ⟨io, hio, _⟩ := id hst₁.1
    have N₂ : News g' env.locals h₁ ((I, io) :: nx) := fun p hp => by
      rcases List.mem_cons.mp hp with rfl | hp
      · exact ⟨hio, hLI, T.none_ _ hI0⟩
      · exact N₁ p hp
    obtain ⟨k, x, hkx, hkey⟩ := hP
    refine wpAny_mono (turn i k x v g' m' nx h₁ tk₁ I io T hkx hkey hJ hn' (fun p hp => hI ▸ news_lt N p hp) F₁ N₂) (fun _ s₂ h₂ => ?_) fun _ _ e => e
    refine wpAny_mono h₂ (fun f s₃ h₃ => ?_) fun _ _ e => e
    have fin : TurnGE fs g env.locals s I io (J (i + 1)) s₃ → ∃ m, m < k₀ ∧ LI3 fs g env.locals s I kvs.length (fun i h' => h'.IsKeyIter I d i kvs.length ep ∧ h'.DictAt knd d kvs ep) J m s₃ := by
      rintro ⟨g₄, h₄, tk₄, m₄, nx₄, T₄, F₄, N₄, hn₄, hJ₄⟩
      refine ⟨kvs.length + 1 - (i + 1), lt_dec hlt hk, g₄, h₄, tk₄, m₄, nx₄, i + 1, T₄, ?_, F₄, fun p hp => N₄ p (.tail _ hp), hn₄, hJ₄, hlt, rfl⟩
      refine W.frame _ _ _ hst₁ fun b hb o e => ?_
      rcases List.mem_cons.mp hb with rfl | hb
      · rw [hio] at e; cases e; exact (N₄ _ (.head _)).1
      · rw [List.mem_singleton.mp hb] at e ⊢
        have e1 := (N₁ _ (hks _ _ _ hJ)).1
        rw [e1] at e; cases e
        exact (N₄ _ (.tail _ (hks _ _ _ hJ₄))).1
    cases f with
    | ret v => exact h₃
    | brk => exact h₃
    | next => exact fin h₃
    | cont => exact fin h₃
  · have hin : i = kvs.length := eq_top hlt hi
    subst hin
    refine W.done _ _ _ hst' fun h₁ tk₁ hk₁ => ?_
    obtain ⟨F₁, N₁⟩ := next _ _ _ _ _ T F' N' hn' hk₁
    exact done g' m' nx h₁ tk₁ T hJ F₁ N₁
end
/-! part BE -/
set_option maxHeartbeats 1000000
set_option maxHeartbeats 8000000
/-- one frame of the search: a node, how far its successors are taken, its bound __next__ and the iterator -/
structure Fk where
  nd : Nd
  tk : Tok
  pos : Nat
  mw : Addr
  it : Addr
def Fk.objs (f : Fk) : List (Addr × Obj) := [(f.it, liObj f.nd.sa f.pos), (f.mw, mwObj f.it)]
def SO (st : List Fk) : List (Addr × Obj) := st.flatMap Fk.objs
abbrev refsOf (st : List Fk) : List Value := st.map fun f => Value.ref f.mw
abbrev keysOf (st : List Fk) : List Value := st.map fun f => Value.int f.nd.k f.tk
theorem SO_snoc (st : List Fk) (f : Fk) : SO (st ++ [f]) = SO st ++ f.objs := by unfold SO; rw [List.flatMap_append, List.flatMap_cons, List.flatMap_nil, List.append_nil]
structure FA where
  D2 : Addr
  SE : Addr
  IT : Addr
  S : Addr
abbrev FL (a : FA) (o2 so : Obj) (ie se : Nat) (st : List Fk) (BL : List (Addr × Obj)) : List (Addr × Obj) :=
  (a.D2, o2) :: (a.SE, so) :: (a.IT, listOf (refsOf st).toArray ie) :: (a.S, listOf (keysOf st).toArray se) :: (SO st ++ BL)
structure FOK (w : World) (nodes : List Nd) (a : FA) (o2 so : Obj) (st : List Fk) (kvs : List (Int × Value)) (seen : Int → Bool) (n : Nat) (BL : List (Addr × Obj)) : Prop where
  nd : ∀ ie se, ND (FL a o2 so ie se st BL)
  mem : ∀ f ∈ st, f.nd ∈ nodes
  inc : (st.map (·.nd.k)).Pairwise (· < ·)
  pos : ∀ f ∈ st, f.pos ≤ f.nd.si.length
  sin : ∀ f ∈ st, seen f.nd.k = true
  dict : o2.IsDictOf (intKind PR w) kvs
  keys : kvs.map (·.1) = st.map (·.nd.k)
  set : so.SetObjOf (intKind PR w) seen n
  cnt : n = (nodes.filter fun nd => seen nd.k).length
  lo : (a.D2 == sysModules) = false
  suc : ∀ nd ∈ nodes, (nd.sa, listOf (vals nd.si).toArray nd.ep) ∈ BL
def mea (nodes : List Nd) (seen : Int → Bool) (st : List Fk) : Nat := 3000 * (nodes.filter fun nd => !seen nd.k).length + (st.map fun f => 2 * (f.nd.si.length - f.pos) + 2).sum
section
variable {w : World} {nodes : List Nd} {a : FA} {o2 so : Obj} {st : List Fk} {kvs : List (Int × Value)} {seen : Int → Bool} {n : Nat} {BL : List (Addr × Obj)}
structure FNe (a : FA) : Prop where
  x1 : a.D2 ≠ a.SE
  x2 : a.D2 ≠ a.IT
  x3 : a.D2 ≠ a.S
  x4 : a.SE ≠ a.IT
  x5 : a.SE ≠ a.S
  x6 : a.IT ≠ a.S
structure FFacts (a : FA) (l : List (Addr × Obj)) : Prop where
  x1 : a.D2 ≠ a.SE
  x2 : a.D2 ≠ a.IT
  x3 : a.D2 ≠ a.S
  x4 : a.SE ≠ a.IT
  x5 : a.SE ≠ a.S
  x6 : a.IT ≠ a.S
  y1 : ∀ p ∈ l, p.1 ≠ a.D2
  y2 : ∀ p ∈ l, p.1 ≠ a.SE
  y3 : ∀ p ∈ l, p.1 ≠ a.IT
  y4 : ∀ p ∈ l, p.1 ≠ a.S
  z : ND l
theorem FOK.facts (K : FOK w nodes a o2 so st kvs seen n BL) : FFacts a (SO st ++ BL) := by
  have N := K.nd 0 0
  exact ⟨(N.head (a.SE, _) (.head _)).symm, (N.head (a.IT, _) (.tail _ (.head _))).symm, (N.head (a.S, _) (.tail _ (.tail _ (.head _)))).symm, (N.tail.head (a.IT, _) (.head _)).symm, (N.tail.head (a.S, _) (.tail _ (.head _))).symm, (N.tail.tail.head (a.S, _) (.head _)).symm,
    fun p hp => N.head p (.tail _ (.tail _ (.tail _ hp))), fun p hp => N.tail.head p (.tail _ (.tail _ hp)), fun p hp => N.tail.tail.head p (.tail _ hp), N.tail.tail.tail.head, N.tail.tail.tail.tail⟩
/-- the address part alone -/
theorem nd_facts {ie se : Nat} (x : FNe a) (y1 : ∀ p ∈ SO st ++ BL, p.1 ≠ a.D2) (y2 : ∀ p ∈ SO st ++ BL, p.1 ≠ a.SE) (y3 : ∀ p ∈ SO st ++ BL, p.1 ≠ a.IT) (y4 : ∀ p ∈ SO st ++ BL, p.1 ≠ a.S) (z : ND (SO st ++ BL)) : ND (FL a o2 so ie se st BL) := by
  obtain ⟨x1, x2, x3, x4, x5, x6⟩ := x
  refine ND.cons (ND.cons (ND.cons (ND.cons z y4) ?_) ?_) ?_
  · intro q hq
    rcases List.mem_cons.mp hq with rfl | hq
    · exact x6.symm
    · exact y3 q hq
  · intro q hq
    rcases List.mem_cons.mp hq with rfl | hq
    · exact x4.symm
    rcases List.mem_cons.mp hq with rfl | hq
    · exact x5.symm
    · exact y2 q hq
  · intro q hq
    rcases List.mem_cons.mp hq with rfl | hq
    · exact x1.symm
    rcases List.mem_cons.mp hq with rfl | hq
    · exact x2.symm
    rcases List.mem_cons.mp hq with rfl | hq
    · exact x3.symm
    · exact y1 q hq
theorem FOK.pop {f : Fk} {o2' : Obj} {kvs' : List (Int × Value)} (K : FOK w nodes a o2 so (st ++ [f]) kvs seen n BL) (hd : o2'.IsDictOf (intKind PR w) kvs') (hk : kvs'.map (·.1) = st.map (·.nd.k)) : FOK w nodes a o2' so st kvs' seen n BL := by
  obtain ⟨x1, x2, x3, x4, x5, x6, y1, y2, y3, y4, z⟩ := K.facts
  have sub : ∀ p ∈ SO st ++ BL, p ∈ SO (st ++ [f]) ++ BL := fun p hp => by
    rw [SO_snoc]
    rcases List.mem_append.mp hp with hp | hp
    · exact List.mem_append_left _ (List.mem_append_left _ hp)
    · exact List.mem_append_right _ hp
  have z' : ND (SO st ++ BL) := by
    unfold ND at z ⊢
    rw [SO_snoc, List.append_assoc, List.map_append, List.map_append] at z
    rw [List.map_append]
    have h1 := (List.nodup_append.mp z)
    have h2 := List.nodup_append.mp h1.2.1
    exact List.nodup_append.mpr ⟨h1.1, h2.2.1, fun x hx y hy => h1.2.2 x hx y (List.mem_append_right _ hy)⟩
  refine ⟨fun ie se => nd_facts ⟨x1, x2, x3, x4, x5, x6⟩ (fun p hp => y1 p (sub p hp)) (fun p hp => y2 p (sub p hp)) (fun p hp => y3 p (sub p hp)) (fun p hp => y4 p (sub p hp)) z',
    fun g hg => K.mem g (List.mem_append_left _ hg), ?_, fun g hg => K.pos g (List.mem_append_left _ hg), fun g hg => K.sin g (List.mem_append_left _ hg), hd, hk, K.set, K.cnt, K.lo, K.suc⟩
  have := K.inc
  rw [List.map_append] at this
  exact (List.pairwise_append.mp this).1
theorem FOK.step {f : Fk} (K : FOK w nodes a o2 so (st ++ [f]) kvs seen n BL) (h : f.pos < f.nd.si.length) : FOK w nodes a o2 so (st ++ [{ f with pos := f.pos + 1 }]) kvs seen n BL := by
  have e : ∀ ie se, (FL a o2 so ie se (st ++ [{ f with pos := f.pos + 1 }]) BL).map (·.1) = (FL a o2 so ie se (st ++ [f]) BL).map (·.1) := fun ie se => by
    simp only [SO_snoc, List.map_cons, List.map_append]; rfl
  refine ⟨fun ie se => (K.nd ie se).same (e ie se), ?_, ?_, ?_, ?_, K.dict, ?_, K.set, K.cnt, K.lo, K.suc⟩
  · intro g hg
    rcases List.mem_append.mp hg with hg | hg
    · exact K.mem g (List.mem_append_left _ hg)
    · rw [List.mem_singleton.mp hg]; exact K.mem f (List.mem_append_right _ (.head _))
  · have := K.inc
    simpa using this
  · intro g hg
    rcases List.mem_append.mp hg with hg | hg
    · exact K.pos g (List.mem_append_left _ hg)
    · rw [List.mem_singleton.mp hg]; exact h
  · intro g hg
    rcases List.mem_append.mp hg with hg | hg
    · exact K.sin g (List.mem_append_left _ hg)
    · rw [List.mem_singleton.mp hg]; exact K.sin f (List.mem_append_right _ (.head _))
  · have := K.keys
    simpa using this
theorem FOK.more {I : Addr} {io : Obj} (K : FOK w nodes a o2 so [] kvs seen n BL) {ie se : Nat} (h : ∀ p ∈ FL a o2 so ie se [] BL, p.1 ≠ I) : FOK w nodes a o2 so [] kvs seen n ((I, io) :: BL) := by
  obtain ⟨x1, x2, x3, x4, x5, x6, y1, y2, y3, y4, z⟩ := K.facts
  have c : ∀ x, I ≠ x → (∀ p ∈ BL, p.1 ≠ x) → ∀ p ∈ (I, io) :: BL, p.1 ≠ x := fun x hx hr p hp => by
    rcases List.mem_cons.mp hp with rfl | hp
    · exact hx
    · exact hr p hp
  refine ⟨fun ie se => nd_facts ⟨x1, x2, x3, x4, x5, x6⟩ (c _ (h (a.D2, _) (.head _)).symm y1) (c _ (h (a.SE, _) (.tail _ (.head _))).symm y2) (c _ (h (a.IT, _) (.tail _ (.tail _ (.head _)))).symm y3) (c _ (h (a.S, _) (.tail _ (.tail _ (.tail _ (.head _))))).symm y4) (ND.cons z fun p hp => h p (.tail _ (.tail _ (.tail _ (.tail _ hp))))), K.mem, K.inc, K.pos, K.sin, K.dict, K.keys, K.set, K.cnt, K.lo, fun nd hn => .tail _ (K.suc nd hn)⟩
theorem FOK.less {I : Addr} {io : Obj} (K : FOK w nodes a o2 so [] kvs seen n ((I, io) :: BL)) (hs : ∀ nd ∈ nodes, (nd.sa, listOf (vals nd.si).toArray nd.ep) ∈ BL) : FOK w nodes a o2 so [] kvs seen n BL := by
  obtain ⟨x1, x2, x3, x4, x5, x6, y1, y2, y3, y4, z⟩ := K.facts
  exact ⟨fun ie se => nd_facts ⟨x1, x2, x3, x4, x5, x6⟩ (fun p hp => y1 p (.tail _ hp)) (fun p hp => y2 p (.tail _ hp)) (fun p hp => y3 p (.tail _ hp)) (fun p hp => y4 p (.tail _ hp)) (ND.tail z), K.mem, K.inc, K.pos, K.sin, K.dict, K.keys, K.set, K.cnt, K.lo, hs⟩
theorem FOK.apartI {I : Addr} {io : Obj} (K : FOK w nodes a o2 so [] kvs seen n ((I, io) :: BL)) {ie se : Nat} : ∀ p ∈ FL a o2 so ie se [] BL, p.1 ≠ I := by
  obtain ⟨x1, x2, x3, x4, x5, x6, y1, y2, y3, y4, z⟩ := K.facts
  intro p hp
  rcases List.mem_cons.mp hp with rfl | hp
  · exact (y1 (I, io) (.head _)).symm
  rcases List.mem_cons.mp hp with rfl | hp
  · exact (y2 (I, io) (.head _)).symm
  rcases List.mem_cons.mp hp with rfl | hp
  · exact (y3 (I, io) (.head _)).symm
  rcases List.mem_cons.mp hp with rfl | hp
  · exact (y4 (I, io) (.head _)).symm
  · exact ND.head z p hp
theorem fok_init {D2 SE IT S : Addr} (hd : o2.IsDictOf (intKind PR w) []) (hs : so.SetObjOf (intKind PR w) (fun _ => false) 0) (lo : (D2 == sysModules) = false) (h1 : S < IT) (h2 : IT < SE) (h3 : SE < D2) (hb : ∀ p ∈ BL, p.1 < S) (nb : ND BL)
    (hsu : ∀ nd ∈ nodes, (nd.sa, listOf (vals nd.si).toArray nd.ep) ∈ BL) : FOK w nodes ⟨D2, SE, IT, S⟩ o2 so [] [] (fun _ => false) 0 BL := by
  have lt : ∀ x, S ≤ x → ∀ p ∈ BL, p.1 ≠ x := fun x hx p hp => Nat.ne_of_lt (Nat.lt_of_lt_of_le (hb p hp) hx)
  refine ⟨fun ie se => nd_facts ⟨?_, ?_, ?_, ?_, ?_, ?_⟩ (lt _ ?_) (lt _ ?_) (lt _ ?_) (lt _ ?_) nb, (fun _ h => nomatch h), .nil, (fun _ h => nomatch h), (fun _ h => nomatch h), hd, rfl, hs, by rw [List.filter_eq_nil_iff.mpr (fun _ _ h => Bool.noConfusion h)]; rfl, lo, hsu⟩
  · exact (Nat.ne_of_gt h3 : D2 ≠ SE)
  · exact (Nat.ne_of_gt (Nat.lt_trans h2 h3) : D2 ≠ IT)
  · exact (Nat.ne_of_gt (Nat.lt_trans h1 (Nat.lt_trans h2 h3)) : D2 ≠ S)
  · exact (Nat.ne_of_gt h2 : SE ≠ IT)
  · exact (Nat.ne_of_gt (Nat.lt_trans h1 h2) : SE ≠ S)
  · exact (Nat.ne_of_gt h1 : IT ≠ S)
  · exact Nat.le_of_lt (Nat.lt_trans h1 (Nat.lt_trans h2 h3))
  · exact Nat.le_of_lt (Nat.lt_trans h1 h2)
  · exact Nat.le_of_lt h1
  · exact Nat.le_refl _
theorem mea_pop {f : Fk} : mea nodes seen st < mea nodes seen (st ++ [f]) := by
  unfold mea; rw [List.map_append, List.sum_append]; simp only [List.map_cons, List.map_nil, List.sum_cons, List.sum_nil]; omega
theorem mea_step {f : Fk} (h : f.pos < f.nd.si.length) : mea nodes seen (st ++ [{ f with pos := f.pos + 1 }]) < mea nodes seen (st ++ [f]) := by
  unfold mea; simp only [List.map_append, List.sum_append, List.map_cons, List.map_nil, List.sum_cons, List.sum_nil]; omega
end
section
variable {prog : Program} {w : World} {A : Around} {env : Env} {Q : Flow → Shared → Prop} {E : Value → Shared → Prop} {s : Shared}
theorem seq_mid {x : Stmt} {rest : List Stmt} (Mid : Shared → Prop) (h1 : wpAny (model prog w) A (exec x env) (fun f s => match f with | .next => Mid s | f => Q f s) E s) (h2 : ∀ s', Mid s' → wpAny (model prog w) A (execs rest env) Q E s') : wpAny (model prog w) A (execs (x :: rest) env) Q E s := by
  refine wpAny_execs_cons (wpAny_mono h1 (fun f s' hf => ?_) fun _ _ e => e)
  cases f with
  | next => exact h2 _ hf
  | brk => exact hf
  | cont => exact hf
  | ret v => exact hf
end

theorem vat_isSome {kvs : List (Int × Value)} {k : Int} : (valueAt kvs k).isSome = decide (k ∈ kvs.map (·.1)) := by
  unfold valueAt
  rw [Option.isSome_map]
  by_cases h : k ∈ kvs.map (·.1)
  · rw [decide_eq_true h, List.find?_isSome]
    obtain ⟨p, hp, e⟩ := List.mem_map.mp h
    exact ⟨p, hp, by simpa using e⟩
  · rw [decide_eq_false h]
    cases hq : kvs.find? (fun kv => decide (kv.1 = k)) with
    | none => rfl
    | some p =>
      have h1 := List.find?_some hq
      have h2 := List.mem_of_find?_eq_some hq
      exact absurd (List.mem_map.mpr ⟨p, h2, by simpa using h1⟩) h
theorem stored_new {kvs : List (Int × Value)} {k : Int} {v : Value} (h : k ∉ kvs.map (·.1)) : stored kvs k v = kvs ++ [(k, v)] := by
  unfold stored
  rw [if_neg]
  intro q
  obtain ⟨p, hp, e⟩ := List.any_eq_true.mp q
  exact h (List.mem_map.mpr ⟨p, hp, by simpa using e⟩)

theorem len_sub {α : Type} [DecidableEq α] : ∀ {l r : List α}, l.Nodup → (∀ x ∈ l, x ∈ r) → l.length ≤ r.length
  | [], _, _, _ => Nat.zero_le _
  | x :: l, r, hn, hs => by
    have hn' := List.nodup_cons.mp hn
    have hx := hs x (.head _)
    have h1 := len_sub (r := r.erase x) hn'.2 (fun y hy => (List.mem_erase_of_ne (a := y) (b := x) (fun e => hn'.1 (by rw [← e]; exact hy))).mpr (hs y (.tail _ hy)))
    rw [List.length_erase_of_mem hx] at h1
    have : 0 < r.length := List.length_pos_of_mem hx
    show l.length + 1 ≤ _
    omega
theorem FOK.len {w : World} {nodes : List Nd} {a : FA} {o2 so : Obj} {st : List Fk} {kvs : List (Int × Value)} {seen : Int → Bool} {n : Nat} {BL : List (Addr × Obj)} (K : FOK w nodes a o2 so st kvs seen n BL) : st.length ≤ nodes.length := by
  have hnd : (st.map (·.nd.k)).Nodup := List.Pairwise.imp (fun h => Int.ne_of_lt h) K.inc
  have h := len_sub (r := nodes.map (·.k)) hnd (fun x hx => by
    obtain ⟨f, hf, e⟩ := List.mem_map.mp hx
    rw [← e]; exact List.mem_map_of_mem (K.mem f hf))
  simpa using h
theorem FOK.klen {w : World} {nodes : List Nd} {a : FA} {o2 so : Obj} {st : List Fk} {kvs : List (Int × Value)} {seen : Int → Bool} {n : Nat} {BL : List (Addr × Obj)} (K : FOK w nodes a o2 so st kvs seen n BL) : kvs.length = st.length := by
  have := congrArg List.length K.keys
  simpa using this

section
variable {w : World} {nodes : List Nd} {a : FA} {o2 so o2' so' : Obj} {st : List Fk} {kvs : List (Int × Value)} {seen : Int → Bool} {n : Nat} {BL : List (Addr × Obj)}
theorem filter_cnt {nd : Nd} : ∀ {l : List Nd}, (l.map (·.k)).Nodup → nd ∈ l → seen nd.k = false → (l.filter fun x => seen x.k || decide (x.k = nd.k)).length = (l.filter fun x => seen x.k).length + 1 ∧ (l.filter fun x => !(seen x.k || decide (x.k = nd.k))).length + 1 = (l.filter fun x => !seen x.k).length
  | [], _, hm, _ => nomatch hm
  | y :: l, hn, hm, hs => by
    rw [List.map_cons, List.nodup_cons] at hn
    by_cases e : y.k = nd.k
    · have rest : ∀ x ∈ l, (seen x.k || decide (x.k = nd.k)) = seen x.k := fun x hx => by
        have : x.k ≠ nd.k := fun q => hn.1 (by rw [e, ← q]; exact List.mem_map_of_mem hx)
        simp [this]
      have r2 : ∀ x ∈ l, (!(seen x.k || decide (x.k = nd.k))) = !seen x.k := fun x hx => by rw [rest x hx]
      have hy : seen y.k = false := by rw [e]; exact hs
      rw [List.filter_cons, List.filter_cons, List.filter_cons, List.filter_cons, List.filter_congr rest, List.filter_congr r2]
      simp [e, hs]
    · have hm' : nd ∈ l := by
        rcases List.mem_cons.mp hm with q | q
        · exact absurd (by rw [q]) e
        · exact q
      obtain ⟨i1, i2⟩ := filter_cnt hn.2 hm' hs
      rw [List.filter_cons, List.filter_cons, List.filter_cons, List.filter_cons]
      simp only [Bool.not_or] at i2
      cases hq : seen y.k <;> simp [hq, e, i1] <;> omega
theorem FOK.push {nd : Nd} {tk : Tok} {M I : Addr} {v : Value} (K : FOK w nodes a o2 so st kvs seen n BL) (hk : (nodes.map (·.k)).Nodup) (hnd : nd ∈ nodes) (hs : seen nd.k = false) (hlt : ∀ f ∈ st, f.nd.k < nd.k)
    (hd : o2'.IsDictOf (intKind PR w) (stored kvs nd.k v)) (hset : so'.SetObjOf (intKind PR w) (fun k' => seen k' || decide (k' = nd.k)) (n + 1)) {ie se : Nat} {oa ob : Obj} (hI : ∀ p ∈ FL a oa ob ie se st BL, p.1 < I) (hM : I < M) :
    FOK w nodes a o2' so' (st ++ [⟨nd, tk, 0, M, I⟩]) (kvs ++ [(nd.k, v)]) (fun k' => seen k' || decide (k' = nd.k)) (n + 1) BL := by
  obtain ⟨x1, x2, x3, x4, x5, x6, y1, y2, y3, y4, z⟩ := K.facts
  have hnk : nd.k ∉ kvs.map (·.1) := by
    rw [K.keys]; intro q
    obtain ⟨f, hf, e⟩ := List.mem_map.mp q
    have := hlt f hf
    have e' : f.nd.k = nd.k := e
    omega
  rw [stored_new hnk] at hd
  have pm : (SO (st ++ [⟨nd, tk, 0, M, I⟩]) ++ BL).Perm ((I, liObj nd.sa 0) :: (M, mwObj I) :: (SO st ++ BL)) := by
    rw [SO_snoc, List.append_assoc]
    exact List.perm_middle.trans (List.Perm.cons _ List.perm_middle)
  have c : ∀ x, x < I → (∀ p ∈ SO st ++ BL, p.1 ≠ x) → ∀ p ∈ SO (st ++ [⟨nd, tk, 0, M, I⟩]) ++ BL, p.1 ≠ x := fun x hx hr p hp => by
    rcases List.mem_cons.mp (pm.mem_iff.mp hp) with rfl | hp
    · exact Nat.ne_of_gt hx
    rcases List.mem_cons.mp hp with rfl | hp
    · exact Nat.ne_of_gt (Nat.lt_trans hx hM)
    · exact hr p hp
  have hT : ∀ p ∈ SO st ++ BL, p.1 < I := fun p hp => hI p (.tail _ (.tail _ (.tail _ (.tail _ hp))))
  have z' : ND (SO (st ++ [⟨nd, tk, 0, M, I⟩]) ++ BL) := by
    refine ND.perm (ND.cons (ND.cons z fun p hp => Nat.ne_of_lt (Nat.lt_trans (hT p hp) hM)) fun p hp => ?_) pm
    rcases List.mem_cons.mp hp with rfl | hp
    · exact Nat.ne_of_gt hM
    · exact Nat.ne_of_lt (hT p hp)
  refine ⟨fun ie' se' => nd_facts ⟨x1, x2, x3, x4, x5, x6⟩ (c _ (hI (a.D2, _) (.head _)) y1) (c _ (hI (a.SE, _) (.tail _ (.head _))) y2) (c _ (hI (a.IT, _) (.tail _ (.tail _ (.head _)))) y3) (c _ (hI (a.S, _) (.tail _ (.tail _ (.tail _ (.head _))))) y4) z', ?_, ?_, ?_, ?_, hd, ?_, hset, ?_, K.lo, K.suc⟩
  · intro f hf
    rcases List.mem_append.mp hf with hf | hf
    · exact K.mem f hf
    · rw [List.mem_singleton.mp hf]; exact hnd
  · rw [List.map_append]
    refine List.pairwise_append.mpr ⟨K.inc, List.pairwise_singleton _ _, fun x hx y hy => ?_⟩
    obtain ⟨f, hf, rfl⟩ := List.mem_map.mp hx
    rw [List.map_cons, List.map_nil, List.mem_singleton] at hy
    rw [hy]; exact hlt f hf
  · intro f hf
    rcases List.mem_append.mp hf with hf | hf
    · exact K.pos f hf
    · rw [List.mem_singleton.mp hf]; exact Nat.zero_le _
  · intro f hf
    rcases List.mem_append.mp hf with hf | hf
    · rw [K.sin f hf]; rfl
    · rw [List.mem_singleton.mp hf]; simp
  · rw [List.map_append, List.map_append, K.keys]; rfl
  · rw [K.cnt]; exact (filter_cnt hk hnd hs).1.symm
theorem mea_push {nd : Nd} {tk : Tok} {M I : Addr} (hk : (nodes.map (·.k)).Nodup) (hnd : nd ∈ nodes) (hs : seen nd.k = false) (hz : nd.si.length ≤ 1000) :
    mea nodes (fun k' => seen k' || decide (k' = nd.k)) (st ++ [⟨nd, tk, 0, M, I⟩]) ≤ mea nodes seen st := by
  have := (filter_cnt hk hnd hs).2
  unfold mea
  rw [List.map_append, List.sum_append]
  simp only [List.map_cons, List.map_nil, List.sum_cons, List.sum_nil]
  omega
end

theorem push_sub {a : FA} {o2 so : Obj} {ie se : Nat} {st : List Fk} {nd : Nd} {tk : Tok} {M I : Addr} {BL : List (Addr × Obj)} : ∀ p ∈ FL a o2 so ie se (st ++ [⟨nd, tk, 0, M, I⟩]) BL,
    p ∈ (M, mwObj I) :: (I, liObj nd.sa 0) :: (a.D2, o2) :: (a.SE, so) :: (a.IT, listOf ((refsOf st).toArray.push (.ref M)) ie) :: (a.S, listOf ((keysOf st).toArray.push (.int nd.k tk)) se) :: (SO st ++ BL) := by
  have e1 : (refsOf (st ++ [⟨nd, tk, 0, M, I⟩])).toArray = (refsOf st).toArray.push (.ref M) := by simp
  have e2 : (keysOf (st ++ [⟨nd, tk, 0, M, I⟩])).toArray = (keysOf st).toArray.push (.int nd.k tk) := by simp
  intro p hp
  unfold FL at hp
  rw [e1, e2, SO_snoc, List.append_assoc] at hp
  rcases List.mem_cons.mp hp with rfl | hp
  · exact .tail _ (.tail _ (.head _))
  rcases List.mem_cons.mp hp with rfl | hp
  · exact .tail _ (.tail _ (.tail _ (.head _)))
  rcases List.mem_cons.mp hp with rfl | hp
  · exact .tail _ (.tail _ (.tail _ (.tail _ (.head _))))
  rcases List.mem_cons.mp hp with rfl | hp
  · exact .tail _ (.tail _ (.tail _ (.tail _ (.tail _ (.head _)))))
  rcases List.mem_append.mp hp with hp | hp
  · exact .tail _ (.tail _ (.tail _ (.tail _ (.tail _ (.tail _ (List.mem_append_left _ hp))))))
  rcases List.mem_append.mp hp with hp | hp
  · rcases List.mem_cons.mp hp with rfl | hp
    · exact .tail _ (.head _)
    rw [List.mem_singleton.mp hp]
    exact .head _
  · exact .tail _ (.tail _ (.tail _ (.tail _ (.tail _ (.tail _ (List.mem_append_right _ hp))))))
/-! part L9 -/
set_option maxHeartbeats 1000000
set_option maxHeartbeats 4000000
section
variable {prog : Program} {w : World} {A : Around} {s : Shared} {env : Env} {g g₁ : Heap} {L : Addr} {fs : List Addr} {target : PySem.Expr} {body orelse : List Stmt} {Q : Flow → Shared → Prop} {E : Value → Shared → Prop} {m₀ mu : Str → Option Value} {xs : List Str} {nx : List (Addr × Obj)}
/-- a state of the frame, over a ground that may have turned -/
inductive At (fs : List Addr) (g : Heap) (L : Addr) (s : Shared) (xs : List Str) (m₀ : Str → Option Value) (J : (Str → Option Value) → List (Addr × Obj) → Prop) : Shared → Prop
  | mk (g' h : Heap) (tk : Nat) (m' : Str → Option Value) (nx : List (Addr × Obj)) (T : KtsTurn fs g g') (F : Fr g' L h m') (N : News g' L h nx) (S : Same xs m' m₀) (j : J m' nx) : At fs g L s xs m₀ J { s with heap := h, toks := tk }
theorem At.mk' {J : (Str → Option Value) → List (Addr × Obj) → Prop} {g' h : Heap} {tk : Nat} {m' : Str → Option Value} {all nx : List (Addr × Obj)} (T : KtsTurn fs g g') (F : Fr g' L h m') (N : News g' L h all) (hsub : ∀ p ∈ nx, p ∈ all) (hS : Same xs m' m₀) (hJ : J m' nx) : At fs g L s xs m₀ J { s with heap := h, toks := tk } :=
  ⟨g', h, tk, m', nx, T, F, fun p hp => N p (hsub p hp), hS, hJ⟩
def TurnW (fs : List Addr) (g : Heap) (L : Addr) (s : Shared) (xs : List Str) (m₀ : Str → Option Value) (J : Nat → (Str → Option Value) → List (Addr × Obj) → Prop) (n : Nat) (Q : Flow → Shared → Prop) (f : Flow) (s₃ : Shared) : Prop :=
  match f with
  | .ret v => Q (.ret v) s₃
  | .brk => Q .next s₃
  | _ => ∃ n', n' < n ∧ At fs g L s xs m₀ (J n') s₃
theorem while_G {test : PySem.Expr} {pos : Pos} (xs : List Str) (J : Nat → (Str → Option Value) → List (Addr × Obj) → Prop) (T : KtsTurn fs g g₁) (F : Fr g₁ L s.heap (mm xs mu m₀)) (N : News g₁ L s.heap nx) {n₀ : Nat} (hJ : J n₀ (mm xs mu m₀) nx)
    (turn : ∀ n g' mu nx h tk (Qt : Flow → Shared → Prop), (∀ f s', TurnW fs g L s xs m₀ J n Q f s' → Qt f s') → KtsTurn fs g g' → J n (mm xs mu m₀) nx → Fr g' L h (mm xs mu m₀) → News g' L h nx → wpAny (model prog w) A (isTrue test env (eval test env)) (fun b s₂ =>
        if b = true then wpAny (model prog w) A (execs body env) Qt (fun _ _ => False) s₂
        else wpAny (model prog w) A (execs orelse env) Q (fun _ _ => False) s₂) (fun _ _ => False) { s with heap := h, toks := tk }) :
    wpAny (model prog w) A (exec (.While test body orelse pos) env) Q (fun _ _ => False) s := by
  have sm : Same xs (mm xs mu m₀) m₀ := fun z hz => by show (if xs.contains z = true then _ else _) = _; rw [hz]; rfl
  refine while_rule (fun n s' => At fs g L s xs m₀ (J n) s') ?_ n₀ ⟨g₁, s.heap, s.toks, mm xs mu m₀, nx, T, F, N, sm, hJ⟩
  rintro n s' ⟨g', h, tk, m', nx', T', F', N', hS, hJ'⟩
  rw [hS.mm] at F' hJ'
  refine wpAny_mono (turn n g' m' nx' h tk (TurnW fs g L s xs m₀ J n Q) (fun _ _ h => h) T' hJ' F' N') (fun b s₂ h₂ => ?_) fun _ _ e => e
  cases b with
  | false => simpa only [Bool.false_eq_true, if_false] using h₂
  | true =>
    simp only [if_true] at h₂ ⊢
    exact wpAny_mono h₂ (fun f s₃ h₃ => by cases f <;> exact h₃) fun _ _ e => e
theorem seq_G {x : Stmt} {rest : List Stmt} (xs : List Str) (J : (Str → Option Value) → List (Addr × Obj) → Prop) (T : KtsTurn fs g g₁) (F : Fr g₁ L s.heap (mm xs mu m₀))
    (h1 : ∀ Q1 : Flow → Shared → Prop, (∀ s', At fs g L s xs m₀ J s' → Q1 .next s') → wpAny (model prog w) A (exec x env) Q1 E s)
    (h2 : ∀ g' mu nx h tk, KtsTurn fs g g' → J (mm xs mu m₀) nx → Fr g' L h (mm xs mu m₀) → News g' L h nx → wpAny (model prog w) A (execs rest env) Q E { s with heap := h, toks := tk }) :
    wpAny (model prog w) A (execs (x :: rest) env) Q E s := by
  refine seq_mid _ (h1 (fun f s' => match f with | .next => At fs g L s xs m₀ J s' | f => Q f s') fun _ h => h) ?_
  rintro s' ⟨g', h, tk, m', nx', T', F', N', hS, hJ'⟩
  rw [hS.mm] at F' hJ'
  exact h2 g' m' nx' h tk T' hJ' F' N'
variable {K : Type} [DecidableEq K] {knd : PySem.KeyKind prog w K}
theorem keys_G {news : List (Addr × Obj)} {d : Addr} {od : Obj} {kvs : List (K × Value)} (fs : List Addr) (xs : List Str) (J : Nat → (Str → Option Value) → List (Addr × Obj) → Prop) (hh : A.handled = none) (lo : (d == sysModules) = false) (hl : (d, od) ∈ news) (hd : od.IsDictOf knd kvs)
    (hks : ∀ i m nx, J i m nx → (d, od) ∈ nx) (ht : ∀ I v, letOwnedTupleGo target (.ref I) v = pure ()) (F : Fr g env.locals s.heap m₀) (N : News g env.locals s.heap news) (hj : J 0 m₀ news)
    (turn : ∀ i k x v g' mu nx h tk I io (Qt : Flow → Shared → Prop), (∀ f s', TurnG fs g env.locals s I io (fun m' nx => Same xs m' m₀ ∧ J (i + 1) m' nx) Q f s' → Qt f s') → KtsTurn fs g g' → kvs[i]? = some (k, x) → knd.is k v = true → J i (mm xs mu m₀) nx → (∀ p ∈ nx, p.1 ≠ I) → (∀ p ∈ news, p.1 < I) → Fr g' env.locals h (mm xs mu m₀) → News g' env.locals h ((I, io) :: nx) →
      wpAny (model prog w) A (assign target env v) (fun _ s₂ => wpAny (model prog w) A (execs body env) Qt (fun _ _ => False) s₂) (fun _ _ => False) { s with heap := h, toks := tk })
    (done : ∀ g' mu nx h tk, KtsTurn fs g g' → J kvs.length (mm xs mu m₀) nx → Fr g' env.locals h (mm xs mu m₀) → News g' env.locals h nx → Q .next { s with heap := h, toks := tk }) :
    wpAny (model prog w) A (pyIter (.ref d)) (fun it s₂ => LoopX prog w A env target body Q it s₂) (fun _ _ => False) s := by
  refine iter_keysG (knd := knd) (fs := fs) (fun i m nx => Same xs m m₀ ∧ J i m nx) hh lo hl hd (fun i m nx h => hks i m nx h.2) ht F N ⟨Same.refl _ _, hj⟩ ?_ ?_
  · rintro i k x v g' m' nx h tk I io T hk hv ⟨hS, hJ⟩ hn hlt F' N'
    rw [hS.mm] at F' hJ
    exact turn i k x v g' m' nx h tk I io _ (fun _ _ h => h) T hk hv hJ hn hlt F' N'
  · rintro g' m' nx h tk T ⟨hS, hJ⟩ F' N'
    rw [hS.mm] at F' hJ
    exact done g' m' nx h tk T hJ F' N'
end
theorem mm_fix {x : Str} {v : Value} {mu m₀ : Str → Option Value} (h : (mm [x] mu m₀) x = some v) : mm [x] mu m₀ = fun y => if y = x then some v else m₀ y := by
  funext y
  by_cases e : y = x
  · subst e; rw [if_pos rfl]; exact h
  · rw [if_neg e]
    show (if ([x] : List Str).contains y = true then _ else _) = _
    rw [if_neg]
    simp [e]
theorem Fr_mm {g h : Heap} {L : Addr} {m : Str → Option Value} (xs : List Str) (F : Fr g L h m) : Fr g L h (mm xs m m) := by rw [← (Same.refl xs m).mm]; exact F
/-! part BE2 -/
set_option maxHeartbeats 1000000
set_option maxHeartbeats 8000000
theorem item_last {prog : Program} {w : World} {A : Around} {E : Value → Shared → Prop} {s : Shared} {value slice : PySem.Expr} {l : Addr} {vs : List Value} {v : Value} {u : Tok} {Q : Value → Shared → Prop} (hl : s.heap.IsList l (vs ++ [v]).toArray) (h : Q v s)
    (hs : subscripted slice false (.ref l) (.int (-1) u) = operate [.ref l, .int (-1) u] (getItem (.ref l) (.int (-1) u)) := by with_unfolding_all rfl) :
    wpAny (model prog w) A (subscriptTail value slice (.ref l) (.int (-1) u)) Q E s :=
  tail_any hl.typeIs slot_list_getitem.lookup (wpAny_getItem_list_neg hl (by decide) (by rw [List.size_toArray, List.length_append, List.length_singleton]; omega) (by decide) (by
    rw [List.size_toArray, List.length_append, List.length_singleton, show ((-1 : Int) + ((vs.length + 1 : Nat) : Int)).toNat = vs.length by omega]; simp) h) hs
/-- the ledger of the search, the iterator of the last frame taken out -/
abbrev TL (a : FA) (o2 so : Obj) (ie se : Nat) (st : List Fk) (f : Fk) (BL : List (Addr × Obj)) : List (Addr × Obj) :=
  (a.D2, o2) :: (a.SE, so) :: (a.IT, listOf (refsOf st ++ [Value.ref f.mw]).toArray ie) :: (a.S, listOf (keysOf st ++ [Value.int f.nd.k f.tk]).toArray se) :: (SO st ++ (f.mw, mwObj f.it) :: BL)
theorem FL_perm {a : FA} {o2 so : Obj} {ie se : Nat} {st : List Fk} {f : Fk} {BL : List (Addr × Obj)} : (FL a o2 so ie se (st ++ [f]) BL).Perm ((f.it, liObj f.nd.sa f.pos) :: TL a o2 so ie se st f BL) := by
  unfold FL TL
  rw [SO_snoc, List.append_assoc, show refsOf (st ++ [f]) = refsOf st ++ [Value.ref f.mw] by simp, show keysOf (st ++ [f]) = keysOf st ++ [Value.int f.nd.k f.tk] by simp]
  refine List.Perm.trans ?_ (List.perm_middle (l₁ := [_, _, _, _]) (a := (f.it, liObj f.nd.sa f.pos)))
  refine List.Perm.append_left [_, _, _, _] ?_
  exact List.perm_middle
theorem FOK.top {w : World} {nodes : List Nd} {a : FA} {o2 so : Obj} {st : List Fk} {f : Fk} {kvs : List (Int × Value)} {seen : Int → Bool} {n : Nat} {BL : List (Addr × Obj)} (K : FOK w nodes a o2 so (st ++ [f]) kvs seen n BL) (ie se : Nat) : ND ((f.it, liObj f.nd.sa f.pos) :: TL a o2 so ie se st f BL) :=
  (K.nd ie se).perm FL_perm.symm
theorem FOK.topv {w : World} {nodes : List Nd} {a : FA} {o2 so : Obj} {st : List Fk} {f : Fk} {kvs : List (Int × Value)} {seen : Int → Bool} {n : Nat} {BL : List (Addr × Obj)} (K : FOK w nodes a o2 so (st ++ [f]) kvs seen n BL) : (valueAt kvs f.nd.k).isSome = true := by
  rw [vat_isSome, K.keys, List.map_append]
  exact decide_eq_true (List.mem_append_right _ (.head _))
theorem without_last {kvs : List (Int × Value)} {k : Int} : ∀ {ks : List Int}, kvs.map (·.1) = ks ++ [k] → (ks ++ [k]).Nodup → (without kvs k).map (·.1) = ks := by
  induction kvs with
  | nil => intro ks h; simp at h
  | cons p r ih =>
    intro ks h hn
    cases ks with
    | nil =>
      simp only [List.map_cons, List.nil_append, List.cons.injEq, List.map_eq_nil_iff] at h
      obtain ⟨h1, rfl⟩ := h
      simp [without, h1]
    | cons k' ks =>
      simp only [List.map_cons, List.cons_append, List.cons.injEq] at h
      have hn' := List.nodup_cons.mp hn
      have hne : p.1 ≠ k := fun e => hn'.1 (by rw [← h.1, e]; simp)
      have := ih h.2 hn'.2
      unfold without at this ⊢
      rw [List.filter_cons, if_pos (by simpa using hne), List.map_cons, this, h.1]
theorem FOK.popd {w : World} {nodes : List Nd} {a : FA} {o2 o2' so : Obj} {st : List Fk} {f : Fk} {kvs : List (Int × Value)} {seen : Int → Bool} {n : Nat} {BL : List (Addr × Obj)} (K : FOK w nodes a o2 so (st ++ [f]) kvs seen n BL) (hd : o2'.IsDictOf (intKind PR w) (without kvs f.nd.k)) :
    FOK w nodes a o2' so st (without kvs f.nd.k) seen n BL := by
  refine K.pop hd (without_last (by rw [K.keys, List.map_append]; rfl) ?_)
  have := K.inc
  rw [List.map_append] at this
  exact List.Pairwise.imp (fun h => Int.ne_of_lt h) this
theorem TL_pop {a : FA} {o2 so : Obj} {ie se : Nat} {st : List Fk} {f : Fk} {BL : List (Addr × Obj)} : ∀ p ∈ FL a o2 so ie se st BL, p ∈ (a.D2, o2) :: (a.SE, so) :: (a.IT, listOf (refsOf st).toArray ie) :: (a.S, listOf (keysOf st).toArray se) :: (SO st ++ (f.mw, mwObj f.it) :: BL) :=
  fun _ hp => (List.Sublist.append_left (.cons _ (List.Sublist.refl BL)) (_ :: _ :: _ :: _ :: SO st)).subset hp
theorem callWith_mw {M : Model} {A : Around} {E : Value → Shared → Prop} {s : Shared} {env : Env} {pos : Pos} {Q : Value → Shared → Prop} {mw it : Addr} (hm : s.heap.get? mw = some (mwObj it)) (h : wpAny M A (call (.ref mw) []) Q E s) :
    wpAny M A (callWith pos (.ref mw) [] (backTo pos (starEach [] env)) []) Q E s := by
  refine callWith_of (P := fun h => h.get? mw = some (mwObj it)) rfl (fun h hp => ⟨.machine, .inr (.inl rfl), ?_⟩) (evalArgs_nil3 ⟨hm, h⟩)
  unfold keeperOf
  refine (Looks.ld (part := none) hp).andThen ?_
  exact .now
/-! part BF -/
set_option maxHeartbeats 1000000
set_option maxHeartbeats 8000000
/-- the search's ledger: by its measure; with the node; with the stack empty -/
inductive JF (w : World) (nodes : List Nd) (a : FA) (BL : List (Addr × Obj)) (M : Nat) : List (Addr × Obj) → Prop
  | mk (o2 so : Obj) (ie se : Nat) (st : List Fk) (kvs : List (Int × Value)) (seen : Int → Bool) (n : Nat) (K : FOK w nodes a o2 so st kvs seen n BL) (e : mea nodes seen st ≤ M) : JF w nodes a BL M (FL a o2 so ie se st BL)
inductive JW (w : World) (nodes : List Nd) (a : FA) (BL : List (Addr × Obj)) (M0 M : Nat) : List (Addr × Obj) → Prop
  | mk (o2 so : Obj) (ie se : Nat) (st : List Fk) (kvs : List (Int × Value)) (seen : Int → Bool) (n : Nat) (K : FOK w nodes a o2 so st kvs seen n BL) (e : M = mea nodes seen st) (le : M ≤ M0) : JW w nodes a BL M0 M (FL a o2 so ie se st BL)
inductive JN (w : World) (nodes : List Nd) (a : FA) (BL : List (Addr × Obj)) (M : Nat) (m : Str → Option Value) : List (Addr × Obj) → Prop
  | mk (o2 so : Obj) (ie se : Nat) (st : List Fk) (kvs : List (Int × Value)) (seen : Int → Bool) (n : Nat) (kk : Int) (tkk : Tok) (K : FOK w nodes a o2 so st kvs seen n BL) (e : M = mea nodes seen st) (hm : m (Str.ofString "node") = some (.int kk tkk)) (hk : kk ∈ nodes.map (·.k)) (hl : ∀ f ∈ st, f.nd.k < kk) : JN w nodes a BL M m (FL a o2 so ie se st BL)
inductive JE (w : World) (nodes : List Nd) (a : FA) (BL : List (Addr × Obj)) : List (Addr × Obj) → Prop
  | mk (o2 so : Obj) (ie se : Nat) (kvs : List (Int × Value)) (seen : Int → Bool) (n : Nat) (K : FOK w nodes a o2 so [] kvs seen n BL) : JE w nodes a BL (FL a o2 so ie se [] BL)
theorem Fr_same {g h : Heap} {L : Addr} {m mz : Str → Option Value} {xs : List Str} (F : Fr g L h m) (S : Same xs m mz) : Fr g L h (mm xs m mz) := S.mm ▸ F
theorem Fr_letter {g h : Heap} {L : Addr} {m : Str → Option Value} {P : Prop} (F : Fr g L h m) (k : ∀ mz, mz = m → Fr g L h mz → P) : P := k m rfl F
section
variable {w : World} {A : Around} {h₀ : Heap} {L : Addr} {m : Str → Option Value} {s : Shared} {rest : List (Addr × Obj)} {c : Sx} {tp tf : Nat} {np nf : Int} {r : Value} {od : Obj} {nodes : List Nd} {R : Result → Shared → Prop}
  {A₀ : Around} {base : Heap} {outer : List Env} {env : Env} {p : Program} {loose : List Str} {mean : ExcName → Option Value} {mg mb : Str → Option Value}
theorem turn_back {fs : List Addr} {g g2 h2 : Heap} {Lf I : Addr} {io : Obj} {BL : List (Addr × Obj)} {m₀ m2 : Str → Option Value} {tk2 ie se n : Nat} {a : FA} {o2 so : Obj} {kvs : List (Int × Value)} {seen : Int → Bool} {Q : Flow → Shared → Prop} {f : Flow}
    (K2 : FOK w nodes a o2 so [] kvs seen n ((I, io) :: BL)) (hbl : ∀ nd ∈ nodes, (nd.sa, listOf (vals nd.si).toArray nd.ep) ∈ BL) (T : KtsTurn fs g g2) (F : Fr g2 Lf h2 m2) (N : News g2 Lf h2 (FL a o2 so ie se [] ((I, io) :: BL))) (hS : Same ["node"] m2 m₀) (hf : f = .next ∨ f = .cont) :
    TurnG fs g Lf s I io (fun m' nx => Same ["node"] m' m₀ ∧ JE w nodes a BL nx) Q f { s with heap := h2, toks := tk2 } := by
  have key : TurnGE fs g Lf s I io (fun m' nx => Same ["node"] m' m₀ ∧ JE w nodes a BL nx) { s with heap := h2, toks := tk2 } := by
    refine ⟨g2, h2, tk2, m2, FL a o2 so ie se [] BL, T, F, News.sub N (fun p hp => ?_), K2.apartI, hS, o2, so, ie, se, kvs, seen, n, K2.less hbl⟩
    rcases List.mem_cons.mp hp with rfl | hp
    · exact .tail _ (.tail _ (.tail _ (.tail _ (.head _))))
    rcases List.mem_cons.mp hp with rfl | hp
    · exact .head _
    rcases List.mem_cons.mp hp with rfl | hp
    · exact .tail _ (.head _)
    rcases List.mem_cons.mp hp with rfl | hp
    · exact .tail _ (.tail _ (.head _))
    rcases List.mem_cons.mp hp with rfl | hp
    · exact .tail _ (.tail _ (.tail _ (.head _)))
    · exact .tail _ (.tail _ (.tail _ (.tail _ (.tail _ hp))))
  rcases hf with rfl | rfl <;> exact key
theorem c_find (G : Gr0 (hd.heap_39 w.params) p loose mean mg mb A₀ base outer h₀) (hA : A.frames = some (env :: outer)) (hf : env.frame = some L) (hke : env.scope.kind = .function) (hh : A.handled = none) (hgu : A.guards = some []) (hdep : A.depth + 5 * 3 < 900) (hun : A.units + 50 * 3 < 9000)
   (F : Fr h₀ L s.heap m) (N : News h₀ L s.heap (SL w c r np nf tp tf od (NN nodes ++ rest))) (K : SOK w c od nodes rest) (hz : nodes.length ≤ 1000)
   (hsuc : ∀ nd ∈ nodes, ∀ p ∈ nd.si, nd.k < p.1 ∧ p.1 ∈ nodes.map (·.k)) (hsl : ∀ nd ∈ nodes, nd.si.length ≤ 1000)
   (h : ∀ h₀' h' t', KtsTurn (fsOf outer) h₀ h₀' → Fr h₀' L h' m → News h₀' L h' (SL w c r np nf tp tf od (NN nodes ++ rest)) → R (.ok (.ret .none)) { s with heap := h', toks := t' })
   : codeAny (model PR w) A (.call (.ref 127) ⟨[.ref c.sx], []⟩) R s := by
  obtain ⟨hd', dep, fr, gu, un⟩ := A
  dsimp only at hA hh hgu hdep hun
  subst hA hh hgu
  have X₀ := G.X
  refine' code_defT (binds := [(Str.ofString "self", .ref c.sx)]) G F N rfl hf hke ?k6 ?k7 ?k8 ?k9 ?kB ?_ ?c2 ?c3 ?c4 ?c5
  case k6 => k_is
  case k7 => k_is
  case k8 => k_room
  case k9 => exact BindsTo.of_eq rfl
  case c5 => decide
  case kB => exact locs rfl
  case c2 => rfl
  case c3 => rfl
  case c4 => rfl
  clear F N
  intro g Lf hh1 Qf hQf FG F' N' G' hlow
  have B' := G'.B
  have X' := G'.X
  have T' := G'.T
  try dsimp only
  try k_fold
  (repeat' ((fail_if_success (with_reducible first | (refine at1 ?_ ?_; constructor) )); (first | (k_unfold; (try dsimp only)) | (k_end; wrow_close) | ((with_reducible show wpAny _ _ (setItem (Value.ref _) (Value.int _ _) _) _ _ _); k_dflt (refine h_set (by k_asm) (by k_asm) (by k_updF) (by k_asm) (by assumption) ?_; k_whole); intro _ _ _ nN _; (try dsimp only at nN); (try k_sweep)) | ((with_reducible show wpAny _ _ (subscriptTail _ _ (Value.ref _) (Value.int _ _)) _ _ _); first | k_dflt (refine h_item (by k_asm) (by k_mem) (by k_asm) (by assumption) ?_; k_whole) | k_dflt (refine h_tail (by k_asm) (by k_mem) (by k_asm) ?_; k_whole)) | walk1 | (dsimp only; walk1) | (leave1; walk_say "STEP leave1"; try dsimp only) | fail "no step")))
  rename Obj.IsDictOf (intKind _ _) _ _ => hdi
  rename Obj.SetObjOf (intKind _ _) _ _ _ => hsi
  rename Fr _ _ _ _ => F1
  rename News _ _ _ _ => N1
  rename (_ == sysModules) = false => hlo2
  rename_i h8 S h7 a1 a2 a3 lS tS h6 tk1 IT h5 b1 b2 b3 b4 lI tI h4 SE h3 led hz2 c1 c2 c3 c4 c5 lE tE h2 D2 h1 o2 hs2 fs2 fi2 d1 d2 d3 d4 d5 d6 lD tD hL
  have hbl : ∀ nd ∈ nodes, (nd.sa, listOf (vals nd.si).toArray nd.ep) ∈ SL w c r np nf tp tf od (NN nodes ++ rest) := fun nd hm => .tail _ (.tail _ (.tail _ (List.mem_append_left _ (mem_suc hm))))
  have hblS : ∀ p ∈ SL w c r np nf tp tf od (NN nodes ++ rest), p.1 < S := fun p hp => by
    rcases List.mem_cons.mp hp with rfl | hp
    · exact a1
    rcases List.mem_cons.mp hp with rfl | hp
    · exact a2
    rcases List.mem_cons.mp hp with rfl | hp
    · exact a3
    · exact allLt_mem lS p hp
  have K0 := fok_init (nodes := nodes) hdi hsi hlo2 b1 c1 d1 hblS (K.nd r np nf tp tf) hbl
  generalize hBL : SL w c r np nf tp tf od (NN nodes ++ rest) = BL at hbl hblS K0 N1
  have hdBL : (c.d, od) ∈ BL := by rw [← hBL]; exact .tail _ (.tail _ (.head _))
  have hdo := K.dict
  clear lS tS lI tI lE tE lD tD hz2 hs2 fs2 fi2 a1 a2 a3 b1 b2 b3 b4 c1 c2 c3 c4 c5 d1 d2 d3 d4 d5 d6 hdi hsi hlow FG
  refine Fr_letter F1 fun mz emz F1z => ?_
  have m1 : mz (Str.ofString "n2i") = some (.ref c.d) := by rw [emz]; rfl
  have m2 : mz (Str.ofString "stack") = some (.ref S) := by rw [emz]; rfl
  have m3 : mz (Str.ofString "itstack") = some (.ref IT) := by rw [emz]; rfl
  have m4 : mz (Str.ofString "seen") = some (.ref SE) := by rw [emz]; rfl
  have m5 : mz (Str.ofString "node2stacki") = some (.ref D2) := by rw [emz]; rfl
  clear F1 emz
  refine for_rule ?_
  (repeat' ((fail_if_success (with_reducible first | (refine at1 ?_ ?_; constructor) )); (first | ((with_reducible show wpAny _ _ (eval (Expr.Name _ _) (envOf _ _ _ _ _)) _ _ _); refine' nameX_L ?F ?v ?_; (case F => assumption); (case v => (repeat (first | exact if_pos rfl | assumption | refine Eq.trans (if_neg (by decide)) ?_)))) | (k_unfold; (try dsimp only)) | (k_end; wrow_close) | ((with_reducible show wpAny _ _ (setItem (Value.ref _) (Value.int _ _) _) _ _ _); k_dflt (refine h_set (by k_asm) (by k_asm) (by k_updF) (by k_asm) (by assumption) ?_; k_whole); intro _ _ _ nN _; (try dsimp only at nN); (try k_sweep)) | ((with_reducible show wpAny _ _ (subscriptTail _ _ (Value.ref _) (Value.int _ _)) _ _ _); first | k_dflt (refine h_item (by k_asm) (by k_mem) (by k_asm) (by assumption) ?_; k_whole) | k_dflt (refine h_tail (by k_asm) (by k_mem) (by k_asm) ?_; k_whole)) | walk1 | (dsimp only; walk1) | (leave1; walk_say "STEP leave1"; try dsimp only) | fail "no step")))
  refine keys_G (knd := intKind PR w) (od := od) (kvs := kvsOf nodes) (fsOf (env :: outer)) ["node"] (fun i m nx => JE w nodes ⟨D2, SE, IT, S⟩ BL nx) rfl K.lo (.tail _ (.tail _ (.tail _ (.tail _ hdBL)))) hdo ?_ (by intros; rfl) (by assumption) (by assumption) ⟨_, _, _, _, _, _, _, K0⟩ ?_ ?_
  · rintro i m nx ⟨o2, so, ie, se, kvs, seen, n, K⟩
    exact .tail _ (.tail _ (.tail _ (.tail _ hdBL)))
  · rintro i k x v g1 mu nx h1 tk1 I io Qt hQt T1 hkx hkv ⟨o2, so, ie, se, kvs, seen, n, K1⟩ hnI hltI F2 N2
    clear F1z N1
    obtain ⟨tv, rfl⟩ := Value.isInt_shape hkv
    have K2 := K1.more (io := io) hnI
    have N3 : News g1 Lf h1 (FL ⟨D2, SE, IT, S⟩ o2 so ie se [] ((I, io) :: BL)) := News.sub N2 (fun p hp => by
      rcases List.mem_cons.mp hp with rfl | hp
      · exact .tail _ (.head _)
      rcases List.mem_cons.mp hp with rfl | hp
      · exact .tail _ (.tail _ (.head _))
      rcases List.mem_cons.mp hp with rfl | hp
      · exact .tail _ (.tail _ (.tail _ (.head _)))
      rcases List.mem_cons.mp hp with rfl | hp
      · exact .tail _ (.tail _ (.tail _ (.tail _ (.head _))))
      rcases List.mem_cons.mp hp with rfl | hp
      · exact .head _
      · exact .tail _ (.tail _ (.tail _ (.tail _ (.tail _ hp)))))
    have F3 : Fr g1 Lf h1 _ := F2
    clear N2 F2
    have hkm : k ∈ nodes.map (·.k) := by
      have := List.mem_of_getElem? hkx
      obtain ⟨nd, hnd, e⟩ := List.mem_map.mp this
      cases e
      exact List.mem_map_of_mem hnd
    have hdI : (c.d, od) ∈ (I, io) :: BL := .tail _ hdBL
    generalize hB1 : (I, io) :: BL = B1 at *
    obtain ⟨x1, x2, x3, x4, x5, x6, y1, y2, y3, y4, z⟩ := K2.facts
    dsimp only at x1 x2 x3 x4 x5 x6 y1 y2 y3 y4
    have G1 := G'.turn T1
    have B1' := G1.B
    have X1' := G1.X
    have T1' := G1.T
    have hset := K2.set
    have hn : n ≤ 1000 := by rw [K2.cnt]; exact Nat.le_trans (List.length_filter_le _ _) hz
    dsimp only [FL] at N3
    (repeat' ((fail_if_success (with_reducible first | (refine at1 ?_ ?_; constructor) | show @ite Prop _ _ _ _ )); (first | ((with_reducible show wpAny _ _ (eval (Expr.Name _ _) (envOf _ _ _ _ _)) _ _ _); refine' nameX_L ?F ?v ?_; (case F => assumption); (case v => (repeat (first | exact if_pos rfl | assumption | refine Eq.trans (if_neg (by decide)) ?_)))) | (k_unfold; (try dsimp only)) | (k_end; wrow_close) | ((with_reducible show wpAny _ _ (setItem (Value.ref _) (Value.int _ _) _) _ _ _); k_dflt (refine h_set (by k_asm) (by k_asm) (by k_updF) (by k_asm) (by assumption) ?_; k_whole); intro _ _ _ nN _; (try dsimp only at nN); (try k_sweep)) | ((with_reducible show wpAny _ _ (subscriptTail _ _ (Value.ref _) (Value.int _ _)) _ _ _); first | k_dflt (refine h_item (by k_asm) (by k_mem) (by k_asm) (by assumption) ?_; k_whole) | k_dflt (refine h_tail (by k_asm) (by k_mem) (by k_asm) ?_; k_whole)) | walk1 | (dsimp only; walk1) | (leave1; walk_say "STEP leave1"; try dsimp only) | fail "no step")))
    by_cases hk : seen k = true
    · rw [if_pos hk]
      (repeat' ((fail_if_success (with_reducible first | (refine at1 ?_ ?_; constructor) )); (first | ((with_reducible show wpAny _ _ (eval (Expr.Name _ _) (envOf _ _ _ _ _)) _ _ _); refine' nameX_L ?F ?v ?_; (case F => assumption); (case v => (repeat (first | exact if_pos rfl | assumption | refine Eq.trans (if_neg (by decide)) ?_)))) | (k_unfold; (try dsimp only)) | (k_end; wrow_close) | ((with_reducible show wpAny _ _ (setItem (Value.ref _) (Value.int _ _) _) _ _ _); k_dflt (refine h_set (by k_asm) (by k_asm) (by k_updF) (by k_asm) (by assumption) ?_; k_whole); intro _ _ _ nN _; (try dsimp only at nN); (try k_sweep)) | ((with_reducible show wpAny _ _ (subscriptTail _ _ (Value.ref _) (Value.int _ _)) _ _ _); first | k_dflt (refine h_item (by k_asm) (by k_mem) (by k_asm) (by assumption) ?_; k_whole) | k_dflt (refine h_tail (by k_asm) (by k_mem) (by k_asm) ?_; k_whole)) | walk1 | (dsimp only; walk1) | (leave1; walk_say "STEP leave1"; try dsimp only) | fail "no step")))
      rename Fr _ _ _ _ => F4
      rename News _ _ _ _ => N4
      subst hB1
      exact hQt _ _ (turn_back K2 hbl T1 F4 N4 (Same.put same_of_mm) (.inr rfl))
    rw [if_neg hk]
    (repeat' ((fail_if_success (with_reducible first | (refine at1 ?_ ?_; constructor) )); (first | ((with_reducible show wpAny _ _ (eval (Expr.Name _ _) (envOf _ _ _ _ _)) _ _ _); refine' nameX_L ?F ?v ?_; (case F => assumption); (case v => (repeat (first | exact if_pos rfl | assumption | refine Eq.trans (if_neg (by decide)) ?_)))) | (k_unfold; (try dsimp only)) | (k_end; wrow_close) | ((with_reducible show wpAny _ _ (setItem (Value.ref _) (Value.int _ _) _) _ _ _); k_dflt (refine h_set (by k_asm) (by k_asm) (by k_updF) (by k_asm) (by assumption) ?_; k_whole); intro _ _ _ nN _; (try dsimp only at nN); (try k_sweep)) | ((with_reducible show wpAny _ _ (subscriptTail _ _ (Value.ref _) (Value.int _ _)) _ _ _); first | k_dflt (refine h_item (by k_asm) (by k_mem) (by k_asm) (by assumption) ?_; k_whole) | k_dflt (refine h_tail (by k_asm) (by k_mem) (by k_asm) ?_; k_whole)) | walk1 | (dsimp only; walk1) | (leave1; walk_say "STEP leave1"; try dsimp only) | fail "no step")))
    rename Fr _ _ _ _ => F4
    rename News _ _ _ _ => N4
    refine while_G (fs := fsOf (env :: outer)) (g := g) (m₀ := mz) ["node"] (fun M m nx => JN w nodes ⟨D2, SE, IT, S⟩ B1 M m nx) T1 (Fr_same F4 (Same.put same_of_mm)) N4
      ⟨o2, so, ie, se, [], kvs, seen, n, k, tv, K2, rfl, rfl, hkm, fun _ h => nomatch h⟩ ?_
    clear G1 B1' X1' T1' hset hn K1 hnI hltI x1 x2 x3 x4 x5 x6 y1 y2 y3 y4 z F4 N4 B' X' T'
    rintro M g2 mu2 nx2 h2 tk2 Qw hQw T2 ⟨o2', so', ie', se', st, kvs', seen', n', kk, tkk, K3, eM, hnode, hkk, hlt⟩ F7 N6
    obtain ⟨x1, x2, x3, x4, x5, x6, y1, y2, y3, y4, z⟩ := K3.facts
    dsimp only at x1 x2 x3 x4 x5 x6 y1 y2 y3 y4
    have G2 := G'.turn T2
    have B2' := G2.B
    have X2' := G2.X
    have T2' := G2.T
    have hset := K3.set
    have hdict := K3.dict
    have hn : n' ≤ 1000 := by rw [K3.cnt]; exact Nat.le_trans (List.length_filter_le _ _) hz
    dsimp only [FL] at N6
    (repeat' ((fail_if_success (with_reducible first | (refine at1 ?_ ?_; constructor) | show @ite Prop _ _ _ _ )); (first | ((with_reducible show wpAny _ _ (eval (Expr.Name _ _) (envOf _ _ _ _ _)) _ _ _); refine' nameX_L ?F ?v ?_; (case F => assumption); (case v => (repeat (first | exact if_pos rfl | assumption | refine Eq.trans (if_neg (by decide)) ?_)))) | (k_unfold; (try dsimp only)) | (k_end; wrow_close) | ((with_reducible show wpAny _ _ (setItem (Value.ref _) (Value.int _ _) _) _ _ _); k_dflt (refine h_set (by k_asm) (by k_asm) (by k_updF) (by k_asm) (by assumption) ?_; k_whole); intro _ _ _ nN _; (try dsimp only at nN); (try k_sweep)) | ((with_reducible show wpAny _ _ (subscriptTail _ _ (Value.ref _) (Value.int _ _)) _ _ _); first | k_dflt (refine h_item (by k_asm) (by k_mem) (by k_asm) (by assumption) ?_; k_whole) | k_dflt (refine h_tail (by k_asm) (by k_mem) (by k_asm) ?_; k_whole)) | walk1 | (dsimp only; walk1) | (leave1; walk_say "STEP leave1"; try dsimp only) | fail "no step")))
    rw [if_pos rfl]
    refine seq_G (fs := fsOf (env :: outer)) (g := g) (m₀ := mz) ["node"] (fun m nx => JF w nodes ⟨D2, SE, IT, S⟩ B1 M nx) T2 F7 (fun Qs hQs => ?_) ?_
    · obtain ⟨nd, hnd, rfl⟩ := List.mem_map.mp hkk
      have hobj : (nd.a, nodeObj nd.da nd.sa nd.np nd.tn nd.k nd.tk) ∈ SO st ++ B1 := List.mem_append_right _ (by rw [← hB1]; exact .tail _ (by rw [← hBL]; exact .tail _ (.tail _ (.tail _ (List.mem_append_left _ (mem_obj hnd))))))
      have hdct : (nd.da, dictOf [] 0) ∈ SO st ++ B1 := List.mem_append_right _ (by rw [← hB1]; exact .tail _ (by rw [← hBL]; exact .tail _ (.tail _ (.tail _ (List.mem_append_left _ (mem_dct hnd))))))
      have hscs : (nd.sa, listOf (vals nd.si).toArray nd.ep) ∈ SO st ++ B1 := List.mem_append_right _ (K3.suc nd hnd)
      have hdin : (c.d, od) ∈ SO st ++ B1 := List.mem_append_right _ hdI
      (repeat' ((fail_if_success (with_reducible first | (refine at1 ?_ ?_; constructor) | show @ite Prop _ _ _ _ )); (first | ((with_reducible show wpAny _ _ (eval (Expr.Name _ _) (envOf _ _ _ _ _)) _ _ _); refine' nameX_L ?F ?v ?_; (case F => assumption); (case v => (repeat (first | exact if_pos rfl | assumption | refine Eq.trans (if_neg (by decide)) ?_)))) | (k_unfold; (try dsimp only)) | (k_end; wrow_close) | ((with_reducible show wpAny _ _ (setItem (Value.ref _) (Value.int _ _) _) _ _ _); k_dflt (refine h_set (by k_asm) (by k_asm) (by k_updF) (by k_asm) (by assumption) ?_; k_whole); intro _ _ _ nN _; (try dsimp only at nN); (try k_sweep)) | ((with_reducible show wpAny _ _ (subscriptTail _ _ (Value.ref _) (Value.int _ _)) _ _ _); first | k_dflt (refine h_item (by k_asm) (by k_mem) (by k_asm) (by assumption) ?_; k_whole) | k_dflt (refine h_tail (by k_asm) (by k_mem) (by k_asm) ?_; k_whole)) | walk1 | (dsimp only; walk1) | (leave1; walk_say "STEP leave1"; try dsimp only) | fail "no step")))
      by_cases hs : seen' nd.k = true
      · rw [if_pos hs]
        have hb : (valueAt kvs' nd.k).isSome = false := by
          rw [vat_isSome, K3.keys]
          refine decide_eq_false fun q => ?_
          obtain ⟨f, hf, e⟩ := List.mem_map.mp q
          have := hlt f hf
          omega
        (repeat' ((fail_if_success (with_reducible first | (refine at1 ?_ ?_; constructor) | show @ite Prop _ _ _ _ )); (first | ((with_reducible show wpAny _ _ (eval (Expr.Name _ _) (envOf _ _ _ _ _)) _ _ _); refine' nameX_L ?F ?v ?_; (case F => assumption); (case v => (repeat (first | exact if_pos rfl | assumption | refine Eq.trans (if_neg (by decide)) ?_)))) | (k_unfold; (try dsimp only)) | (k_end; wrow_close) | ((with_reducible show wpAny _ _ (setItem (Value.ref _) (Value.int _ _) _) _ _ _); k_dflt (refine h_set (by k_asm) (by k_asm) (by k_updF) (by k_asm) (by assumption) ?_; k_whole); intro _ _ _ nN _; (try dsimp only at nN); (try k_sweep)) | ((with_reducible show wpAny _ _ (subscriptTail _ _ (Value.ref _) (Value.int _ _)) _ _ _); first | k_dflt (refine h_item (by k_asm) (by k_mem) (by k_asm) (by assumption) ?_; k_whole) | k_dflt (refine h_tail (by k_asm) (by k_mem) (by k_asm) ?_; k_whole)) | walk1 | (dsimp only; walk1) | (leave1; walk_say "STEP leave1"; try dsimp only) | fail "no step")))
        refine kda_in (knd := intKind _ _) (by assumption) (.head _) hdict K3.lo (intKind_is _ _ _ _) false hb ?_
        (repeat' ((fail_if_success (with_reducible first | (refine at1 ?_ ?_; constructor) | show @ite Prop _ _ _ _ )); (first | ((with_reducible show wpAny _ _ (eval (Expr.Name _ _) (envOf _ _ _ _ _)) _ _ _); refine' nameX_L ?F ?v ?_; (case F => assumption); (case v => (repeat (first | exact if_pos rfl | assumption | refine Eq.trans (if_neg (by decide)) ?_)))) | (k_unfold; (try dsimp only)) | (k_end; wrow_close) | ((with_reducible show wpAny _ _ (setItem (Value.ref _) (Value.int _ _) _) _ _ _); k_dflt (refine h_set (by k_asm) (by k_asm) (by k_updF) (by k_asm) (by assumption) ?_; k_whole); intro _ _ _ nN _; (try dsimp only at nN); (try k_sweep)) | ((with_reducible show wpAny _ _ (subscriptTail _ _ (Value.ref _) (Value.int _ _)) _ _ _); first | k_dflt (refine h_item (by k_asm) (by k_mem) (by k_asm) (by assumption) ?_; k_whole) | k_dflt (refine h_tail (by k_asm) (by k_mem) (by k_asm) ?_; k_whole)) | walk1 | (dsimp only; walk1) | (leave1; walk_say "STEP leave1"; try dsimp only) | fail "no step")))
        rw [if_neg Bool.false_ne_true]
        (repeat' ((fail_if_success (with_reducible first | (refine at1 ?_ ?_; constructor) )); (first | ((with_reducible show wpAny _ _ (eval (Expr.Name _ _) (envOf _ _ _ _ _)) _ _ _); refine' nameX_L ?F ?v ?_; (case F => assumption); (case v => (repeat (first | exact if_pos rfl | assumption | refine Eq.trans (if_neg (by decide)) ?_)))) | (k_unfold; (try dsimp only)) | (k_end; wrow_close) | ((with_reducible show wpAny _ _ (setItem (Value.ref _) (Value.int _ _) _) _ _ _); k_dflt (refine h_set (by k_asm) (by k_asm) (by k_updF) (by k_asm) (by assumption) ?_; k_whole); intro _ _ _ nN _; (try dsimp only at nN); (try k_sweep)) | ((with_reducible show wpAny _ _ (subscriptTail _ _ (Value.ref _) (Value.int _ _)) _ _ _); first | k_dflt (refine h_item (by k_asm) (by k_mem) (by k_asm) (by assumption) ?_; k_whole) | k_dflt (refine h_tail (by k_asm) (by k_mem) (by k_asm) ?_; k_whole)) | walk1 | (dsimp only; walk1) | (leave1; walk_say "STEP leave1"; try dsimp only) | fail "no step")))
        rename Fr _ _ _ _ => F8
        rename News _ _ _ _ => N8
        exact hQs _ (At.mk' T2 F8 N8 (fun _ h => h) same_of_mm ⟨o2', so', ie', se', st, kvs', seen', n', K3, Nat.le_of_eq eM.symm⟩)
      · rw [if_neg hs]
        have hval := valueAt_some K.keys hnd
        (repeat' ((fail_if_success (with_reducible first | (refine at1 ?_ ?_; constructor) | show @ite Prop _ _ _ _ )); (first | ((with_reducible show wpAny _ _ (eval (Expr.Name _ _) (envOf _ _ _ _ _)) _ _ _); refine' nameX_L ?F ?v ?_; (case F => assumption); (case v => (repeat (first | exact if_pos rfl | assumption | refine Eq.trans (if_neg (by decide)) ?_)))) | (k_unfold; (try dsimp only)) | (k_end; wrow_close) | ((with_reducible show wpAny _ _ (setItem (Value.ref _) (Value.int _ _) _) _ _ _); k_dflt (refine h_set (by k_asm) (by k_asm) (by k_updF) (by k_asm) (by assumption) ?_; k_whole); intro _ _ _ nN _; (try dsimp only at nN); (try k_sweep)) | ((with_reducible show wpAny _ _ (subscriptTail _ _ (Value.ref _) (Value.int _ _)) _ _ _); first | k_dflt (refine h_item (by k_asm) (by k_mem) (by k_asm) (by assumption) ?_; k_whole) | k_dflt (refine h_tail (by k_asm) (by k_mem) (by k_asm) ?_; k_whole)) | walk1 | (dsimp only; walk1) | (leave1; walk_say "STEP leave1"; try dsimp only) | fail "no step")))
        rename Fr _ _ _ _ => F8
        rename News _ _ _ _ => N8
        refine iter_N F8 N8 (.tail _ (.tail _ (.tail _ (.tail _ hscs)))) ?_
        intro I2 h9 F9 N9 l9
        clear F8 N8
        have l9' := l9
        k_lt l9
        (repeat' ((fail_if_success (with_reducible first | (refine at1 ?_ ?_; constructor) | show @ite Prop _ _ _ _ )); (first | ((with_reducible show wpAny _ _ (eval (Expr.Name _ _) (envOf _ _ _ _ _)) _ _ _); refine' nameX_L ?F ?v ?_; (case F => assumption); (case v => (repeat (first | exact if_pos rfl | assumption | refine Eq.trans (if_neg (by decide)) ?_)))) | (k_unfold; (try dsimp only)) | (k_end; wrow_close) | ((with_reducible show wpAny _ _ (setItem (Value.ref _) (Value.int _ _) _) _ _ _); k_dflt (refine h_set (by k_asm) (by k_asm) (by k_updF) (by k_asm) (by assumption) ?_; k_whole); intro _ _ _ nN _; (try dsimp only at nN); (try k_sweep)) | ((with_reducible show wpAny _ _ (subscriptTail _ _ (Value.ref _) (Value.int _ _)) _ _ _); first | k_dflt (refine h_item (by k_asm) (by k_mem) (by k_asm) (by assumption) ?_; k_whole) | k_dflt (refine h_tail (by k_asm) (by k_mem) (by k_asm) ?_; k_whole)) | walk1 | (dsimp only; walk1) | (leave1; walk_say "STEP leave1"; try dsimp only) | fail "no step")))
        refine next_N F9 N9 (.head _) ?_
        intro M2 h10 F10 N10 l10
        clear F9 N9
        have l10' := l10
        k_lt l10
        have hlen := K3.len
        have hsz : kvs'.length ≤ sizeLine := by rw [K3.klen, sizeLine_eq]; omega
        have hsz1 : (refsOf st).toArray.size ≤ sizeLine := by rw [List.size_toArray, List.length_map, sizeLine_eq]; omega
        have hsz2 : (keysOf st).toArray.size ≤ sizeLine := by rw [List.size_toArray, List.length_map, sizeLine_eq]; omega
        have hsz3 : (((keysOf st).toArray.size : Nat) : Int) < 2 ^ 63 := by rw [List.size_toArray, List.length_map]; omega
        (repeat' ((fail_if_success (with_reducible first | (refine at1 ?_ ?_; constructor) | show @ite Prop _ _ _ _ )); (first | ((with_reducible show wpAny _ _ (eval (Expr.Name _ _) (envOf _ _ _ _ _)) _ _ _); refine' nameX_L ?F ?v ?_; (case F => assumption); (case v => (repeat (first | exact if_pos rfl | assumption | refine Eq.trans (if_neg (by decide)) ?_)))) | (k_unfold; (try dsimp only)) | (k_end; wrow_close) | ((with_reducible show wpAny _ _ (setItem (Value.ref _) (Value.int _ _) _) _ _ _); k_dflt (refine h_set (by k_asm) (by k_asm) (by k_updF) (by k_asm) (by assumption) ?_; k_whole); intro _ _ _ nN _; (try dsimp only at nN); (try k_sweep)) | ((with_reducible show wpAny _ _ (subscriptTail _ _ (Value.ref _) (Value.int _ _)) _ _ _); first | k_dflt (refine h_item (by k_asm) (by k_mem) (by k_asm) (by assumption) ?_; k_whole) | k_dflt (refine h_tail (by k_asm) (by k_mem) (by k_asm) ?_; k_whole)) | walk1 | (dsimp only; walk1) | (leave1; walk_say "STEP leave1"; try dsimp only) | fail "no step")))
        rename Fr _ _ _ _ => F11
        rename News _ _ _ _ => N11
        refine len_list (l := S) (items := (keysOf st).toArray) ⟨_, (N11 _ (.tail _ (.tail _ (.tail _ (.tail _ (.tail _ (.head _))))))).1, rfl, ⟨_, rfl⟩⟩ hsz3 ?_
        (repeat' ((fail_if_success (with_reducible first | (refine at1 ?_ ?_; constructor) | show @ite Prop _ _ _ _ )); (first | ((with_reducible show wpAny _ _ (eval (Expr.Name _ _) (envOf _ _ _ _ _)) _ _ _); refine' nameX_L ?F ?v ?_; (case F => assumption); (case v => (repeat (first | exact if_pos rfl | assumption | refine Eq.trans (if_neg (by decide)) ?_)))) | (k_unfold; (try dsimp only)) | (k_end; wrow_close) | ((with_reducible show wpAny _ _ (setItem (Value.ref _) (Value.int _ _) _) _ _ _); k_dflt (refine h_set (by k_asm) (by k_asm) (by k_updF) (by k_asm) (by assumption) ?_; k_whole); intro _ _ _ nN _; (try dsimp only at nN); (try k_sweep)) | ((with_reducible show wpAny _ _ (subscriptTail _ _ (Value.ref _) (Value.int _ _)) _ _ _); first | k_dflt (refine h_item (by k_asm) (by k_mem) (by k_asm) (by assumption) ?_; k_whole) | k_dflt (refine h_tail (by k_asm) (by k_mem) (by k_asm) ?_; k_whole)) | walk1 | (dsimp only; walk1) | (leave1; walk_say "STEP leave1"; try dsimp only) | fail "no step")))
        rename Fr _ _ _ _ => F12
        rename News _ _ _ _ => N12
        rename Obj.IsDictOf (intKind _ _) _ (stored _ _ _) => hd12
        rename Obj.SetObjOf (intKind _ _) _ (fun k' => seen' k' || decide (k' = nd.k)) _ => hs12
        rw [if_neg hs] at hs12
        exact hQs _ (At.mk' T2 F12 N12 push_sub same_of_mm ⟨_, _, _, _, _, _, _, _, K3.push K.keys hnd (by simpa using hs) hlt hd12 hs12 l9' (l10' _ (.head _)), Nat.le_trans (mea_push K.keys hnd (by simpa using hs) (hsl nd hnd)) (Nat.le_of_eq eM.symm)⟩)
    · clear x1 x2 x3 x4 x5 x6 y1 y2 y3 y4 z G2 B2' X2' T2' hset hdict hn N6 F7
      rintro g3 mu3 nx3 h3 tk3 T3 ⟨o2a, soa, iea, sea, st3, kvs3, seen3, n3, K4, hme⟩ F13 N13
      refine wpAny_execs_cons ?_
      refine abs_post fun Q2 hQ2 => ?_
      refine while_G (fs := fsOf (env :: outer)) (g := g) (m₀ := mz) ["node"] (fun M' m nx => JW w nodes ⟨D2, SE, IT, S⟩ B1 M M' nx) T3 F13 N13 ⟨o2a, soa, iea, sea, st3, kvs3, seen3, n3, K4, rfl, hme⟩ ?_
      clear F13 N13 K4 hme
      rintro M' g4 mu4 nx4 h4 tk4 Q4 hQ4 T4 ⟨o2b, sob, ieb, seb, st4, kvs4, seen4, n4, K5, eM', hM⟩ F15 N15
      have G4 := G'.turn T4
      have B4' := G4.B
      have X4' := G4.X
      have T4' := G4.T
      obtain ⟨x1, x2, x3, x4, x5, x6, y1, y2, y3, y4, z⟩ := K5.facts
      dsimp only at x1 x2 x3 x4 x5 x6 y1 y2 y3 y4
      dsimp only [FL] at N15
      have hlen := K5.len
      have hfit : (((keysOf st4).toArray.size : Nat) : Int) < 2 ^ 63 := by rw [List.size_toArray, List.length_map]; omega
      (repeat' ((fail_if_success (with_reducible first | (refine at1 ?_ ?_; constructor) | show @ite Prop _ _ _ _ )); (first | ((with_reducible show wpAny _ _ (eval (Expr.Name _ _) (envOf _ _ _ _ _)) _ _ _); refine' nameX_L ?F ?v ?_; (case F => assumption); (case v => (repeat (first | exact if_pos rfl | assumption | refine Eq.trans (if_neg (by decide)) ?_)))) | (k_unfold; (try dsimp only)) | (k_end; wrow_close) | ((with_reducible show wpAny _ _ (setItem (Value.ref _) (Value.int _ _) _) _ _ _); k_dflt (refine h_set (by k_asm) (by k_asm) (by k_updF) (by k_asm) (by assumption) ?_; k_whole); intro _ _ _ nN _; (try dsimp only at nN); (try k_sweep)) | ((with_reducible show wpAny _ _ (subscriptTail _ _ (Value.ref _) (Value.int _ _)) _ _ _); first | k_dflt (refine h_item (by k_asm) (by k_mem) (by k_asm) (by assumption) ?_; k_whole) | k_dflt (refine h_tail (by k_asm) (by k_mem) (by k_asm) ?_; k_whole)) | walk1 | (dsimp only; walk1) | (leave1; walk_say "STEP leave1"; try dsimp only) | fail "no step")))
      refine wpAny_truthy_list (items := (keysOf st4).toArray) (News.isList N15 (.tail _ (.tail _ (.tail _ (.head _))))) hfit ?_
      rcases List.eq_nil_or_concat st4 with rfl | ⟨st5, f, rfl⟩
      · rw [if_neg (by simp)]
        refine wpAny_execs_cons (wpAny_Break ?_)
        refine hQ2 _ _ ?_
        refine hQw .brk _ ?_
        show wpAny _ _ (execs [] _) _ _ _
        refine wpAny_execs_nil ?_
        subst hB1
        exact hQt _ _ (turn_back K5 hbl T4 F15 N15 same_of_mm (.inl rfl))
      · rw [if_pos (by simp)]
        rw [List.concat_eq_append] at *
        have hap := (K5.top ieb seb).head
        have N16 : News g4 Lf h4 ((f.it, liObj f.nd.sa f.pos) :: TL ⟨D2, SE, IT, S⟩ o2b sob ieb seb st5 f B1) := News.sub N15 (fun p hp => FL_perm.mem_iff.mpr hp)
        have hfm : f.nd ∈ nodes := K5.mem f (List.mem_append_right _ (.head _))
        have hsuB : (f.nd.sa, listOf (vals f.nd.si).toArray f.nd.ep) ∈ TL ⟨D2, SE, IT, S⟩ o2b sob ieb seb st5 f B1 := .tail _ (.tail _ (.tail _ (.tail _ (List.mem_append_right _ (.tail _ (K5.suc f.nd hfm))))))
        have hmwB : (f.mw, mwObj f.it) ∈ TL ⟨D2, SE, IT, S⟩ o2b sob ieb seb st5 f B1 := .tail _ (.tail _ (.tail _ (.tail _ (List.mem_append_right _ (.head _)))))
        clear N15 y1 y2 y3 y4 z
        (repeat' ((fail_if_success (with_reducible first | (refine at1 ?_ ?_; constructor) | (refine at3 ?_ ?_; constructor) | show @ite Prop _ _ _ _ | show wpAny _ _ (callWith _ (Value.ref _) _ _ _) _ _ _ )); (first | ((with_reducible show wpAny _ _ (eval (Expr.Name _ _) (envOf _ _ _ _ _)) _ _ _); refine' nameX_L ?F ?v ?_; (case F => assumption); (case v => (repeat (first | exact if_pos rfl | assumption | refine Eq.trans (if_neg (by decide)) ?_)))) | (k_unfold; (try dsimp only)) | (k_end; wrow_close) | ((with_reducible show wpAny _ _ (setItem (Value.ref _) (Value.int _ _) _) _ _ _); k_dflt (refine h_set (by k_asm) (by k_asm) (by k_updF) (by k_asm) (by assumption) ?_; k_whole); intro _ _ _ nN _; (try dsimp only at nN); (try k_sweep)) | ((with_reducible show wpAny _ _ (subscriptTail _ _ (Value.ref _) (Value.int _ _)) _ _ _); first | k_dflt (refine h_item (by k_asm) (by k_mem) (by k_asm) (by assumption) ?_; k_whole) | k_dflt (refine h_tail (by k_asm) (by k_mem) (by k_asm) ?_; k_whole)) | walk1 | (dsimp only; walk1) | (leave1; walk_say "STEP leave1"; try dsimp only) | fail "no step")))
        refine item_last (News.isList N16 (.tail _ (.tail _ (.tail _ (.head _))))) ?_
        (repeat' ((fail_if_success (with_reducible first | (refine at1 ?_ ?_; constructor) | (refine at3 ?_ ?_; constructor) | show @ite Prop _ _ _ _ | show wpAny _ _ (callWith _ (Value.ref _) _ _ _) _ _ _ )); (first | ((with_reducible show wpAny _ _ (eval (Expr.Name _ _) (envOf _ _ _ _ _)) _ _ _); refine' nameX_L ?F ?v ?_; (case F => assumption); (case v => (repeat (first | exact if_pos rfl | assumption | refine Eq.trans (if_neg (by decide)) ?_)))) | (k_unfold; (try dsimp only)) | (k_end; wrow_close) | ((with_reducible show wpAny _ _ (setItem (Value.ref _) (Value.int _ _) _) _ _ _); k_dflt (refine h_set (by k_asm) (by k_asm) (by k_updF) (by k_asm) (by assumption) ?_; k_whole); intro _ _ _ nN _; (try dsimp only at nN); (try k_sweep)) | ((with_reducible show wpAny _ _ (subscriptTail _ _ (Value.ref _) (Value.int _ _)) _ _ _); first | k_dflt (refine h_item (by k_asm) (by k_mem) (by k_asm) (by assumption) ?_; k_whole) | k_dflt (refine h_tail (by k_asm) (by k_mem) (by k_asm) ?_; k_whole)) | walk1 | (dsimp only; walk1) | (leave1; walk_say "STEP leave1"; try dsimp only) | fail "no step")))
        refine callWith_mw (N16 _ (.tail _ hmwB)).1 ?_
        rcases Nat.lt_or_ge f.pos f.nd.si.length with hp | hp
        · refine wpAny_call ?_
          refine mw_item (it := f.it) (l := f.nd.sa) (i := f.pos) (items := (vals f.nd.si).toArray) F15 N16 hap hmwB hsuB (x := .int (f.nd.si[f.pos]).1 (f.nd.si[f.pos]).2) (by simp [hp]) ?_
          intro h5 F17 N17
          clear F15 N16
          have hsp := hsuc f.nd hfm _ (List.getElem_mem hp)
          dsimp only
          (repeat' ((fail_if_success (with_reducible first | (refine at1 ?_ ?_; constructor) | (refine at3 ?_ ?_; constructor) | show @ite Prop _ _ _ _ | show wpAny _ _ (callWith _ (Value.ref _) _ _ _) _ _ _ )); (first | ((with_reducible show wpAny _ _ (eval (Expr.Name _ _) (envOf _ _ _ _ _)) _ _ _); refine' nameX_L ?F ?v ?_; (case F => assumption); (case v => (repeat (first | exact if_pos rfl | assumption | refine Eq.trans (if_neg (by decide)) ?_)))) | (k_unfold; (try dsimp only)) | (k_end; wrow_close) | ((with_reducible show wpAny _ _ (setItem (Value.ref _) (Value.int _ _) _) _ _ _); k_dflt (refine h_set (by k_asm) (by k_asm) (by k_updF) (by k_asm) (by assumption) ?_; k_whole); intro _ _ _ nN _; (try dsimp only at nN); (try k_sweep)) | ((with_reducible show wpAny _ _ (subscriptTail _ _ (Value.ref _) (Value.int _ _)) _ _ _); first | k_dflt (refine h_item (by k_asm) (by k_mem) (by k_asm) (by assumption) ?_; k_whole) | k_dflt (refine h_tail (by k_asm) (by k_mem) (by k_asm) ?_; k_whole)) | walk1 | (dsimp only; walk1) | (leave1; walk_say "STEP leave1"; try dsimp only) | fail "no step")))
          rename Fr _ _ _ _ => F18
          rename News _ _ _ _ => N18
          refine hQ4 .brk _ (hQ2 .next _ ?_)
          refine wpAny_execs_nil ?_
          refine hQw .next _ ⟨mea nodes seen4 (st5 ++ [{ f with pos := f.pos + 1 }]), Nat.lt_of_lt_of_le (mea_step hp) (Nat.le_trans (Nat.le_of_eq eM'.symm) hM), ?_⟩
          refine At.mk' T4 F18 N18 (fun p hp => FL_perm.mem_iff.mp hp) (Same.put same_of_mm) ⟨o2b, sob, ieb, seb, _, kvs4, seen4, n4, f.nd.si[f.pos].1, f.nd.si[f.pos].2, K5.step hp, rfl, if_pos rfl, hsp.2, ?_⟩
          intro f' hf'
          rcases List.mem_append.mp hf' with hf' | hf'
          · have hi := K5.inc
            rw [List.map_append] at hi
            exact Int.lt_trans ((List.pairwise_append.mp hi).2.2 _ (List.mem_map_of_mem hf') _ (.head _)) hsp.1
          · rw [List.mem_singleton.mp hf']; exact hsp.1
        · refine wpAny_call ?_
          refine mw_end (it := f.it) (l := f.nd.sa) (i := f.pos) (items := (vals f.nd.si).toArray) F15 N16 hap hmwB hsuB (by simp [hp]) rfl ?_
          intro h5 h6 e F17 N17 hne
          clear F15 N16
          refine caught_new G4 hne F17 N17 (by k_is) PyProof.Rows.Boot.«StopIteration» (by decide) (by rw [isSubtype_type]; kernel_rfl) (by rw [isSubtype_type]; kernel_rfl) (by rw [isSubtype_type]; kernel_rfl) ?_ rfl rfl (by decide) (fun _ _ h => h.elim)
          intro h7 g7 T7 F18 N18
          clear F17 N17 hne
          have nt := (K5.top ieb seb).tail
          have z4 := nt.tail.tail.tail.head
          have z3 : ∀ p ∈ SO st5 ++ (f.mw, mwObj f.it) :: B1, p.1 ≠ IT := fun p hp => nt.tail.tail.head p (.tail _ hp)
          have z1 : ∀ p ∈ SO st5 ++ (f.mw, mwObj f.it) :: B1, p.1 ≠ D2 := fun p hp => nt.head p (.tail _ (.tail _ (.tail _ hp)))
          rw [List.length_append, List.length_singleton] at hlen
          (repeat' ((fail_if_success (with_reducible first | (refine at1 ?_ ?_; constructor) | (refine at3 ?_ ?_; constructor) | show @ite Prop _ _ _ _ | show wpAny _ _ (callWith _ (Value.ref _) _ _ _) _ _ _ )); (first | ((with_reducible show wpAny _ _ (eval (Expr.Name _ _) (envOf _ _ _ _ _)) _ _ _); refine' nameX_L ?F ?v ?_; (case F => assumption); (case v => (repeat (first | exact if_pos rfl | assumption | refine Eq.trans (if_neg (by decide)) ?_)))) | (k_unfold; (try dsimp only)) | (k_end; wrow_close) | ((with_reducible show wpAny _ _ (setItem (Value.ref _) (Value.int _ _) _) _ _ _); k_dflt (refine h_set (by k_asm) (by k_asm) (by k_updF) (by k_asm) (by assumption) ?_; k_whole); intro _ _ _ nN _; (try dsimp only at nN); (try k_sweep)) | ((with_reducible show wpAny _ _ (subscriptTail _ _ (Value.ref _) (Value.int _ _)) _ _ _); first | k_dflt (refine h_item (by k_asm) (by k_mem) (by k_asm) (by assumption) ?_; k_whole) | k_dflt (refine h_tail (by k_asm) (by k_mem) (by k_asm) ?_; k_whole)) | walk1 | (dsimp only; walk1) | (leave1; walk_say "STEP leave1"; try dsimp only) | fail "no step")))
          refine kl_pop F18 N18 (kpa_last _ _) (.tail x3 (.tail x5 (.tail x6 (.head z4)))) (by show (keysOf st5 ++ [_]).length ≤ _; rw [List.length_append, List.length_map, List.length_singleton, sizeLine_eq]; omega) ?_
          intro h8 F19 N19
          clear F18 N18
          (repeat' ((fail_if_success (with_reducible first | (refine at1 ?_ ?_; constructor) | (refine at3 ?_ ?_; constructor) | show @ite Prop _ _ _ _ | show wpAny _ _ (callWith _ (Value.ref _) _ _ _) _ _ _ )); (first | ((with_reducible show wpAny _ _ (eval (Expr.Name _ _) (envOf _ _ _ _ _)) _ _ _); refine' nameX_L ?F ?v ?_; (case F => assumption); (case v => (repeat (first | exact if_pos rfl | assumption | refine Eq.trans (if_neg (by decide)) ?_)))) | (k_unfold; (try dsimp only)) | (k_end; wrow_close) | ((with_reducible show wpAny _ _ (setItem (Value.ref _) (Value.int _ _) _) _ _ _); k_dflt (refine h_set (by k_asm) (by k_asm) (by k_updF) (by k_asm) (by assumption) ?_; k_whole); intro _ _ _ nN _; (try dsimp only at nN); (try k_sweep)) | ((with_reducible show wpAny _ _ (subscriptTail _ _ (Value.ref _) (Value.int _ _)) _ _ _); first | k_dflt (refine h_item (by k_asm) (by k_mem) (by k_asm) (by assumption) ?_; k_whole) | k_dflt (refine h_tail (by k_asm) (by k_mem) (by k_asm) ?_; k_whole)) | walk1 | (dsimp only; walk1) | (leave1; walk_say "STEP leave1"; try dsimp only) | fail "no step")))
          have hkl := K5.klen
          rw [List.length_append, List.length_singleton] at hkl
          refine kob_del (knd := intKind PR w) F19 N19 (.head (List.forall_mem_cons.mpr ⟨x1.symm, List.forall_mem_cons.mpr ⟨x2.symm, List.forall_mem_cons.mpr ⟨x3.symm, z1⟩⟩⟩)) K5.dict (intKind_is _ _ _ _) K5.topv (by rw [hkl, sizeLine_eq]; omega) ?_
          intro h9 o9 F20 N20 hd9
          clear F19 N19
          (repeat' ((fail_if_success (with_reducible first | (refine at1 ?_ ?_; constructor) | (refine at3 ?_ ?_; constructor) | show @ite Prop _ _ _ _ | show wpAny _ _ (callWith _ (Value.ref _) _ _ _) _ _ _ )); (first | ((with_reducible show wpAny _ _ (eval (Expr.Name _ _) (envOf _ _ _ _ _)) _ _ _); refine' nameX_L ?F ?v ?_; (case F => assumption); (case v => (repeat (first | exact if_pos rfl | assumption | refine Eq.trans (if_neg (by decide)) ?_)))) | (k_unfold; (try dsimp only)) | (k_end; wrow_close) | ((with_reducible show wpAny _ _ (setItem (Value.ref _) (Value.int _ _) _) _ _ _); k_dflt (refine h_set (by k_asm) (by k_asm) (by k_updF) (by k_asm) (by assumption) ?_; k_whole); intro _ _ _ nN _; (try dsimp only at nN); (try k_sweep)) | ((with_reducible show wpAny _ _ (subscriptTail _ _ (Value.ref _) (Value.int _ _)) _ _ _); first | k_dflt (refine h_item (by k_asm) (by k_mem) (by k_asm) (by assumption) ?_; k_whole) | k_dflt (refine h_tail (by k_asm) (by k_mem) (by k_asm) ?_; k_whole)) | walk1 | (dsimp only; walk1) | (leave1; walk_say "STEP leave1"; try dsimp only) | fail "no step")))
          refine kl_pop F20 N20 (kpa_last _ _) (.tail x2 (.tail x4 (.head (List.forall_mem_cons.mpr ⟨x6.symm, z3⟩)))) (by show (refsOf st5 ++ [_]).length ≤ _; rw [List.length_append, List.length_map, List.length_singleton, sizeLine_eq]; omega) ?_
          intro h10 F21 N21
          clear F20 N20
          (repeat' ((fail_if_success (with_reducible first | (refine at1 ?_ ?_; constructor) | (refine at3 ?_ ?_; constructor) | show @ite Prop _ _ _ _ | show wpAny _ _ (callWith _ (Value.ref _) _ _ _) _ _ _ )); (first | ((with_reducible show wpAny _ _ (eval (Expr.Name _ _) (envOf _ _ _ _ _)) _ _ _); refine' nameX_L ?F ?v ?_; (case F => assumption); (case v => (repeat (first | exact if_pos rfl | assumption | refine Eq.trans (if_neg (by decide)) ?_)))) | (k_unfold; (try dsimp only)) | (k_end; wrow_close) | ((with_reducible show wpAny _ _ (setItem (Value.ref _) (Value.int _ _) _) _ _ _); k_dflt (refine h_set (by k_asm) (by k_asm) (by k_updF) (by k_asm) (by assumption) ?_; k_whole); intro _ _ _ nN _; (try dsimp only at nN); (try k_sweep)) | ((with_reducible show wpAny _ _ (subscriptTail _ _ (Value.ref _) (Value.int _ _)) _ _ _); first | k_dflt (refine h_item (by k_asm) (by k_mem) (by k_asm) (by assumption) ?_; k_whole) | k_dflt (refine h_tail (by k_asm) (by k_mem) (by k_asm) ?_; k_whole)) | walk1 | (dsimp only; walk1) | (leave1; walk_say "STEP leave1"; try dsimp only) | fail "no step")))
          refine hQ4 .next _ ⟨mea nodes seen4 st5, eM' ▸ mea_pop, ?_⟩
          exact At.mk' (T4.trans T7) F21 N21 TL_pop same_of_mm ⟨o9, sob, _, _, st5, _, seen4, n4, K5.popd hd9, rfl, Nat.le_trans (Nat.le_of_lt mea_pop) (eM' ▸ hM)⟩
  · rintro g1 mu nx h1 tk1 T1 ⟨o2, so, ie, se, kvs, seen, n, K1⟩ F2 N2
    clear F1z N1
    (repeat' ((fail_if_success (with_reducible first | (refine at1 ?_ ?_; constructor) )); (first | ((with_reducible show wpAny _ _ (eval (Expr.Name _ _) (envOf _ _ _ _ _)) _ _ _); refine' nameX_L ?F ?v ?_; (case F => assumption); (case v => (repeat (first | exact if_pos rfl | assumption | refine Eq.trans (if_neg (by decide)) ?_)))) | (k_unfold; (try dsimp only)) | (k_end; wrow_close) | ((with_reducible show wpAny _ _ (setItem (Value.ref _) (Value.int _ _) _) _ _ _); k_dflt (refine h_set (by k_asm) (by k_asm) (by k_updF) (by k_asm) (by assumption) ?_; k_whole); intro _ _ _ nN _; (try dsimp only at nN); (try k_sweep)) | ((with_reducible show wpAny _ _ (subscriptTail _ _ (Value.ref _) (Value.int _ _)) _ _ _); first | k_dflt (refine h_item (by k_asm) (by k_mem) (by k_asm) (by assumption) ?_; k_whole) | k_dflt (refine h_tail (by k_asm) (by k_mem) (by k_asm) ?_; k_whole)) | walk1 | (dsimp only; walk1) | (leave1; walk_say "STEP leave1"; try dsimp only) | fail "no step")))
    refine hQf _ _ ?_
    show LeaveT env outer h₀ L m g R .none _
    exact ⟨g1, Lf, _, _, T1, F2, News.sub N2 (fun p hp => .tail _ (.tail _ (.tail _ (.tail _ hp)))), fun h₀' T F N => h h₀' _ _ T F (by rw [hBL]; exact N)⟩
end
/-! part B8 -/
set_option maxHeartbeats 1000000
set_option maxHeartbeats 8000000
def readyOf (nodes : List Nd) : List (Int × Tok) := (nodes.filter fun nd => nd.np == 0).map fun nd => (nd.k, nd.tk)
theorem paired_ready {all : List Nd} (hn : ND (NN all)) : ∀ {l : List Nd} {ys : List Value}, (∀ nd ∈ l, nd ∈ all) → Paired (fun v y => ∃ nd ∈ all, v = .ref nd.a ∧ y = .int nd.k nd.tk) (l.map fun nd => Value.ref nd.a) ys → ys = vals (l.map fun nd => (nd.k, nd.tk))
  | [], _, _, h => by cases h; rfl
  | nd :: l, _, hs, h => by
    rw [List.map_cons] at h
    cases h with
    | cons h1 h2 =>
      obtain ⟨nd', hm, e, rfl⟩ := h1
      have : nd = nd' := inj_a hn (hs nd (.head _)) hm (Value.ref.inj e)
      subst this
      rw [paired_ready hn (fun x hx => hs x (.tail _ hx)) h2]; rfl
theorem filter_ready {all : List Nd} {p : Value → Bool} (hp : ∀ nd ∈ all, p (.ref nd.a) = (nd.np == 0)) : ((kvsOf all).map (·.2)).filter p = (all.filter fun nd => nd.np == 0).map fun nd => Value.ref nd.a := by
  unfold kvsOf
  rw [List.map_map, List.filter_map]
  congr 1
  apply List.filter_congr
  intro x hx
  exact hp x hx
section
variable {w : World} {A : Around} {h₀ : Heap} {L : Addr} {m : Str → Option Value} {s : Shared} {rest : List (Addr × Obj)} {c : Sx} {tp tf : Nat} {np nf : Int} {od : Obj} {nodes : List Nd} {R : Result → Shared → Prop}
  {A₀ : Around} {base : Heap} {outer : List Env} {env : Env} {p : Program} {loose : List Str} {mean : ExcName → Option Value} {mg mb : Str → Option Value}
theorem c_prepare (G : Gr0 (hd.heap_39 w.params) p loose mean mg mb A₀ base outer h₀) (hA : A.frames = some (env :: outer)) (hf : env.frame = some L) (hke : env.scope.kind = .function) (hh : A.handled = none) (hgu : A.guards = some []) (hdep : A.depth + 5 * 5 < 900) (hun : A.units + 50 * 5 < 9000)
   (F : Fr h₀ L s.heap m) (N : News h₀ L s.heap (SL w c .none np nf tp tf od (NN nodes ++ rest))) (K : SOK w c od nodes rest) (hz : nodes.length ≤ 1000)
   (hsuc : ∀ nd ∈ nodes, ∀ p ∈ nd.si, nd.k < p.1 ∧ p.1 ∈ nodes.map (·.k)) (hsl : ∀ nd ∈ nodes, nd.si.length ≤ 1000)
   (h : ∀ h₀' h' t' ra rn, KtsTurn (fsOf outer) h₀ h₀' → Fr h₀' L h' m → News h₀' L h' (SL w c (.ref ra) np nf tp tf od (NN nodes ++ (ra, listOf (vals (readyOf nodes)).toArray rn) :: rest)) → SOK w c od nodes ((ra, listOf (vals (readyOf nodes)).toArray rn) :: rest) → R (.ok (.ret .none)) { s with heap := h', toks := t' })
   : codeAny (model PR w) A (.call (.ref 92) ⟨[.ref c.sx], []⟩) R s := by
  have hdo := K.dict
  obtain ⟨hd', dep, fr, gu, un⟩ := A
  dsimp only at hA hh hgu hdep hun
  subst hA hh hgu
  have X₀ := G.X
  refine' code_defT (binds := [(Str.ofString "self", .ref c.sx)]) G F N rfl hf hke ?k6 ?k7 ?k8 ?k9 ?kB ?_ ?c2 ?c3 ?c4 ?c5
  case k6 => k_is
  case k7 => k_is
  case k8 => k_room
  case k9 => exact BindsTo.of_eq rfl
  case c5 => decide
  case kB => exact locs rfl
  case c2 => exact rfl
  case c3 => exact rfl
  case c4 => exact rfl
  clear F N
  intro g' L' h' Q0 hQ0 FG' F' N' G' hlow
  have B' := G'.B
  have X' := G'.X
  have T' := G'.T
  (try dsimp only)
  (try k_fold)
  (repeat' ((fail_if_success (with_reducible first | (refine at1 ?_ ?_; constructor) )); (first | (k_unfold; (try dsimp only)) | (k_end; wrow_close) | ((with_reducible first | refine' h_items ?N ?m ?d ?_ | refine' h_values ?N ?m ?d ?_ | refine' h_mget ?N ?m ?d ?_); (case N => k_asm); (case m => k_mem); (case d => k_asm); k_whole) | ((with_reducible show wpAny _ _ (eval (Expr.Name _ _) (compEnvC _ _ _ _)) _ _ _); k_dflt (refine comp_var (by assumption) (by assumption) ?_; k_whole)) | ((with_reducible show wpAny _ _ (getAttr (Value.ref _) _ _) _ _ _); k_dflt (refine get_slotH (by assumption) (by assumption) (by k_is) (by k_is) (by k_is) (by k_is) (by k_is) (by k_is) rfl (by k_handed) ?_; k_whole)) | ((with_reducible show wpAny _ _ (call (Value.type "bool") [Value.ref _]) _ _ _); k_dflt (refine call_bool_list (News.isList (by k_asm) (by k_mem)) (by assumption) ?_; k_whole)) | walk1 | (dsimp only; walk1) | (leave1; walk_say "STEP leave1"; try dsimp only) | fail "no step")))
  have hpp : ∀ nd ∈ nodes, (fun v => decide (∃ nd ∈ nodes, v = Value.ref nd.a ∧ nd.np = 0)) (Value.ref nd.a) = (nd.np == 0) := by
    intro nd hm
    by_cases e : nd.np = 0
    · simp only [e, beq_self_eq_true, decide_eq_true_eq]; exact ⟨nd, hm, rfl, e⟩
    · rw [beq_eq_false_iff_ne.mpr e]
      simp only [decide_eq_false_iff_not]
      rintro ⟨nd', hm', e1, e2⟩
      have := inj_a K.facts.n.left hm hm' (Value.ref.inj e1)
      subst this
      exact e e2
  refine eval_comp (cl := []) (fun v => decide (∃ nd ∈ nodes, v = .ref nd.a ∧ nd.np = 0)) (fun v y => ∃ nd ∈ nodes, v = .ref nd.a ∧ y = .int nd.k nd.tk) rfl (by decide) rfl (by decide) rfl ?_
  (repeat' ((fail_if_success (with_reducible first | (refine at1 ?_ ?_; constructor) )); (first | (k_unfold; (try dsimp only)) | (k_end; wrow_close) | ((with_reducible first | refine' h_items ?N ?m ?d ?_ | refine' h_values ?N ?m ?d ?_ | refine' h_mget ?N ?m ?d ?_); (case N => k_asm); (case m => k_mem); (case d => k_asm); k_whole) | ((with_reducible show wpAny _ _ (eval (Expr.Name _ _) (compEnvC _ _ _ _)) _ _ _); k_dflt (refine comp_var (by assumption) (by assumption) ?_; k_whole)) | ((with_reducible show wpAny _ _ (getAttr (Value.ref _) _ _) _ _ _); k_dflt (refine get_slotH (by assumption) (by assumption) (by k_is) (by k_is) (by k_is) (by k_is) (by k_is) (by k_is) rfl (by k_handed) ?_; k_whole)) | ((with_reducible show wpAny _ _ (call (Value.type "bool") [Value.ref _]) _ _ _); k_dflt (refine call_bool_list (News.isList (by k_asm) (by k_mem)) (by assumption) ?_; k_whole)) | walk1 | (dsimp only; walk1) | (leave1; walk_say "STEP leave1"; try dsimp only) | fail "no step")))
  rename Fr _ _ _ _ => F1
  rename News _ _ _ _ => N1
  have hD := Heap.dictOf_iff.mpr ⟨od, (N1 (c.d, od) (.tail _ (.tail _ (.head _)))).1, hdo⟩
  refine call_meetsIn PySem.F.slot_dict_values (Heap.DictOf.typeIs (by exact hD)) PySem.F.entry_dict_values (PySem.F.args_dict_values_1 _) (meets_dict_values (intKind PR w) c.d K.lo) ⟨⟨_, hD⟩, ?_⟩
  refine comp_values (knd := intKind PR w) (od := od) (kvs := kvsOf nodes) rfl (Heap.get?_push_size _ rfl) (by k_mem) hdo (F1.push _) (fun p hp => ⟨Heap.get?_push_of_some _ (N1 p hp).1, (N1 p hp).2⟩) (by unfold kvsOf; rw [List.length_map]; exact Nat.le_trans hz (by decide)) ?q ?_
  case q =>
    have nodeOf : ∀ (i : Nat) (v : Value), (∃ k, (kvsOf nodes)[i]? = some (k, v)) → ∃ nd ∈ nodes, v = Value.ref nd.a := by
      rintro i v ⟨k, hk⟩
      have := List.mem_of_getElem? hk
      obtain ⟨nd, hm, e⟩ := List.mem_map.mp this
      cases e
      exact ⟨nd, hm, rfl⟩
    have inst : ∀ (nd : Nd) C v (s₃ : Shared) m₃, nd ∈ nodes → CompAt g' (SL w c .none np nf tp tf od (NN nodes ++ rest)) C (Str.ofString "i") v s₃ m₃ → InstAt s₃.heap nd.a (nodeObj nd.da nd.sa nd.np nd.tn nd.k nd.tk) 40 (some (dictOf [] 0)) := fun nd C v s₃ m₃ hm hc =>
      ⟨hc.led _ (List.mem_cons_of_mem _ (List.mem_cons_of_mem _ (List.mem_cons_of_mem _ (List.mem_append_left _ (mem_obj hm))))), rfl, rfl, hc.led _ (List.mem_cons_of_mem _ (List.mem_cons_of_mem _ (List.mem_cons_of_mem _ (List.mem_append_left _ (mem_dct hm)))))⟩
    refine ⟨?_, ?_⟩
    · intro C i v s₃ m₃ E' hP hc
      obtain ⟨nd, hm, rfl⟩ := nodeOf i v hP
      have hI := inst nd C _ s₃ m₃ hm hc
      have hX : (hd.heap_39 w.params).In s₃.heap := X'.keeps hc.keep
      have hns := hc.ns
      have hvr := hc.var
      refine tests_one ?_
      (repeat' ((fail_if_success (with_reducible first | (refine at1 ?_ ?_; constructor) )); (first | (k_unfold; (try dsimp only)) | (k_end; wrow_close) | ((with_reducible first | refine' h_items ?N ?m ?d ?_ | refine' h_values ?N ?m ?d ?_ | refine' h_mget ?N ?m ?d ?_); (case N => k_asm); (case m => k_mem); (case d => k_asm); k_whole) | ((with_reducible show wpAny _ _ (eval (Expr.Name _ _) (compEnvC _ _ _ _)) _ _ _); k_dflt (refine comp_var (by assumption) (by assumption) ?_; k_whole)) | ((with_reducible show wpAny _ _ (getAttr (Value.ref _) _ _) _ _ _); k_dflt (refine get_slotH (by assumption) (by assumption) (by k_is) (by k_is) (by k_is) (by k_is) (by k_is) (by k_is) rfl (by k_handed) ?_; k_whole)) | ((with_reducible show wpAny _ _ (call (Value.type "bool") [Value.ref _]) _ _ _); k_dflt (refine call_bool_list (News.isList (by k_asm) (by k_mem)) (by assumption) ?_; k_whole)) | walk1 | (dsimp only; walk1) | (leave1; walk_say "STEP leave1"; try dsimp only) | fail "no step")))
      all_goals first | exact (hpp nd hm).symm | exact ⟨_, rfl⟩
    · intro C i v s₃ m₃ E' hP hpv hc
      obtain ⟨nd, hm, rfl⟩ := nodeOf i v hP
      have hI := inst nd C _ s₃ m₃ hm hc
      have hX : (hd.heap_39 w.params).In s₃.heap := X'.keeps hc.keep
      have hns := hc.ns
      have hvr := hc.var
      (repeat' ((fail_if_success (with_reducible first | (refine at1 ?_ ?_; constructor) )); (first | (k_unfold; (try dsimp only)) | (k_end; wrow_close) | ((with_reducible first | refine' h_items ?N ?m ?d ?_ | refine' h_values ?N ?m ?d ?_ | refine' h_mget ?N ?m ?d ?_); (case N => k_asm); (case m => k_mem); (case d => k_asm); k_whole) | ((with_reducible show wpAny _ _ (eval (Expr.Name _ _) (compEnvC _ _ _ _)) _ _ _); k_dflt (refine comp_var (by assumption) (by assumption) ?_; k_whole)) | ((with_reducible show wpAny _ _ (getAttr (Value.ref _) _ _) _ _ _); k_dflt (refine get_slotH (by assumption) (by assumption) (by k_is) (by k_is) (by k_is) (by k_is) (by k_is) (by k_is) rfl (by k_handed) ?_; k_whole)) | ((with_reducible show wpAny _ _ (call (Value.type "bool") [Value.ref _]) _ _ _); k_dflt (refine call_bool_list (News.isList (by k_asm) (by k_mem)) (by assumption) ?_; k_whole)) | walk1 | (dsimp only; walk1) | (leave1; walk_say "STEP leave1"; try dsimp only) | fail "no step")))
      all_goals first | exact hm | exact ⟨nd, hm, rfl, rfl⟩ | exact ⟨_, rfl⟩
  intro D h2 t2 ys k2 F2 N2 hDn hpr
  rw [filter_ready hpp] at hpr
  have hys : ys = (vals (readyOf nodes)).toArray := by
    have := paired_ready K.facts.n.left (fun x hx => (List.mem_filter.mp hx).1) hpr
    apply Array.toList_inj.mp
    rw [this]; rfl
  subst hys
  clear hpr
  have K2 := K.moreOff (o := listOf (vals (readyOf nodes)).toArray k2) hDn
  obtain ⟨h12, h13, h23, o1, o2, o3, n⟩ := K.facts
  have hD2 : D ≠ c.sd := (hDn (c.sd, _) (.tail _ (.head _))).symm
  clear N1 F1
  dsimp only
  (repeat' ((fail_if_success (with_reducible first | (refine at1 ?_ ?_; constructor) )); (first | (k_unfold; (try dsimp only)) | (k_end; wrow_close) | ((with_reducible first | refine' h_items ?N ?m ?d ?_ | refine' h_values ?N ?m ?d ?_ | refine' h_mget ?N ?m ?d ?_); (case N => k_asm); (case m => k_mem); (case d => k_asm); k_whole) | ((with_reducible show wpAny _ _ (eval (Expr.Name _ _) (compEnvC _ _ _ _)) _ _ _); k_dflt (refine comp_var (by assumption) (by assumption) ?_; k_whole)) | ((with_reducible show wpAny _ _ (getAttr (Value.ref _) _ _) _ _ _); k_dflt (refine get_slotH (by assumption) (by assumption) (by k_is) (by k_is) (by k_is) (by k_is) (by k_is) (by k_is) rfl (by k_handed) ?_; k_whole)) | ((with_reducible show wpAny _ _ (call (Value.type "bool") [Value.ref _]) _ _ _); k_dflt (refine call_bool_list (News.isList (by k_asm) (by k_mem)) (by assumption) ?_; k_whole)) | walk1 | (dsimp only; walk1) | (leave1; walk_say "STEP leave1"; try dsimp only) | fail "no step")))
  rename Fr _ _ _ _ => F3
  rename News _ _ _ _ => N3
  refine wpAny_call ?_
  refine c_find (r := .ref D) (np := np) (nf := nf) (tp := tp) (tf := tf) (od := od) (nodes := nodes) (rest := (D, listOf (vals (readyOf nodes)).toArray k2) :: rest) G' rfl rfl rfl rfl rfl (by show dep + 1 + 5 * 3 < 900; omega) (by show un + 3 + 50 * 3 < 9000; omega) F3 (News.sub (n1 := _ :: SL w c (.ref D) np nf tp tf od (NN nodes ++ rest)) N3 SL_in) K2 hz hsuc hsl fun g5 h5 t5 T5 F5 N5 => ?_
  clear N3 F3
  have G5 := G'.turn T5
  have B5' := G5.B
  have X5' := G5.X
  have T5' := G5.T
  dsimp only
  (repeat' ((fail_if_success (with_reducible first | (refine at1 ?_ ?_; constructor) )); (first | (k_unfold; (try dsimp only)) | (k_end; wrow_close) | ((with_reducible first | refine' h_items ?N ?m ?d ?_ | refine' h_values ?N ?m ?d ?_ | refine' h_mget ?N ?m ?d ?_); (case N => k_asm); (case m => k_mem); (case d => k_asm); k_whole) | ((with_reducible show wpAny _ _ (eval (Expr.Name _ _) (compEnvC _ _ _ _)) _ _ _); k_dflt (refine comp_var (by assumption) (by assumption) ?_; k_whole)) | ((with_reducible show wpAny _ _ (getAttr (Value.ref _) _ _) _ _ _); k_dflt (refine get_slotH (by assumption) (by assumption) (by k_is) (by k_is) (by k_is) (by k_is) (by k_is) (by k_is) rfl (by k_handed) ?_; k_whole)) | ((with_reducible show wpAny _ _ (call (Value.type "bool") [Value.ref _]) _ _ _); k_dflt (refine call_bool_list (News.isList (by k_asm) (by k_mem)) (by assumption) ?_; k_whole)) | walk1 | (dsimp only; walk1) | (leave1; walk_say "STEP leave1"; try dsimp only) | fail "no step")))
  rename Fr _ _ _ _ => F7
  rename News _ _ _ _ => N7
  refine hQ0 _ _ ?_
  exact ⟨g5, L', _, _, T5, F7, N7, fun h₀' T F N => h h₀' _ _ D k2 T F N K2⟩
end
/-! part L10 -/
set_option maxHeartbeats 1000000
set_option maxHeartbeats 4000000
theorem fix_name {x : Str} {v : Value} {m : Str → Option Value} (h : m x = some v) : m = putm x v m := by
  funext y
  by_cases e : y = x
  · subst e; show _ = if _ then _ else _; rw [if_pos rfl]; exact h
  · show _ = if _ then _ else _; rw [if_neg e]
theorem fix2 {x1 x2 : Str} {v1 v2 : Value} {m : Str → Option Value} (h1 : m x1 = some v1) (h2 : m x2 = some v2) : m = putm x1 v1 (putm x2 v2 m) := (fix_name h1).trans (congrArg (putm x1 v1) (fix_name h2))
theorem fix3 {x1 x2 x3 : Str} {v1 v2 v3 : Value} {m : Str → Option Value} (h1 : m x1 = some v1) (h2 : m x2 = some v2) (h3 : m x3 = some v3) : m = putm x1 v1 (putm x2 v2 (putm x3 v3 m)) := (fix_name h1).trans (congrArg (putm x1 v1) (fix2 h2 h3))
theorem fix4 {x1 x2 x3 x4 : Str} {v1 v2 v3 v4 : Value} {m : Str → Option Value} (h1 : m x1 = some v1) (h2 : m x2 = some v2) (h3 : m x3 = some v3) (h4 : m x4 = some v4) : m = putm x1 v1 (putm x2 v2 (putm x3 v3 (putm x4 v4 m))) := (fix_name h1).trans (congrArg (putm x1 v1) (fix3 h2 h3 h4))
theorem fix5 {x1 x2 x3 x4 x5 : Str} {v1 v2 v3 v4 v5 : Value} {m : Str → Option Value} (h1 : m x1 = some v1) (h2 : m x2 = some v2) (h3 : m x3 = some v3) (h4 : m x4 = some v4) (h5 : m x5 = some v5) : m = putm x1 v1 (putm x2 v2 (putm x3 v3 (putm x4 v4 (putm x5 v5 m)))) := (fix_name h1).trans (congrArg (putm x1 v1) (fix4 h2 h3 h4 h5))
section
variable {prog : Program} {w : World} {A₀ A : Around} {base h₀ : Heap} {outer : List Env} {L : Addr} {m : Str → Option Value} {s : Shared} {news : List (Addr × Obj)} {K : Frag} {p : Program} {loose : List Str} {mean : ExcName → Option Value} {mg mb : Str → Option Value} {env : Env}
  {R : Result → Shared → Prop} {name qual : Str} {params : Arguments} {body : List Stmt} {scope : Scope} {dV kV doc pm cdv ct oc : Value} {an od : Option Addr} {osl : Array (Option Value)} {f : Addr} {args : Args} {binds : List (Str × Value)}
/-- a def with cells is entered -/
theorem code_defTC (G : Gr0 K p loose mean mg mb A₀ base outer h₀) (F : Fr h₀ L s.heap m) (N : News h₀ L s.heap news) (hA : A.frames = some (env :: outer)) (hf : env.frame = some L) (hke : env.scope.kind = .function)
    (ho : K.lookup f = some ⟨oc, od, .func (fnOf name qual params body scope dV kV doc pm an cdv ct), osl⟩) (hcd : codeIn K cdv qual = true) (hroom : A.depth < recursionLimit)
    (hbind : BindsTo s (fnOf name qual params body scope dV kV doc pm an cdv ct) args binds)
    (hkind : ∀ n, ∀ x ∈ binds, scope.names.lookup x.1 = some .local ∨ (scope.names.lookup x.1 = some .cell ∧ ((cellsFrom n scope.names []).lookup x.1).isSome = true))
    (hnd : ((cellsFrom 0 scope.names []).map (·.1)).Nodup)
    (h : ∀ g L' h₁ tk cells (Qf : Flow → Shared → Prop), (∀ fl s', LeaveT env outer h₀ L m g R (match fl with | .ret v => v | _ => .none) s' → Qf fl s') → Fr h₀ L g m → Fr g L' h₁ (bindL (envOfC qual scope L' f cdv).kindOf binds fun _ => none) → News g L' h₁ (cells ++ news) →
      CellsAre (bindC (envOfC qual scope L' f cdv).kindOf binds fun _ => none) (cellsFrom (L' + 1) scope.names []) cells → Gr0 K p loose mean mg mb A base (env :: outer) g → (∀ p ∈ news, p.1 < L') →
      wpAny (model prog w) (A.deeper (envOfC qual scope L' f cdv)) (execs body (envOfC qual scope L' f cdv))
        Qf (fun _ _ => False) { s with heap := h₁, toks := tk })
    (hco : scope.isCoroutine = false) (hgen : scope.isGenerator = false) (hk : scope.kind = .function) : codeAny (model prog w) A (.call (.ref f) args) R s := by
  have X := G.X.keeps F.keep
  obtain ⟨FG, BG, st, _⟩ := groundX (R := R) G.B F N hA hf hke
  refine codeAny_call_function hroom (X _ _ ho) rfl hco hgen rfl (codeRec_of X hcd) (hbind _ _ _ _ ?_)
  refine wpAny_newFunctionEnv_cells hk (hkind _) fun env' he s' x => ?_
  subst he
  refine ⟨(G.T.nolimit.keeps F.keep).keeps x.toInCall.keep, codeAny_func ?_⟩
  obtain ⟨h₁, tk, rfl, _⟩ := x.done
  have hk₁ := x.toInCall.keep
  obtain ⟨cells, NC, Y⟩ := Cl.news (h₀ := s.heap) (Nat.le_refl _) fun n c hm => ⟨x.cell n c (lookup_of_mem_nodup (cellsFrom_names scope.names 0 (s.heap.objs.size + 1) [] [] rfl ▸ hnd) hm), x.above n c hm⟩
  refine wpAny_mono (h _ s.heap.objs.size h₁ tk cells _ (fun _ _ h => h) FG ⟨x.toInCall.ns, fun b o e => hk₁ b o (of_hideAll _ e), Nat.le_of_eq (hideAll_size _ _)⟩ (fun p hp => ?_) Y
    ⟨BG, G.X.keeps st, G.T.keeps st, G.XB, G.TB, dicts_push G.D FG hf⟩ (fun p hp => Heap.lt_size (N p hp).1)) (fun fl s' hl => leaveT G.B FG hf hl) fun _ _ y => y.elim
  rcases List.mem_append.mp hp with hp | hp
  · refine ⟨(NC p hp).1, (NC p hp).2.1, ?_⟩
    cases q : (hideAll s.heap (news.map (·.1))).get? p.1 with
    | none => rfl
    | some o => have := of_hideAll _ q; rw [(NC p hp).2.2] at this; cases this
  · exact ⟨hk₁ _ _ (N p hp).1, Nat.ne_of_lt (Heap.lt_size (N p hp).1), hideAll_none _ (List.mem_map_of_mem hp)⟩
end

section
variable {prog : Program} {w : World} {A : Around} {s : Shared} {env : Env} {h₀ : Heap} {target : PySem.Expr} {body : List Stmt} {Q : Flow → Shared → Prop}
variable {m₀ : Str → Option Value} {news : List (Addr × Obj)} {r : Addr} {a b c : Int} {t u v : Tok} {n : Nat}
theorem iter_range (xs : List Str) (J : Nat → (Str → Option Value) → List (Addr × Obj) → Prop) (hh : A.handled = none) (hr : IsRange s.heap r a b c t u v) (hsm : Builtin.Range.small a b c = true) (hn : Builtin.Range.rangeSize a b c = (n : Int))
    (ht : ∀ I v, letOwnedTupleGo target (.ref I) v = pure ()) (F : Fr h₀ env.locals s.heap m₀) (N : News h₀ env.locals s.heap news) (hj : J 0 m₀ news)
    (turn : ∀ i tv mu news₁ h tk I io (Qt : Flow → Shared → Prop), (∀ f s', TurnP h₀ env.locals s I io (fun m' nx => Same xs m' m₀ ∧ J (i + 1) m' nx) Q f s' → Qt f s') → i < n → J i (mm xs mu m₀) news₁ → (∀ p ∈ news₁, p.1 ≠ I) → (∀ p ∈ news, p.1 < I) → Fr h₀ env.locals h (mm xs mu m₀) → News h₀ env.locals h ((I, io) :: news₁) →
      wpAny (model prog w) A (assign target env (.int (a + i * c) tv)) (fun _ s₂ => wpAny (model prog w) A (execs body env) Qt (fun _ _ => False) s₂) (fun _ _ => False) { s with heap := h, toks := tk })
    (done : ∀ mu news₁ h tk, J n (mm xs mu m₀) news₁ → Fr h₀ env.locals h (mm xs mu m₀) → News h₀ env.locals h news₁ → Q .next { s with heap := h, toks := tk }) :
    wpAny (model prog w) A (pyIter (.ref r)) (fun it s₂ => LoopX prog w A env target body Q it s₂) (fun _ _ => False) s := by
  refine wpAny_pyIter_range hr hsm ?_
  have W := Walks.range (prog := prog) (w := w) hh s.heap.objs.size a c n
  refine loopX_in (ks := []) xs J W ?_ (fresh_of F) (fun p hp => Nat.ne_of_lt (news_lt N p hp)) ?_ (fun i m nx h p hp => nomatch hp) (fun i h st => ⟨_, st⟩) (ht _)
    ?_ (F.push _) (fun p hp => ⟨Heap.get?_push_of_some _ (N p hp).1, (N p hp).2⟩) hj ?_ done
  · intro hm
    exact absurd F.ns.lt ((List.mem_singleton.mp hm) ▸ Nat.lt_irrefl _)
  · intro b hb
    rw [List.mem_singleton.mp hb]; exact .inl rfl
  · have e := Heap.get?_push_size s.heap (o := { cls := .type "range_iterator", data := .fields #[rawInt a, rawInt (Builtin.Range.rangeSize a b c), rawInt c] }) rfl
    show (s.heap.push _).get? _ = _
    rw [e, hn]
    simp [rawInt]
  · rintro i v m₁ news₁ h tk io hi ⟨tv, rfl⟩ hJ hn F' N'
    exact turn i tv m₁ news₁ h tk _ io _ (fun _ _ h => h.re) hi hJ hn (news_lt N) F' N'
theorem small_n {a n : Nat} (ha : a ≤ 1) (hn : n ≤ 1000) : Builtin.Range.small (a : Int) (n : Int) 1 = true := small_one (by omega) (by omega) (by omega) (by omega)
theorem rsize_n (n : Nat) : Builtin.Range.rangeSize 0 (n : Int) 1 = (n : Int) := by rw [rangeSize_nat]; omega
theorem rsize_1 (n : Nat) : Builtin.Range.rangeSize 1 ((n + 1 : Nat) : Int) 1 = (n : Int) := by rw [rangeSize_nat]; omega
/-- over a range that stands: 0, 1, .. -/
theorem iter_jobs (xs : List Str) (J : Nat → (Str → Option Value) → List (Addr × Obj) → Prop) (hh : A.handled = none) (hr : IsRange s.heap r 0 (n : Int) 1 t u v) (hn : n ≤ 1000)
    (ht : ∀ I v, letOwnedTupleGo target (.ref I) v = pure ()) (F : Fr h₀ env.locals s.heap m₀) (N : News h₀ env.locals s.heap news) (hj : J 0 m₀ news)
    (turn : ∀ (i : Nat) tv mu news₁ h tk I io (Qt : Flow → Shared → Prop), (∀ f s', TurnP h₀ env.locals s I io (fun m' nx => Same xs m' m₀ ∧ J (i + 1) m' nx) Q f s' → Qt f s') → i < n → J i (mm xs mu m₀) news₁ → (∀ p ∈ news₁, p.1 ≠ I) → Fr h₀ env.locals h (mm xs mu m₀) → News h₀ env.locals h ((I, io) :: news₁) →
      wpAny (model prog w) A (assign target env (.int ((i : Int)) tv)) (fun _ s₂ => wpAny (model prog w) A (execs body env) Qt (fun _ _ => False) s₂) (fun _ _ => False) { s with heap := h, toks := tk })
    (done : ∀ mu news₁ h tk, J n (mm xs mu m₀) news₁ → Fr h₀ env.locals h (mm xs mu m₀) → News h₀ env.locals h news₁ → Q .next { s with heap := h, toks := tk }) :
    wpAny (model prog w) A (pyIter (.ref r)) (fun it s₂ => LoopX prog w A env target body Q it s₂) (fun _ _ => False) s :=
  iter_range xs J hh hr (small_n (a := 0) (Nat.zero_le _) hn) (rsize_n n) ht F N hj (fun i tv mu nx h tk I io Qt hQt hi hJ hnI _ F' N' => by
    have := turn i tv mu nx h tk I io Qt hQt hi hJ hnI F' N'
    rwa [show (0 : Int) + (i : Int) * 1 = (i : Int) by omega]) done
/-- for .. in range(n) -/
theorem for_range (xs : List Str) (J : Nat → (Str → Option Value) → List (Addr × Obj) → Prop) (hh : A.handled = none) (hn : n ≤ 1000)
    (ht : ∀ I v, letOwnedTupleGo target (.ref I) v = pure ()) (F : Fr h₀ env.locals s.heap m₀) (N : News h₀ env.locals s.heap news) (hj : J 0 m₀ news)
    (turn : ∀ (i : Nat) tv mu news₁ h tk I io (Qt : Flow → Shared → Prop), (∀ f s', TurnP h₀ env.locals s I io (fun m' nx => Same xs m' m₀ ∧ J (i + 1) m' nx) Q f s' → Qt f s') → i < n → J i (mm xs mu m₀) news₁ → (∀ p ∈ news₁, p.1 ≠ I) → Fr h₀ env.locals h (mm xs mu m₀) → News h₀ env.locals h ((I, io) :: news₁) →
      wpAny (model prog w) A (assign target env (.int ((i : Int)) tv)) (fun _ s₂ => wpAny (model prog w) A (execs body env) Qt (fun _ _ => False) s₂) (fun _ _ => False) { s with heap := h, toks := tk })
    (done : ∀ mu news₁ h tk, J n (mm xs mu m₀) news₁ → Fr h₀ env.locals h (mm xs mu m₀) → News h₀ env.locals h news₁ → Q .next { s with heap := h, toks := tk }) :
    wpAny (model prog w) A (call (.type "range") [.int (n : Int) t]) (fun xv s₁ => wpAny (model prog w) A (pyIter xv) (fun it s₂ => LoopX prog w A env target body Q it s₂) (fun _ _ => False) s₁) (fun _ _ => False) s :=
  call_range_1 (iter_jobs xs J hh (Heap.get?_push_size _ rfl) hn ht (F.push _) (fun p hp => ⟨Heap.get?_push_of_some _ (N p hp).1, (N p hp).2⟩) hj (fun i tv mu nx h tk I io Qt hQt => turn i tv mu nx h tk I io Qt fun f s' z => hQt f s' z.re) done)
/-- for .. in range(1, n + 1) -/
theorem for_range1 (xs : List Str) (J : Nat → (Str → Option Value) → List (Addr × Obj) → Prop) (hh : A.handled = none) (hn : n < 1000)
    (ht : ∀ I v, letOwnedTupleGo target (.ref I) v = pure ()) (F : Fr h₀ env.locals s.heap m₀) (N : News h₀ env.locals s.heap news) (hj : J 0 m₀ news)
    (turn : ∀ (i : Nat) tv mu news₁ h tk I io (Qt : Flow → Shared → Prop), (∀ f s', TurnP h₀ env.locals s I io (fun m' nx => Same xs m' m₀ ∧ J (i + 1) m' nx) Q f s' → Qt f s') → i < n → J i (mm xs mu m₀) news₁ → (∀ p ∈ news₁, p.1 ≠ I) → Fr h₀ env.locals h (mm xs mu m₀) → News h₀ env.locals h ((I, io) :: news₁) →
      wpAny (model prog w) A (assign target env (.int (((i + 1 : Nat) : Int)) tv)) (fun _ s₂ => wpAny (model prog w) A (execs body env) Qt (fun _ _ => False) s₂) (fun _ _ => False) { s with heap := h, toks := tk })
    (done : ∀ mu news₁ h tk, J n (mm xs mu m₀) news₁ → Fr h₀ env.locals h (mm xs mu m₀) → News h₀ env.locals h news₁ → Q .next { s with heap := h, toks := tk }) :
    wpAny (model prog w) A (call (.type "range") [.int 1 t, .int ((n + 1 : Nat) : Int) u]) (fun xv s₁ => wpAny (model prog w) A (pyIter xv) (fun it s₂ => LoopX prog w A env target body Q it s₂) (fun _ _ => False) s₁) (fun _ _ => False) s :=
  call_range_2 (iter_range (n := n) xs J hh (Heap.get?_push_size _ rfl) (small_n (a := 1) (Nat.le_refl _) hn) (rsize_1 n) ht (F.push _) (fun p hp => ⟨Heap.get?_push_of_some _ (N p hp).1, (N p hp).2⟩) hj (fun i tv mu nx h tk I io Qt hQt hi hJ hnI _ F' N' => by
    have := turn i tv mu nx h tk I io Qt (fun f s' z => hQt f s' z.re) hi hJ hnI F' N'
    rwa [show (1 : Int) + (i : Int) * 1 = ((i + 1 : Nat) : Int) by omega]) done)
end

section
variable {prog : Program} {w : World} {A : Around} {E : Value → Shared → Prop} {s : Shared} {env : Env} {h₀ : Heap} {m : Str → Option Value} {news : List (Addr × Obj)}
  {elt iter : PySem.Expr} {x : Str} {px : Pos} {ifs : List PySem.Expr} {scope : Scope} {cl : List (Str × Addr)} {pos : Pos} {L : Addr} {Q : Value → Shared → Prop} {p : Value → Bool} {G : Value → Value → Prop} {r : Addr} {a b c : Int} {t u v : Tok} {n : Nat}
theorem comp_range (hh : A.handled = none) (hr : IsRange s.heap r a b c t u v) (hsm : Builtin.Range.small a b c = true) (hn : Builtin.Range.rangeSize a b c = (n : Int)) (F : Fr h₀ L s.heap m) (N : News h₀ L s.heap news) (hz : n ≤ sizeLine) (q : CompQ prog w A env h₀ news scope cl x ifs elt (fun i v => i < n ∧ ∃ t, v = .int (a + i * c) t) p G)
    (hQ : ∀ D h' tk ys k (vs : List Value), Fr h₀ L h' m → News h₀ L h' ((D, listOf ys k) :: news) → (∀ q ∈ news, q.1 ≠ D) → vs.length = n → (∀ (j : Nat) (v : Value), vs[j]? = some v → ∃ t, v = Value.int (a + j * c) t) → Paired G (vs.filter p) ys.toList → Q (.ref D) { s with heap := h', toks := tk }) :
    wpAny (model prog w) A (pyIter (.ref r)) (CompX prog w A env scope cl x ifs elt p G Q) E s := by
  refine wpAny_pyIter_range hr hsm ?_
  have W0 := Walks.range (prog := prog) (w := w) hh s.heap.objs.size a c n
  have W : Walks prog w A s.heap.objs.size [s.heap.objs.size] [s.heap.objs.size] n (fun i v => i < n ∧ ∃ t, v = .int (a + i * c) t) (fun i h => IsRangeIter h s.heap.objs.size (a + (i : Nat) * c) ((n : Int) - (i : Nat)) c) :=
    ⟨W0.sub, W0.frame, fun i s Q E hi st hQ => W0.item i s Q E hi st fun v h' tk hP => hQ v h' tk ⟨hi, hP⟩, W0.done, W0.self⟩
  refine compX_of W hz ?_ ?_ (F.push _) (fun p hp => ⟨Heap.get?_push_of_some _ (N p hp).1, (N p hp).2⟩) (fresh_of F) (fun e => absurd F.ns.lt (e ▸ Nat.lt_irrefl _)) (fun p hp => Nat.ne_of_lt (news_lt N p hp)) q ?_
  · have e := Heap.get?_push_size s.heap (o := { cls := .type "range_iterator", data := .fields #[rawInt a, rawInt (Builtin.Range.rangeSize a b c), rawInt c] }) rfl
    show (s.heap.push _).get? _ = _
    rw [e, hn]
    simp [rawInt]
  · intro b hb
    rw [Heap.size_push, List.mem_singleton.mp hb]
    exact Nat.lt_succ_self _
  · intro D h' tk ys k vs' F' N' hD hlen hP' hG
    exact hQ D h' tk ys k vs' F' N' hD hlen (fun j v hj => (hP' j v hj).2) hG
/-- a free name of a comprehension, a cell of the def around -/
theorem comp_free {M : Model} {C cc : Addr} {o : Obj} {vv : Value} (ho : s.heap.get? cc = some o) (hd : o.data = .cell (some vv)) (h : Q vv s) (hc : cl.lookup x = some cc := by rfl)
    (hk : (compEnvC scope cl C env).scope.kind = .function := by rfl) (hl : (compEnvC scope cl C env).kindOf x = some .cell := by rfl) (hb : (x == ("__debug__" : Str)) = false := by decide) :
    wpAny M A (eval (.Name x pos) (compEnvC scope cl C env)) Q E s := wpAny_Name (wpAny_loadName_cell hk hl hc ⟨o, ho, hd⟩ h) hb
end
abbrev rngObj (a b c : Int) (t u v : Tok) : Obj := { cls := .type "range", dict := none, data := .fields #[.int a t, .int b u, .int c v], slots := #[] }
theorem range1_K {prog : Program} {w : World} {A : Around} {E : Value → Shared → Prop} {s : Shared} {g : Heap} {L : Addr} {m : Str → Option Value} {news : List (Addr × Obj)} {n : Int} {t : Tok} {Q : Value → Shared → Prop} (F : Fr g L s.heap m) (N : News g L s.heap news)
    (h : ∀ D h' t1 t2 t3 tk, Fr g L h' m → News g L h' ((D, rngObj 0 n 1 t1 t2 t3) :: news) → (∀ p ∈ news, p.1 ≠ D) → Q (.ref D) { s with heap := h', toks := tk }) : wpAny (model prog w) A (call (.type "range") [.int n t]) Q E s :=
  call_range_1 (h _ _ _ _ _ _ (F.push _) (News.push F N (rngObj 0 n 1 s.toks t (s.toks + 1))) fun p hp => Nat.ne_of_lt (news_lt N p hp))
/-! part L11 -/
set_option maxHeartbeats 1000000
set_option maxHeartbeats 4000000
section
variable {prog : Program} {w : World} {A : Around} {E : Value → Shared → Prop} {s : Shared} {env : Env} {h₀ : Heap} {m : Str → Option Value} {news : List (Addr × Obj)}
  {elt iter : PySem.Expr} {x y : Str} {px py : Pos} {ifs : List PySem.Expr} {scope : Scope} {cl : List (Str × Addr)} {pos spos : Pos} {Q : Flow → Shared → Prop} {p : Value → Bool} {G : Value → Value → Prop}
/-- y = [comprehension], y a local: the store stands inside -/
def CompA (prog : Program) (w : World) (A : Around) (env : Env) (scope : Scope) (cl : List (Str × Addr)) (x y : Str) (ifs : List PySem.Expr) (elt : PySem.Expr) (p : Value → Bool) (G : Value → Value → Prop) (Q : Flow → Shared → Prop) (it : Value) (s₂ : Shared) : Prop :=
  ∃ I fp wr n P St m, it = .ref I ∧ Walks prog w A I fp wr n P St ∧ n ≤ sizeLine ∧ St 0 s₂.heap ∧ (∀ b ∈ fp, b < s₂.heap.objs.size) ∧ env.locals ∉ wr ∧ s₂.heap.Ns env.locals m ∧ QuietOnC prog w A env scope cl x ifs elt wr P p G s₂ ∧
      (∀ D h' tk ys (vs : List Value), s₂.heap.get? D = none → h'.IsList D ys → h'.PlainList D ys → vs.length = n → (∀ j v, vs[j]? = some v → P j v) → Paired G (vs.filter p) ys.toList →
        h'.Ns env.locals (fun z => if z = y then some (.ref D) else m z) → (∀ b o, b ≠ env.locals → b ∉ wr → s₂.heap.get? b = some o → h'.get? b = some o) → Q .next { s₂ with heap := h', toks := tk })
theorem asg_comp (p : Value → Bool) (G : Value → Value → Prop) (hsw : swapsWith (.ListComp elt [⟨.Name x px, iter, ifs, 0⟩] scope pos) (some (.Name y py)) spos.line env = pure true)
    (hclos : closureFor scope env = pure cl) (hcell : ∀ z ∈ scope.names, z.2 ≠ .cell) (hkind : scope.kind = .function)
    (hnames : ∀ z ∈ scope.names, z.2 = .local → scope.names.lookup z.1 = some .local) (hx : scope.names.lookup x = some .local)
    (hy : env.kindOf y = some .local) (hp : (env.scope.kind == .class || (env.scope.kind == .module && env.locals != env.globals)) = false)
    (h : wpAny (model prog w) A (eval iter env) (fun xv s₁ => wpAny (model prog w) A (pyIter xv) (CompA prog w A env scope cl x y ifs elt p G Q) E s₁) E s)
    (hs : ∀ x, foldedSetIterable iter env x = pure x := by intro _; rfl) :
    wpAny (model prog w) A (exec (.Assign [.Name y py] (.ListComp elt [⟨.Name x px, iter, ifs, 0⟩] scope pos) spos) env) Q E s :=
  wpAny_Assign_ListComp_free p G hsw hclos hcell hkind hnames hx hy hp h hs
theorem compA_of {I : Addr} {fp : List Addr} {n : Nat} {P : Nat → Value → Prop} {St : Nat → Heap → Prop} (W : Walks prog w A I fp [I] n P St) (hz : n ≤ sizeLine) (hst : St 0 s.heap) (hfp : ∀ b ∈ fp, b < s.heap.objs.size)
    (F : Fr h₀ env.locals s.heap m) (N : News h₀ env.locals s.heap news) (hI0 : h₀.get? I = none) (hLI : env.locals ≠ I) (hnI : ∀ p ∈ news, p.1 ≠ I) (q : CompQ prog w A env h₀ news scope cl x ifs elt P p G) (hL0 : h₀.get? env.locals = none)
    (hQ : ∀ D h' tk ys k (vs : List Value), Fr h₀ env.locals h' (putm y (.ref D) m) → News h₀ env.locals h' ((D, listOf ys k) :: news) → (∀ q ∈ news, q.1 ≠ D) → vs.length = n → (∀ j v, vs[j]? = some v → P j v) → Paired G (vs.filter p) ys.toList → Q .next { s with heap := h', toks := tk }) :
    CompA prog w A env scope cl x y ifs elt p G Q (.ref I) s := by
  refine ⟨I, fp, [I], n, P, St, m, rfl, W, hz, hst, hfp, fun h => hLI (List.mem_singleton.mp h), F.ns, q.quiet F N hI0 hnI, ?_⟩
  intro D h' tk ys vs hD hl hpl hlen hP hF hns hk
  obtain ⟨k, hk'⟩ := hpl
  have hD0 : h₀.get? D = none := by
    cases e : h₀.get? D with
    | none => rfl
    | some o => have := F.keep _ _ e; rw [hD] at this; cases this
  have hDL : D ≠ env.locals := by
    rintro rfl
    obtain ⟨o, _, _, ho, _⟩ := F.ns
    rw [hD] at ho; cases ho
  refine hQ D h' tk ys k vs ⟨hns, fun b o e => hk b o (fun h => by rw [h, hL0] at e; cases e) (fun h => by rw [List.mem_singleton.mp h, hI0] at e; cases e) (F.keep b o e), F.above⟩ ?_ ?_ hlen hP hF
  · intro q hq
    rcases List.mem_cons.mp hq with rfl | hq
    · exact ⟨hk', hDL, hD0⟩
    · exact ⟨hk _ _ (N q hq).2.1 (fun h => hnI q hq (List.mem_singleton.mp h)) (N q hq).1, (N q hq).2⟩
  · intro q hq e
    have := (N q hq).1
    rw [e, hD] at this; cases this
theorem ext_list {vs vs' : List Value} (hlen : vs'.length = vs.length) (h : ∀ (j : Nat) (v : Value), vs'[j]? = some v → vs[j]? = some v) : vs' = vs := by
  apply List.ext_getElem?
  intro i
  cases hi : vs'[i]? with
  | some v => exact (h i v hi).symm
  | none =>
    have := List.getElem?_eq_none_iff.mp hi
    exact (List.getElem?_eq_none (by omega)).symm
theorem compA_list {l : Addr} {vs : List Value} {n : Nat} (hh : A.handled = none) (hl : (l, listOf vs.toArray n) ∈ news) (F : Fr h₀ env.locals s.heap m) (N : News h₀ env.locals s.heap news) (hz : vs.length ≤ sizeLine) (q : CompQ prog w A env h₀ news scope cl x ifs elt (fun i v => vs[i]? = some v) p G)
    (hQ : ∀ D h' tk ys k, Fr h₀ env.locals h' (putm y (.ref D) m) → News h₀ env.locals h' ((D, listOf ys k) :: news) → (∀ q ∈ news, q.1 ≠ D) → Paired G (vs.filter p) ys.toList → Q .next { s with heap := h', toks := tk }) :
    wpAny (model prog w) A (pyIter (.ref l)) (CompA prog w A env scope cl x y ifs elt p G Q) E s := by
  have hls : s.heap.IsList l vs.toArray := ⟨_, (N _ hl).1, rfl, ⟨_, rfl⟩⟩
  have hlt := news_lt N _ hl
  refine wpAny_pyIter_list hls ?_
  have W := Walks.list (prog := prog) (w := w) hh s.heap.objs.size l (Nat.ne_of_lt hlt) vs.toArray
  rw [List.size_toArray] at W
  have hP : (fun (i : Nat) (v : Value) => vs.toArray[i]? = some v) = fun i v => vs[i]? = some v := by funext i v; simp
  rw [hP] at W
  refine compA_of W hz ⟨⟨_, Heap.get?_push_size _ rfl, rfl, rfl⟩, hls.at fun o e => Heap.get?_push_of_some _ e⟩ ?_ (F.push _) (fun p hp => ⟨Heap.get?_push_of_some _ (N p hp).1, (N p hp).2⟩) (fresh_of F) (fun e => absurd F.ns.lt (e ▸ Nat.lt_irrefl _)) (fun p hp => Nat.ne_of_lt (news_lt N p hp)) q (kts_self F) ?_
  · intro b hb
    rw [Heap.size_push]
    rcases List.mem_cons.mp hb with rfl | hb
    · exact Nat.lt_succ_self _
    · rw [List.mem_singleton.mp hb]; exact Nat.lt_succ_of_lt hlt
  · intro D h' tk ys k vs' F' N' hD hlen hP' hG
    have e : vs' = vs := ext_list hlen hP'
    subst e
    exact hQ D h' tk ys k F' N' hD hG
theorem compA_range {r : Addr} {a b c : Int} {t u v : Tok} {n : Nat} (hh : A.handled = none) (hr : IsRange s.heap r a b c t u v) (hsm : Builtin.Range.small a b c = true) (hn : Builtin.Range.rangeSize a b c = (n : Int)) (F : Fr h₀ env.locals s.heap m) (N : News h₀ env.locals s.heap news) (hz : n ≤ sizeLine) (q : CompQ prog w A env h₀ news scope cl x ifs elt (fun i v => i < n ∧ ∃ t, v = .int (a + i * c) t) p G)
    (hQ : ∀ D h' tk ys k (vs : List Value), Fr h₀ env.locals h' (putm y (.ref D) m) → News h₀ env.locals h' ((D, listOf ys k) :: news) → (∀ q ∈ news, q.1 ≠ D) → vs.length = n → (∀ (j : Nat) (v : Value), vs[j]? = some v → ∃ t, v = Value.int (a + j * c) t) → Paired G (vs.filter p) ys.toList → Q .next { s with heap := h', toks := tk }) :
    wpAny (model prog w) A (pyIter (.ref r)) (CompA prog w A env scope cl x y ifs elt p G Q) E s := by
  refine wpAny_pyIter_range hr hsm ?_
  have W0 := Walks.range (prog := prog) (w := w) hh s.heap.objs.size a c n
  have W : Walks prog w A s.heap.objs.size [s.heap.objs.size] [s.heap.objs.size] n (fun i v => i < n ∧ ∃ t, v = .int (a + i * c) t) (fun i h => IsRangeIter h s.heap.objs.size (a + (i : Nat) * c) ((n : Int) - (i : Nat)) c) :=
    ⟨W0.sub, W0.frame, fun i s Q E hi st hQ => W0.item i s Q E hi st fun v h' tk hP => hQ v h' tk ⟨hi, hP⟩, W0.done, W0.self⟩
  refine compA_of W hz ?_ ?_ (F.push _) (fun p hp => ⟨Heap.get?_push_of_some _ (N p hp).1, (N p hp).2⟩) (fresh_of F) (fun e => absurd F.ns.lt (e ▸ Nat.lt_irrefl _)) (fun p hp => Nat.ne_of_lt (news_lt N p hp)) q (kts_self F) ?_
  · have e := Heap.get?_push_size s.heap (o := { cls := .type "range_iterator", data := .fields #[rawInt a, rawInt (Builtin.Range.rangeSize a b c), rawInt c] }) rfl
    show (s.heap.push _).get? _ = _
    rw [e, hn]
    simp [rawInt]
  · intro b hb
    rw [Heap.size_push, List.mem_singleton.mp hb]
    exact Nat.lt_succ_self _
  · intro D h' tk ys k vs' F' N' hD hlen hP' hG
    exact hQ D h' tk ys k vs' F' N' hD hlen (fun j v hj => (hP' j v hj).2) hG
end
theorem shaped_tup (ns : List Int) : PySem.SeqAt.shaped (.tuple (ns.map PyData.int)) = true := by
  have h1 := W.depthAll_ints ns
  have h2 : PyData.depth (.tuple (ns.map PyData.int)) ≤ 64 := by simp only [PyData.depth]; omega
  show (PyData.canLay0 (.tuple (ns.map PyData.int)) && decide (PyData.depth (.tuple (ns.map PyData.int)) ≤ 64)) = true
  rw [Bool.and_eq_true]
  exact ⟨by simp only [PyData.canLay0]; exact W.canLayAll0_ints ns, decide_eq_true h2⟩
abbrev tupOf (vs : List Value) : Obj := { cls := .type "tuple", data := .seq vs.toArray }
theorem ne_tup_ints {prog : Program} {w : World} {A : Around} {E : Value → Shared → Prop} {s : Shared} {a b : Addr} {vs us : List Value} {ns ms : List Int} {Q : Value → Shared → Prop} (ha : s.heap.get? a = some (tupOf vs)) (hb : s.heap.get? b = some (tupOf us)) (hi : IntsAre vs ns) (hj : IntsAre us ms) (hu : A.units + 64 < cLine)
    (h : Q (.bool (!decide (ns = ms))) s) : wpAny (model prog w) A (compareOp .NotEq (.ref a) (.ref b)) Q E s :=
  ne_dataH_same (reads_tuple_at ha rfl rfl (W.readsAll_of_ints hi)) (reads_tuple_at hb rfl rfl (W.readsAll_of_ints hj)) (shaped_tup ns) (shaped_tup ms) hu (by simp only [PySem.SeqAt.noMix]; exact W.noMix_ints ns ms) (by simp only [PySem.Spec.same]; rw [W.same_ints]; exact h)
theorem sorted_tuple {prog : Program} {w : World} {A : Around} {E : Value → Shared → Prop} {s : Shared} {h₀ : Heap} {L : Addr} {m : Str → Option Value} {news : List (Addr × Obj)} {l : Addr} {vs : List Value} {ns : List Int} {Q : Value → Shared → Prop}
    (F : Fr h₀ L s.heap m) (N : News h₀ L s.heap news) (ho : s.heap.get? l = some (tupOf vs)) (hI : IntsAre vs ns) (h64 : vs.length < 64)
    (h : ∀ D h' vs' ns' e, Fr h₀ L h' m → News h₀ L h' ((D, listOf (List.toArray vs') e) :: news) → (∀ q ∈ news, q.1 < D) → IntsAre vs' ns' → ns'.Perm ns → ns'.Pairwise (· ≤ ·) → Q (.ref D) { s with heap := h' }) :
    wpAny (model prog w) A (call (.builtin "sorted") [.ref l]) Q E s := by
  refine Calls.call_function_entry kind_sorted plain_sorted entry_sorted (args_sorted1 _) ?_
  unfold Builtin.«sorted»
  refine wpAny_bind (m := checkCount "sorted" 1 1 _) (wpAny_pure ?_)
  refine wpAny_bind (wpAny_collect_seq l (.inr rfl) ho rfl rfl (fun h1 hk1 => ?_) (by rw [List.size_toArray, sizeLine_eq]; omega))
  have hlen : vs.toArray.toList.length ≤ sizeLine := by rw [List.toList_toArray, sizeLine_eq]; omega
  refine wpAny_bind (wpAny_newList ?_ hlen)
  have hoL : (h1.push (seqObj "list" vs.toArray 0)).get? h1.objs.size = some (seqObj "list" vs.toArray 0) := Heap.get?_push_size _ rfl
  refine wpAny_bind (wpAny_holding (wpAny_call_entry slot_list_sort ⟨_, hoL, rfl⟩ entry_list_sort (list_sort_tree hoL hI h64 fun out ns' a1 a2 a3 => ⟨_, rfl, ?_⟩) (args_list_sort _)))
  refine wpAny_pure ⟨_, rfl, ?_⟩
  have hk : ∀ b o, s.heap.get? b = some o → (sortedHeap (h1.push (seqObj "list" vs.toArray 0)) h1.objs.size vs out).get? b = some o := fun b o e => by
    have hlt := Heap.lt_size (hk1 b o e)
    rw [sortedHeap_old (Nat.ne_of_lt hlt) (by rw [Heap.size_push]; exact Nat.lt_succ_of_lt hlt), Heap.get?_push_ne _ _ _ (Nat.ne_of_lt hlt)]
    exact hk1 b o e
  obtain ⟨e, he⟩ := sortedHeap_at (out := out) hoL
  refine h h1.objs.size _ out.toList ns' e (F.kept hk) (fun q hq => ?_) (fun q hq => Heap.lt_size (hk1 _ _ (N q hq).1)) a1 a2 a3
  rcases List.mem_cons.mp hq with rfl | hq
  · refine ⟨he, fun e' => ?_, ?_⟩
    · obtain ⟨oL, _, _, hL, _⟩ := F.ns
      have e2 : h1.objs.size = L := e'
      exact absurd (Heap.lt_size (hk1 _ _ hL)) (by rw [e2]; exact Nat.lt_irrefl _)
    · cases q : h₀.get? h1.objs.size with
      | none => rfl
      | some o => exact absurd (Heap.lt_size (hk1 _ _ (F.keep _ _ q))) (Nat.lt_irrefl _)
  · exact ⟨hk _ _ (N q hq).1, (N q hq).2⟩
/-! part B9 -/
set_option maxHeartbeats 1000000
set_option maxHeartbeats 8000000
/-- parts of the program's text, by their place -/
def nthS : List Stmt → Nat → Stmt
  | [], _ => .Pass ⟨0, 0, 0, 0⟩
  | x :: _, 0 => x
  | _ :: r, n + 1 => nthS r n
def bodyS : Stmt → List Stmt
  | .FunctionDef _ _ b _ _ _ _ _ _ _ => b
  | .For _ _ b _ _ => b
  | .If _ b _ _ => b
  | _ => []
def elseS : Stmt → List Stmt
  | .For _ _ _ b _ => b
  | .If _ _ b _ => b
  | _ => []
def scopeS : Stmt → Scope
  | .FunctionDef _ _ _ _ _ _ s _ _ _ => s
  | _ => { kind := .function, names := [], isGenerator := false, isCoroutine := false }
def begunF : Stmt := nthS Challenge.pw_dm0134_02.main.body 8
def lawF : Stmt := nthS Challenge.pw_dm0134_02.main.body 9
/-- statement i of _law_begun; of its long loop -/
def bS (i : Nat) : Stmt := nthS (bodyS begunF) i
def bT (i : Nat) : Stmt := nthS (bodyS (bS 7)) i
def lS (i : Nat) : Stmt := nthS (bodyS lawF) i
def lT (i : Nat) : Stmt := nthS (bodyS (lS 6)) i
abbrev bEnv (Lf : Addr) : Env := envOfC (Str.ofString "_law_begun") (scopeS begunF) Lf 146 (.ref 145)

/-- the ledger of _law_begun's long loop -/
abbrev BLg (Lf : Addr) (o1 o2 o3 o4 : Obj) (bA yA wA : Addr) (bs ys ws : List (Int × Tok)) (e1 e2 e3 : Nat) (TT : List (Addr × Obj)) : List (Addr × Obj) :=
  (Lf + 1, o1) :: (Lf + 2, o2) :: (Lf + 3, o3) :: (Lf + 4, o4) :: (bA, listOf (vals bs).toArray e1) :: (yA, listOf (vals ys).toArray e2) :: (wA, listOf (vals ws).toArray e3) :: TT
theorem ints_list {vs : List Value} {ns : List Int} (h : IntsAre vs ns) : ∃ l : List (Int × Tok), vs = vals l ∧ l.map (·.1) = ns := by
  induction h with
  | nil => exact ⟨[], rfl, rfl⟩
  | cons i t _ ih =>
    obtain ⟨l, e1, e2⟩ := ih
    exact ⟨(i, t) :: l, by rw [e1]; rfl, by rw [← e2]; rfl⟩
theorem vals_set (l : List (Int × Tok)) (k : Nat) (v : Int) (t : Tok) : (vals l).set k (.int v t) = vals (l.set k (v, t)) := by
  unfold vals; rw [List.map_set]
theorem vals_push (l : List (Int × Tok)) (v : Int) (t : Tok) : (vals l).toArray.push (.int v t) = (vals (l ++ [(v, t)])).toArray := by simp
theorem vals_len (l : List (Int × Tok)) : (vals l).length = l.length := List.length_map _
theorem vals_take (l : List (Int × Tok)) (k : Nat) : (vals l).take k = vals (l.take k) := by unfold vals; rw [List.map_take]
theorem vals_drop (l : List (Int × Tok)) (k : Nat) : (vals l).drop k = vals (l.drop k) := by unfold vals; rw [List.map_drop]
theorem BLg_nd {Lf : Addr} {o1 o2 o3 o4 o1' o2' o3' o4' : Obj} {bA yA wA : Addr} {bs ys ws bs' ys' ws' : List (Int × Tok)} {e1 e2 e3 e1' e2' e3' : Nat} {TT : List (Addr × Obj)} (h : ND (BLg Lf o1 o2 o3 o4 bA yA wA bs ys ws e1 e2 e3 TT)) : ND (BLg Lf o1' o2' o3' o4' bA yA wA bs' ys' ws' e1' e2' e3' TT) := h.same rfl

theorem upd_nd {a : Addr} {o o' : Obj} {pre post : List (Addr × Obj)} (h : ND (pre ++ (a, o) :: post)) : Upd a o o' (pre ++ (a, o) :: post) (pre ++ (a, o') :: post) :=
  Upd.right (fun p hp => h.apart p hp _ (.head _)) (.head h.right.head)
theorem updF_nd {a : Addr} {o : Obj} {pre post : List (Addr × Obj)} (h : ND (pre ++ (a, o) :: post)) : UpdF a o (pre ++ (a, o) :: post) (fun o' => pre ++ (a, o') :: post) :=
  updF_mid (fun p hp => h.apart p hp _ (.head _)) h.right.head
theorem pick_upto {l : List (Int × Tok)} {k : Int} (h : 0 ≤ k) : kms_pick (vals l) none (some k) = vals (l.take k.toNat) := by
  unfold kms_pick kms_lo kms_hi
  simp only [if_neg (show ¬ k < 0 by omega), List.drop_zero, Nat.sub_zero, kmk_take_min, vals_take]
theorem pick_from {l : List (Int × Tok)} {k : Int} (h : 0 ≤ k) : kms_pick (vals l) (some k) none = vals (l.drop k.toNat) := by
  unfold kms_pick kms_lo kms_hi
  simp only [if_neg (show ¬ k < 0 by omega)]
  rw [← vals_drop]
  by_cases e : k.toNat ≤ (vals l).length
  · rw [Nat.min_eq_left e, List.take_of_length_le (by rw [List.length_drop]; omega)]
  · rw [Nat.min_eq_right (by omega), Nat.sub_self, List.take_zero, List.drop_of_length_le (by omega)]
theorem pick_init {l : List (Int × Tok)} : kms_pick (vals l) none (some (-1)) = vals l.dropLast := by
  unfold kms_pick kms_lo kms_hi
  simp only [if_pos (show (-1 : Int) < 0 by decide), List.drop_zero, Nat.sub_zero]
  rw [vals_take, vals_len, List.dropLast_eq_take]
  rfl
theorem pick_last {l : List (Int × Tok)} : kms_pick (vals l) (some (-1)) none = vals (l.drop (l.length - 1)) := by
  unfold kms_pick kms_lo kms_hi
  simp only [if_pos (show (-1 : Int) < 0 by decide)]
  rw [vals_drop, vals_len]
  exact List.take_of_length_le (by rw [vals_len, List.length_drop]; show l.length - (l.length - 1) ≤ l.length - (l.length - 1); exact Nat.le_refl _)
theorem getD_map {l : List (Int × Tok)} {i : Nat} {p : Int × Tok} (h : l[i]? = some p) : (l.map (·.1)).getD i 0 = p.1 := by
  rw [List.getD_eq_getElem?_getD, List.getElem?_map, h]; rfl
section
variable {A : Around} {g : Heap} {Lf : Addr} {m : Str → Option Value} {s : Shared} {Q : Value → Shared → Prop} {o4 : Obj} {pos : Pos}
theorem b_clock {M : Model} {E : Value → Shared → Prop} {nx : List (Addr × Obj)} {v : Value} (N : News g Lf s.heap nx) (hm : (Lf + 4, o4) ∈ nx) (d4 : o4.data = .cell (some v)) (h : Q v s) : wpAny M A (eval (.Name (Str.ofString "clock") pos) (bEnv Lf)) Q E s :=
  nameX_C N (by rfl) hm d4 h
theorem b_begun {M : Model} {E : Value → Shared → Prop} {nx : List (Addr × Obj)} {v : Value} (N : News g Lf s.heap nx) (hm : (Lf + 3, o4) ∈ nx) (d4 : o4.data = .cell (some v)) (h : Q v s) : wpAny M A (eval (.Name (Str.ofString "begun") pos) (bEnv Lf)) Q E s :=
  nameX_C N (by rfl) hm d4 h
theorem b_hours {M : Model} {E : Value → Shared → Prop} {nx : List (Addr × Obj)} {v : Value} (N : News g Lf s.heap nx) (hm : (Lf + 2, o4) ∈ nx) (d4 : o4.data = .cell (some v)) (h : Q v s) : wpAny M A (eval (.Name (Str.ofString "hours") pos) (bEnv Lf)) Q E s :=
  nameX_C N (by rfl) hm d4 h
theorem b_needs {M : Model} {E : Value → Shared → Prop} {nx : List (Addr × Obj)} {v : Value} (N : News g Lf s.heap nx) (hm : (Lf + 1, o4) ∈ nx) (d4 : o4.data = .cell (some v)) (h : Q v s) : wpAny M A (eval (.Name (Str.ofString "needs") pos) (bEnv Lf)) Q E s :=
  nameX_C N (by rfl) hm d4 h
theorem b_local {M : Model} {E : Value → Shared → Prop} {x : Str} {v : Value} (F : Fr g Lf s.heap m) (hv : m x = some v) (h : Q v s) (hx : (bEnv Lf).kindOf x = some .local := by rfl) (hd : (x == ("__debug__" : Str)) = false := by decide) : wpAny M A (eval (.Name x pos) (bEnv Lf)) Q E s :=
  nameX_L F hv h rfl hx hd
end
theorem off_same {a : Addr} {l l' : List (Addr × Obj)} (h : ∀ p ∈ l, p.1 ≠ a) (e : l'.map (·.1) = l.map (·.1)) : ∀ p ∈ l', p.1 ≠ a := fun p hp => by
  have : p.1 ∈ l.map (·.1) := e ▸ List.mem_map_of_mem hp
  obtain ⟨q, hq, e'⟩ := List.mem_map.mp this
  rw [← e']; exact h q hq
/-- where a call of _law_begun stands -/
structure Bx (w : World) (p : Program) (loose : List Str) (mean : ExcName → Option Value) (mg mb : Str → Option Value) (A₀ : Around) (base : Heap) (outer : List Env) (A : Around) (g : Heap) (Lf : Addr) : Prop where
  G : Gr0 (hd.heap_39 w.params) p loose mean mg mb A₀ base outer g
  fr : A.frames = some (bEnv Lf :: outer)
  hh : A.handled = none
  gu : A.guards = some []
  dep : A.depth + 30 < 900
  un : A.units + 300 < 9000
theorem Bx.cx {w : World} {p : Program} {loose : List Str} {mean : ExcName → Option Value} {mg mb : Str → Option Value} {A₀ : Around} {base : Heap} {outer : List Env} {A : Around} {g : Heap} {Lf : Addr} (b : Bx w p loose mean mg mb A₀ base outer A g Lf) {n : Nat} (h1 : 5 * n ≤ 30) (h2 : 50 * n ≤ 300) : Cx n w A g Lf :=
  ⟨A₀, base, outer, bEnv Lf, p, loose, mean, mg, mb, b.G.B, b.G.X, b.G.T, b.fr, rfl, rfl, b.hh, b.gu, by have := b.dep; omega, by have := b.un; omega⟩
abbrev gI (l : List Int) (k : Int) : Int := l.getD k.toNat 0
theorem paired_ints {f : Int → Int} : ∀ {l : List (Int × Tok)} {zs : List Value}, Paired (fun v y => ∃ k t t', v = Value.int k t ∧ y = Value.int (f k) t') (vals l) zs → ∃ l' : List (Int × Tok), zs = vals l' ∧ l'.map (·.1) = l.map fun p => f p.1
  | [], _, h => by cases h; exact ⟨[], rfl, rfl⟩
  | p :: l, _, h => by
    unfold vals at h
    rw [List.map_cons] at h
    cases h with
    | cons h1 h2 =>
      obtain ⟨k, t, t', e, rfl⟩ := h1
      cases e
      obtain ⟨l', e1, e2⟩ := paired_ints h2
      exact ⟨(f p.1, t') :: l', by rw [e1]; rfl, by rw [List.map_cons, e2]; rfl⟩
theorem paired_eq : ∀ {l zs : List Value}, Paired (fun v y => y = v) l zs → zs = l
  | [], _, h => by cases h; rfl
  | v :: l, _, h => by
    cases h with
    | cons h1 h2 => rw [h1, paired_eq h2]
/-- a test on the int of a value -/
def tI (q : Int → Bool) : Value → Bool
  | .int k _ => q k
  | _ => false
theorem filter_vals (q : Int → Bool) (l : List (Int × Tok)) : (vals l).filter (tI q) = vals (l.filter fun p => q p.1) := by
  unfold vals
  rw [List.filter_map]; rfl
theorem filter_all (l : List Value) : l.filter (fun _ => true) = l := List.filter_eq_self.mpr fun _ _ => rfl
theorem bne_dec (a b : Int) : (a != b) = decide (a ≠ b) := by
  by_cases h : a = b
  · subst h; simp
  · simp [h]
theorem Bx.room {w : World} {p : Program} {loose : List Str} {mean : ExcName → Option Value} {mg mb : Str → Option Value} {A₀ : Around} {base : Heap} {outer : List Env} {A : Around} {g : Heap} {Lf : Addr} (b : Bx w p loose mean mg mb A₀ base outer A g Lf) : A.units + 64 < cLine := by
  have := b.un
  have e : cLine = 9900 := rfl
  omega
/-! part L14 -/
set_option maxHeartbeats 1000000
set_option maxHeartbeats 4000000
/-- an index of a short list -/
structure Ix (k : Int) (n : Nat) : Prop where
  lo : 0 ≤ k
  hi : k < (n : Int)
  sm : n ≤ 1000
theorem Ix.of {i n : Nat} (h : i < n) (hn : n ≤ 1000) : Ix (i : Int) n := ⟨Int.natCast_nonneg _, Int.ofNat_lt.mpr h, hn⟩
theorem Ix.of2 {k : Int} {i n : Nat} (h : 0 ≤ k ∧ k < (i : Int)) (hi : i ≤ n) (hn : n ≤ 1000) : Ix k n := ⟨h.1, Int.lt_of_lt_of_le h.2 (Int.ofNat_le.mpr hi), hn⟩
theorem Ix.fit {k : Int} {n : Nat} (x : Ix k n) : k < 2 ^ 63 := by have := x.hi; have := x.sm; omega
theorem Ix.len {k : Int} {n : Nat} {l : List (Int × Tok)} (x : Ix k n) (h : l.length = n) : k < ((l.map (·.1)).length : Nat) := by rw [List.length_map, h]; exact x.hi
theorem n_line {n k : Nat} (h : n ≤ k) (hk : k ≤ 16777216 := by decide) : n ≤ sizeLine := by rw [sizeLine_eq]; exact Nat.le_trans h hk
theorem v_line {l : List (Int × Tok)} {k : Nat} (h : l.length ≤ k) (hk : k ≤ 16777216 := by decide) : (vals l).length ≤ sizeLine := by rw [vals_len]; exact n_line h hk
theorem a_line {l : List (Int × Tok)} {k : Nat} (h : l.length ≤ k) (hk : k ≤ 16777216 := by decide) : (vals l).toArray.size ≤ sizeLine := by rw [List.size_toArray]; exact v_line h hk
section
variable {prog : Program} {w : World} {A : Around} {E : Value → Shared → Prop} {s : Shared} {h₀ : Heap} {L D : Addr} {m : Str → Option Value} {news news' : List (Addr × Obj)} {l : List (Int × Tok)} {n e : Nat} {k x : Int} {t u : Tok} {value slice : PySem.Expr}
theorem item_V {Q : Value → Shared → Prop} (hl : s.heap.IsList D (vals l).toArray) (hn : l.length = n) (i : Ix k n) (h : ∀ t, Q (.int (gI (l.map (·.1)) k) t) s)
    (hs : subscripted slice false (.ref D) (.int k u) = operate [.ref D, .int k u] (getItem (.ref D) (.int k u)) := by with_unfolding_all rfl) : wpAny (model prog w) A (subscriptTail value slice (.ref D) (.int k u)) Q E s :=
  item_anyK hl (ints_vals l) i.lo (i.len hn) i.fit h hs
theorem sub_V {Q : Value → Shared → Prop} (N : News h₀ L s.heap news) (hm : (D, listOf (vals l).toArray e) ∈ news) (hn : l.length = n) (i : Ix k n) (h : ∀ t, Q (.int (gI (l.map (·.1)) k) t) s)
    (hs : subscripted slice false (.ref D) (.int k u) = operate [.ref D, .int k u] (getItem (.ref D) (.int k u)) := by with_unfolding_all rfl) : wpAny (model prog w) A (subscriptTail value slice (.ref D) (.int k u)) Q E s :=
  ksa_sub N hm (ints_vals l) i.lo (i.len hn) i.fit h hs
theorem get_V {Q : Value → Shared → Prop} (N : News h₀ L s.heap news) (hm : (D, listOf (vals l).toArray e) ∈ news) (hn : l.length = n) (i : Ix k n) (h : ∀ t, Q (.int (gI (l.map (·.1)) k) t) s) : wpAny (model prog w) A (getItem (.ref D) (.int k u)) Q E s :=
  ksa_get N hm (ints_vals l) i.lo (i.len hn) i.fit h
theorem set_V {Q : Unit → Shared → Prop} (F : Fr h₀ L s.heap m) (N : News h₀ L s.heap news) (hn : l.length = n) (i : Ix k n) (U : Upd D (listOf (vals l).toArray e) (listOf (vals (l.set k.toNat (x, u))).toArray e) news news')
    (h : ∀ h', Fr h₀ L h' m → News h₀ L h' news' → Q () { s with heap := h' }) : wpAny (model prog w) A (setItem (.ref D) (.int k t) (.int x u)) Q E s :=
  ksa_set F N (vals_set l k.toNat x u ▸ U) (ints_vals l) i.lo (i.len hn) i.fit fun h' F' N' _ _ _ => h h' F' N'
theorem len_V {Q : Value → Shared → Prop} (N : News h₀ L s.heap news) (hm : (D, listOf (vals l).toArray e) ∈ news) (hn : l.length = n) (hz : n ≤ 1000) (h : Q (.int n (s.toks + 1)) { s with toks := s.toks + 1 + 1 }) : wpAny (model prog w) A (call (.builtin "len") [.ref D]) Q E s :=
  len_list (News.isList N hm) (by rw [List.size_toArray, vals_len, hn]; omega) (by rw [List.size_toArray, vals_len, hn]; exact h)
variable {env : Env} {elt : PySem.Expr} {y z : Str} {ifs : List PySem.Expr} {scope : Scope} {cl : List (Str × Addr)} {p : Value → Bool} {G : Value → Value → Prop} {r : Addr} {v : Tok}
theorem rng_at (n : Nat) : (fun (i : Nat) (v : Value) => i < n ∧ ∃ t, v = Value.int (0 + (i : Int) * 1) t) = fun i v => i < n ∧ ∃ t, v = Value.int (i : Int) t := by
  funext i v; rw [show (0 : Int) + (i : Int) * 1 = (i : Int) by omega]
theorem rng_vs {vs : List Value} (h : ∀ (j : Nat) (v : Value), vs[j]? = some v → ∃ t, v = Value.int (0 + (j : Int) * 1) t) (j : Nat) (v : Value) (e : vs[j]? = some v) : ∃ t, v = Value.int (j : Int) t := by
  have := h j v e
  rwa [show (0 : Int) + (j : Int) * 1 = (j : Int) by omega] at this
/-- a comprehension over 0, 1, .. n - 1 -/
theorem comp_jobs {Q : Value → Shared → Prop} (hh : A.handled = none) (hr : IsRange s.heap r 0 (n : Int) 1 t u v) (hn : n ≤ 1000) (F : Fr h₀ L s.heap m) (N : News h₀ L s.heap news) (q : CompQ prog w A env h₀ news scope cl y ifs elt (fun i v => i < n ∧ ∃ t, v = .int (i : Int) t) p G)
    (hQ : ∀ D h' tk ys k (vs : List Value), Fr h₀ L h' m → News h₀ L h' ((D, listOf ys k) :: news) → (∀ q ∈ news, q.1 ≠ D) → vs.length = n → (∀ (j : Nat) (v : Value), vs[j]? = some v → ∃ t, v = Value.int (j : Int) t) → Paired G (vs.filter p) ys.toList → Q (.ref D) { s with heap := h', toks := tk }) :
    wpAny (model prog w) A (pyIter (.ref r)) (CompX prog w A env scope cl y ifs elt p G Q) E s :=
  comp_range hh hr (small_n (a := 0) (Nat.zero_le _) hn) (rsize_n n) F N (n_line hn) (rng_at n ▸ q) fun D h' tk ys k vs F' N' o l a b => hQ D h' tk ys k vs F' N' o l (rng_vs a) b
theorem compA_jobs {Q : Flow → Shared → Prop} (hh : A.handled = none) (hr : IsRange s.heap r 0 (n : Int) 1 t u v) (hn : n ≤ 1000) (F : Fr h₀ env.locals s.heap m) (N : News h₀ env.locals s.heap news) (q : CompQ prog w A env h₀ news scope cl y ifs elt (fun i v => i < n ∧ ∃ t, v = .int (i : Int) t) p G)
    (hQ : ∀ D h' tk ys k (vs : List Value), Fr h₀ env.locals h' (putm z (.ref D) m) → News h₀ env.locals h' ((D, listOf ys k) :: news) → (∀ q ∈ news, q.1 ≠ D) → vs.length = n → (∀ (j : Nat) (v : Value), vs[j]? = some v → ∃ t, v = Value.int (j : Int) t) → Paired G (vs.filter p) ys.toList → Q .next { s with heap := h', toks := tk }) :
    wpAny (model prog w) A (pyIter (.ref r)) (CompA prog w A env scope cl y z ifs elt p G Q) E s :=
  compA_range hh hr (small_n (a := 0) (Nat.zero_le _) hn) (rsize_n n) F N (n_line hn) (rng_at n ▸ q) fun D h' tk ys k vs F' N' o l a b => hQ D h' tk ys k vs F' N' o l (rng_vs a) b
end
local macro_rules | `(tactic| k_lt $h) => `(tactic| skip)
local macro_rules | `(tactic| k_lt2 $h) => `(tactic| skip)
/-! part C1 -/
set_option maxHeartbeats 1000000
set_option maxHeartbeats 1000000
section
variable {w : World} {A : Around} {g : Heap} {Lf : Addr} {m : Str → Option Value} {s : Shared} {Q : Flow → Shared → Prop} {o1 o2 o3 o4 : Obj} {bA yA wA : Addr} {bs ys ws : List (Int × Tok)} {e1 e2 e3 : Nat} {TT : List (Addr × Obj)} {ck fr : Int} {tck tfr : Tok}
  {A₀ : Around} {base : Heap} {outer : List Env} {p : Program} {loose : List Str} {mean : ExcName → Option Value} {mg mb : Str → Option Value}
theorem bT5 (hh : A.handled = none) (G : Gr0 (hd.heap_39 w.params) p loose mean mg mb A₀ base outer g) (F : Fr g Lf s.heap m) (N : News g Lf s.heap (BLg Lf o1 o2 o3 o4 bA yA wA bs ys ws e1 e2 e3 TT)) (nd : ND (BLg Lf o1 o2 o3 o4 bA yA wA bs ys ws e1 e2 e3 TT))
    (d3 : o3.data = .cell (some (.ref bA))) (d4 : o4.data = .cell (some (.int ck tck))) (hw : m (Str.ofString "waiting") = some (.ref wA)) (hb : m (Str.ofString "busy") = some (.ref yA)) (hfr : m (Str.ofString "free") = some (.int fr tfr)) (hf0 : 0 ≤ fr)
    (hin : ∀ p ∈ ws, 0 ≤ p.1 ∧ p.1 < bs.length) (z1 : bs.length ≤ 100) (z2 : ys.length ≤ 100) (z3 : ws.length ≤ 100)
    (h : ∀ h' tk m' bs' ys' e2', Same ["job"] m' m → Fr g Lf h' m' → News g Lf h' (BLg Lf o1 o2 o3 o4 bA yA wA bs' ys' ws e1 e2' e3 TT) → bs'.map (·.1) = (ws.take fr.toNat).foldl (fun l p => l.set p.1.toNat ck) (bs.map (·.1)) →
      ys'.map (·.1) = ys.map (·.1) ++ (ws.take fr.toNat).map (·.1) → Q .next { s with heap := h', toks := tk }) :
    wpAny (model PR w) A (exec (bT 5) (bEnv Lf)) Q (fun _ _ => False) s := by
  show wpAny _ _ (exec (.For _ _ _ _ _) _) _ _ _
  have X := G.X
  have B := G.B
  have T := G.T
  have em := fix3 hw hb hfr
  rw [em] at F
  refine for_rule ?_
  refine abs_post fun Q1 hQ1 => ?_
  (repeat' ((fail_if_success (with_reducible first | (refine at1 ?_ ?_; constructor) | (refine at3 ?_ ?_; constructor) | show @ite Prop _ _ _ _ | (refine at4 ?_ ?_; constructor) )); (first | ((with_reducible first | refine' b_clock ?N ?m ?d ?_ | refine' b_begun ?N ?m ?d ?_ | refine' b_hours ?N ?m ?d ?_ | refine' b_needs ?N ?m ?d ?_ ); (case N => assumption); (case m => first | assumption | (repeat (first | exact List.Mem.head _ | refine List.Mem.tail _ ?_))); (case d => assumption)) | ((with_reducible show wpAny _ _ (eval (Expr.Name _ _) (bEnv _)) _ _ _); refine' b_local ?F ?v ?_; (case F => assumption); (case v => (repeat (first | exact if_pos rfl | refine Eq.trans (if_neg (by decide)) ?_))))  | (k_unfold; (try dsimp only)) | (k_end; wrow_close) | walk1 | (dsimp only; walk1) | (leave1; walk_say "STEP leave1"; try dsimp only) | fail "no step")))
  refine kms_slice_lit (its := (vals ws).toArray) (zs := vals (ws.take fr.toNat)) F N (News.isList N (.tail _ (.tail _ (.tail _ (.tail _ (.tail _ (.tail _ (.head _)))))))) (.none) (.int _ _) (pick_upto hf0) ?_ (by with_unfolding_all rfl) (by intro _; with_unfolding_all rfl) (by rw [List.size_toArray, vals_len, sizeLine_eq]; omega)
  intro D h1 F1 N1 lD
  have nd1 := ND.cons (p := (D, listOf (vals (ws.take fr.toNat)).toArray 0)) nd fun p hp => Nat.ne_of_lt (lD p hp)
  refine hQ1 _ _ ?_
  refine iter_list (vs := vals (ws.take fr.toNat)) (n := 0) ["job"] (fun i m' nx => ∃ bs' ys' e2', nx = (D, listOf (vals (ws.take fr.toNat)).toArray 0) :: BLg Lf o1 o2 o3 o4 bA yA wA bs' ys' ws e1 e2' e3 TT ∧ 
    bs'.map (·.1) = ((ws.take fr.toNat).take i).foldl (fun l p => l.set p.1.toNat ck) (bs.map (·.1)) ∧ ys'.map (·.1) = ys.map (·.1) ++ ((ws.take fr.toNat).take i).map (·.1) ∧ bs'.length = bs.length ∧ ys'.length ≤ 100 + i) hh (.head _) ?_ (fun _ _ => rfl) F1 N1 ⟨bs, ys, e2, rfl, rfl, by simp, rfl, by omega⟩ ?_ ?_
  · rintro i m' nx ⟨bs', ys', e2', rfl, _⟩
    exact .head _
  · rintro i v mu nx h2 tk2 I io Qt hQt hv ⟨bs', ys', e2', rfl, hb', hy', hl', hyl⟩ hnI hltI F2 N2
    clear F N F1 N1 em
    obtain ⟨p, hp, rfl⟩ := vals_get hv
    have nd2 : ND ((I, io) :: (D, listOf (vals (ws.take fr.toNat)).toArray 0) :: BLg Lf o1 o2 o3 o4 bA yA wA bs' ys' ws e1 e2' e3 TT) := ND.cons (nd1.same rfl) hnI
    have hpw : p ∈ ws := List.mem_of_mem_take (List.mem_of_getElem? hp)
    have hpi := hin p hpw
    have hi : i < ws.length := Nat.lt_of_lt_of_le (List.getElem?_eq_some_iff.mp hp).1 (List.length_take_le' _ _)
    (repeat' ((fail_if_success (with_reducible first | (refine at1 ?_ ?_; constructor) | (refine at3 ?_ ?_; constructor) | show @ite Prop _ _ _ _ | (refine at4 ?_ ?_; constructor) )); (first | ((with_reducible first | refine' b_clock ?N ?m ?d ?_ | refine' b_begun ?N ?m ?d ?_ | refine' b_hours ?N ?m ?d ?_ | refine' b_needs ?N ?m ?d ?_ ); (case N => assumption); (case m => first | assumption | (repeat (first | exact List.Mem.head _ | refine List.Mem.tail _ ?_))); (case d => assumption)) | ((with_reducible show wpAny _ _ (eval (Expr.Name _ _) (bEnv _)) _ _ _); refine' b_local ?F ?v ?_; (case F => assumption); (case v => (repeat (first | exact if_pos rfl | refine Eq.trans (if_neg (by decide)) ?_))))  | (k_unfold; (try dsimp only)) | (k_end; wrow_close) | walk1 | (dsimp only; walk1) | (leave1; walk_say "STEP leave1"; try dsimp only) | fail "no step")))
    rename Fr _ _ _ _ => F3
    rename News _ _ _ _ => N3
    refine ksa_set F3 N3 (upd_nd (pre := [_, _, _, _, _, _]) nd2) (ints_vals bs') (by omega) (by rw [List.length_map]; omega) (by omega) ?_
    intro h3 F4 N4 _ _ _
    clear F3 N3
    rw [vals_set] at N4
    dsimp only [List.cons_append, List.nil_append] at N4
    (repeat' ((fail_if_success (with_reducible first | (refine at1 ?_ ?_; constructor) | (refine at3 ?_ ?_; constructor) | show @ite Prop _ _ _ _ | (refine at4 ?_ ?_; constructor) )); (first | ((with_reducible first | refine' b_clock ?N ?m ?d ?_ | refine' b_begun ?N ?m ?d ?_ | refine' b_hours ?N ?m ?d ?_ | refine' b_needs ?N ?m ?d ?_ ); (case N => assumption); (case m => first | assumption | (repeat (first | exact List.Mem.head _ | refine List.Mem.tail _ ?_))); (case d => assumption)) | ((with_reducible show wpAny _ _ (eval (Expr.Name _ _) (bEnv _)) _ _ _); refine' b_local ?F ?v ?_; (case F => assumption); (case v => (repeat (first | exact if_pos rfl | refine Eq.trans (if_neg (by decide)) ?_))))  | (k_unfold; (try dsimp only)) | (k_end; wrow_close) | walk1 | (dsimp only; walk1) | (leave1; walk_say "STEP leave1"; try dsimp only) | fail "no step")))
    rename Fr _ _ _ _ => F5
    rename News _ _ _ _ => N5
    refine append_K F5 N5 (upd_nd (pre := [_, _, _, _, _, _, _]) (nd2.same rfl)) ?_ (by rw [List.size_toArray, vals_len, sizeLine_eq]; omega)
    intro h6 F6 N6
    clear F5 N5
    rw [vals_push] at N6
    dsimp only [List.cons_append, List.nil_append] at N6
    (repeat' ((fail_if_success (with_reducible first | (refine at1 ?_ ?_; constructor) | (refine at3 ?_ ?_; constructor) | show @ite Prop _ _ _ _ | (refine at4 ?_ ?_; constructor) )); (first | ((with_reducible first | refine' b_clock ?N ?m ?d ?_ | refine' b_begun ?N ?m ?d ?_ | refine' b_hours ?N ?m ?d ?_ | refine' b_needs ?N ?m ?d ?_ ); (case N => assumption); (case m => first | assumption | (repeat (first | exact List.Mem.head _ | refine List.Mem.tail _ ?_))); (case d => assumption)) | ((with_reducible show wpAny _ _ (eval (Expr.Name _ _) (bEnv _)) _ _ _); refine' b_local ?F ?v ?_; (case F => assumption); (case v => (repeat (first | exact if_pos rfl | refine Eq.trans (if_neg (by decide)) ?_))))  | (k_unfold; (try dsimp only)) | (k_end; wrow_close) | walk1 | (dsimp only; walk1) | (leave1; walk_say "STEP leave1"; try dsimp only) | fail "no step")))
    refine hQt _ _ (TurnP.next F6 N6 (fun p hp => hp) (off_same hnI rfl) ⟨Same.put' same_of_mm, bs'.set p.1.toNat (ck, tck), ys' ++ [(p.1, p.2)], e2' + 1, rfl, ?_, ?_, ?_, ?_⟩)
    · rw [List.map_set, hb', List.take_add_one, hp, List.foldl_append]; rfl
    · rw [List.map_append, hy', List.take_add_one, hp, List.map_append, List.append_assoc]; rfl
    · rw [List.length_set]; exact hl'
    · rw [List.length_append, List.length_singleton]; omega
  · rintro mu nx h2 tk2 ⟨bs', ys', e2', rfl, hb', hy', hl', hyl⟩ F2 N2
    have e : (vals (ws.take fr.toNat)).length = (ws.take fr.toNat).length := vals_len _
    rw [e, List.take_length] at hb' hy'
    refine h _ _ _ bs' ys' e2' ?_ F2 (News.sub N2 fun p hp => .tail _ hp) hb' hy'
    exact same_of_mm.trans (Same.of_eq em.symm)
end
/-! part C2 -/
set_option maxHeartbeats 1000000
set_option maxHeartbeats 1000000
section
variable {w : World} {A : Around} {g : Heap} {Lf : Addr} {m : Str → Option Value} {s : Shared} {Q : Flow → Shared → Prop} {o1 o2 o3 o4 : Obj} {bA yA wA hA : Addr} {bs ys ws hs : List (Int × Tok)} {e1 e2 e3 e4 : Nat} {TT X0 : List (Addr × Obj)} {ck : Int} {tck : Tok}
  {A₀ : Around} {base : Heap} {outer : List Env} {p : Program} {loose : List Str} {mean : ExcName → Option Value} {mg mb : Str → Option Value}
theorem bT8 (bx : Bx w p loose mean mg mb A₀ base outer A g Lf) (F : Fr g Lf s.heap m) (N : News g Lf s.heap (BLg Lf o1 o2 o3 o4 bA yA wA bs ys ws e1 e2 e3 TT)) (nd : ND (BLg Lf o1 o2 o3 o4 bA yA wA bs ys ws e1 e2 e3 TT))
    (d2 : o2.data = .cell (some (.ref hA))) (d3 : o3.data = .cell (some (.ref bA))) (d4 : o4.data = .cell (some (.int ck tck))) (hb : m (Str.ofString "busy") = some (.ref yA)) (hT : (hA, listOf (vals hs).toArray e4) ∈ TT)
    (hin : ∀ p ∈ ys, 0 ≤ p.1 ∧ p.1 < bs.length) (hl : hs.length = bs.length) (z1 : bs.length ≤ 100) (z2 : ys.length ≤ 100) (hne : ys ≠ [])
    (h : ∀ h' tk o4' M t, Fr g Lf h' m → News g Lf h' (BLg Lf o1 o2 o3 o4' bA yA wA bs ys ws e1 e2 e3 TT) → o4'.data = .cell (some (.int M t)) → M ∈ (ys.map fun p => gI (bs.map (·.1)) p.1 + gI (hs.map (·.1)) p.1) → 
      (∀ x ∈ (ys.map fun p => gI (bs.map (·.1)) p.1 + gI (hs.map (·.1)) p.1), M ≤ x) → Q .next { s with heap := h', toks := tk }) :
    wpAny (model PR w) A (exec (bT 8) (bEnv Lf)) Q (fun _ _ => False) s := by
  show wpAny _ _ (exec (.Assign _ _ _) _) _ _ _
  have X := bx.G.X
  have B := bx.G.B
  have T := bx.G.T
  have hh := bx.hh
  have em := fix_name hb
  rw [em] at F
  refine abs_post fun Q1 hQ1 => ?_
  (repeat' ((fail_if_success (with_reducible first | (refine at1 ?_ ?_; constructor) | (refine at3 ?_ ?_; constructor) | show @ite Prop _ _ _ _ )); (first | (k_unfold; (try dsimp only)) | (k_end; wrow_close) | walk1 | (dsimp only; walk1) | (leave1; walk_say "STEP leave1"; try dsimp only) | fail "no step")))
  refine eval_comp (cl := [(Str.ofString "hours", Lf + 2), (Str.ofString "begun", Lf + 3)]) (fun _ => true) (fun v y => ∃ k t t', v = Value.int k t ∧ y = Value.int (gI (bs.map (·.1)) k + gI (hs.map (·.1)) k) t') rfl (by decide) rfl (by decide) rfl ?_
  (repeat' ((fail_if_success (with_reducible first | (refine at1 ?_ ?_; constructor) | (refine at3 ?_ ?_; constructor) | show @ite Prop _ _ _ _ )); (first | (k_unfold; (try dsimp only)) | (k_end; wrow_close) | walk1 | (dsimp only; walk1) | (leave1; walk_say "STEP leave1"; try dsimp only) | fail "no step")))
  refine comp_list (vs := vals ys) (n := e2) hh (by ((repeat (first | exact List.Mem.head _ | refine List.Mem.tail _ ?_)))) F N (by rw [vals_len, sizeLine_eq]; omega) ?q ?_
  case q =>
    refine ⟨fun C i v s₃ m₃ E' hP hc => tests_nil ⟨rfl, _, rfl⟩, ?_⟩
    intro C i v s₃ m₃ E' hP _ hc
    obtain ⟨p, hp, rfl⟩ := vals_get hP
    have hpi := hin p (List.mem_of_getElem? hp)
    have hns := hc.ns
    have hvr := hc.var
    have hc2 := hc.led (Lf + 2, o2) (by ((repeat (first | exact List.Mem.head _ | refine List.Mem.tail _ ?_))))
    have hc3 := hc.led (Lf + 3, o3) (by ((repeat (first | exact List.Mem.head _ | refine List.Mem.tail _ ?_))))
    have hlb : s₃.heap.IsList bA (vals bs).toArray := ⟨_, hc.led (bA, _) (by ((repeat (first | exact List.Mem.head _ | refine List.Mem.tail _ ?_)))), rfl, ⟨_, rfl⟩⟩
    have hlh : s₃.heap.IsList hA (vals hs).toArray := ⟨_, hc.led (hA, _) (.tail _ (.tail _ (.tail _ (.tail _ (.tail _ (.tail _ (.tail _ hT))))))), rfl, ⟨_, rfl⟩⟩
    dsimp only at hc2 hc3
    clear F N hc
    (repeat' ((fail_if_success (with_reducible first | (refine at1 ?_ ?_; constructor) | (refine at3 ?_ ?_; constructor) | show @ite Prop _ _ _ _ | (refine at4 ?_ ?_; constructor) )); (first | ((with_reducible show wpAny _ _ (eval (Expr.Name _ _) (compEnvC _ _ _ _)) _ _ _); first | (refine' comp_var ?k1 ?k2 ?_ ?k3 ?k4 ?k5; (case k2 => with_reducible assumption); (case k1 => with_reducible assumption); (case k3 => exact rfl); (case k4 => exact rfl); (case k5 => decide)) | (refine' comp_free ?k1 ?k2 ?_ ?k3 ?k4 ?k5 ?k6; (case k3 => exact rfl); (case k1 => with_reducible assumption); (case k2 => with_reducible assumption); (case k4 => exact rfl); (case k5 => exact rfl); (case k6 => decide))) | (k_unfold; (try dsimp only)) | (k_end; wrow_close) | walk1 | (dsimp only; walk1) | (leave1; walk_say "STEP leave1"; try dsimp only) | fail "no step")))
    refine item_anyK hlb (ints_vals bs) (by omega) (by rw [List.length_map]; omega) (by omega) (fun t1 => ?_)
    (repeat' ((fail_if_success (with_reducible first | (refine at1 ?_ ?_; constructor) | (refine at3 ?_ ?_; constructor) | show @ite Prop _ _ _ _ | (refine at4 ?_ ?_; constructor) )); (first | ((with_reducible show wpAny _ _ (eval (Expr.Name _ _) (compEnvC _ _ _ _)) _ _ _); first | (refine' comp_var ?k1 ?k2 ?_ ?k3 ?k4 ?k5; (case k2 => with_reducible assumption); (case k1 => with_reducible assumption); (case k3 => exact rfl); (case k4 => exact rfl); (case k5 => decide)) | (refine' comp_free ?k1 ?k2 ?_ ?k3 ?k4 ?k5 ?k6; (case k3 => exact rfl); (case k1 => with_reducible assumption); (case k2 => with_reducible assumption); (case k4 => exact rfl); (case k5 => exact rfl); (case k6 => decide))) | (k_unfold; (try dsimp only)) | (k_end; wrow_close) | walk1 | (dsimp only; walk1) | (leave1; walk_say "STEP leave1"; try dsimp only) | fail "no step")))
    refine item_anyK hlh (ints_vals hs) (by omega) (by rw [List.length_map]; omega) (by omega) (fun t2 => ?_)
    (repeat' ((fail_if_success (with_reducible first | (refine at1 ?_ ?_; constructor) | (refine at3 ?_ ?_; constructor) | show @ite Prop _ _ _ _ | (refine at4 ?_ ?_; constructor) )); (first | ((with_reducible show wpAny _ _ (eval (Expr.Name _ _) (compEnvC _ _ _ _)) _ _ _); first | (refine' comp_var ?k1 ?k2 ?_ ?k3 ?k4 ?k5; (case k2 => with_reducible assumption); (case k1 => with_reducible assumption); (case k3 => exact rfl); (case k4 => exact rfl); (case k5 => decide)) | (refine' comp_free ?k1 ?k2 ?_ ?k3 ?k4 ?k5 ?k6; (case k3 => exact rfl); (case k1 => with_reducible assumption); (case k2 => with_reducible assumption); (case k4 => exact rfl); (case k5 => exact rfl); (case k6 => decide))) | (k_unfold; (try dsimp only)) | (k_end; wrow_close) | walk1 | (dsimp only; walk1) | (leave1; walk_say "STEP leave1"; try dsimp only) | fail "no step")))
  intro D h1 tk1 ys1 k1 F1 N1 hDn hpr
  rw [filter_all] at hpr
  obtain ⟨l', e1', e2'⟩ := paired_ints (f := fun k => gI (bs.map (·.1)) k + gI (hs.map (·.1)) k) hpr
  clear F N
  have hys : ys1 = (vals l').toArray := by apply Array.toList_inj.mp; rw [e1']
  subst hys
  (repeat' ((fail_if_success (with_reducible first | (refine at1 ?_ ?_; constructor) | (refine at3 ?_ ?_; constructor) | show @ite Prop _ _ _ _ | (refine at4 ?_ ?_; constructor) )); (first | ((with_reducible first | refine' b_clock ?N ?m ?d ?_ | refine' b_begun ?N ?m ?d ?_ | refine' b_hours ?N ?m ?d ?_ | refine' b_needs ?N ?m ?d ?_ ); (case N => assumption); (case m => first | assumption | (repeat (first | exact List.Mem.head _ | refine List.Mem.tail _ ?_))); (case d => assumption)) | ((with_reducible show wpAny _ _ (eval (Expr.Name _ _) (bEnv _)) _ _ _); refine' b_local ?F ?v ?_; (case F => assumption); (case v => (repeat (first | exact if_pos rfl | refine Eq.trans (if_neg (by decide)) ?_))))  | (k_unfold; (try dsimp only)) | (k_end; wrow_close) | walk1 | (dsimp only; walk1) | (leave1; walk_say "STEP leave1"; try dsimp only) | fail "no step")))
  refine kso_min F1 N1 (News.isList N1 (.head _)) (ints_vals l') (by rw [e2', List.length_map]; exact List.length_pos_iff.mpr hne) hh ?_
  intro h2 M t tk2 F2 N2 hM hmin
  clear F1 N1
  (repeat' ((fail_if_success (with_reducible first | (refine at1 ?_ ?_; constructor) | (refine at3 ?_ ?_; constructor) | show @ite Prop _ _ _ _ | (refine at4 ?_ ?_; constructor) )); (first | ((with_reducible first | refine' b_clock ?N ?m ?d ?_ | refine' b_begun ?N ?m ?d ?_ | refine' b_hours ?N ?m ?d ?_ | refine' b_needs ?N ?m ?d ?_ ); (case N => assumption); (case m => first | assumption | (repeat (first | exact List.Mem.head _ | refine List.Mem.tail _ ?_))); (case d => assumption)) | ((with_reducible show wpAny _ _ (eval (Expr.Name _ _) (bEnv _)) _ _ _); refine' b_local ?F ?v ?_; (case F => assumption); (case v => (repeat (first | exact if_pos rfl | refine Eq.trans (if_neg (by decide)) ?_))))  | (k_unfold; (try dsimp only)) | (k_end; wrow_close) | walk1 | (dsimp only; walk1) | (leave1; walk_say "STEP leave1"; try dsimp only) | fail "no step")))
  refine storeX_C F2 (News.sub N2 fun p hp => .tail _ hp) (c := Lf + 4) rfl (updF_nd (pre := [_, _, _]) nd) d4 ?_
  intro h3 o4' F3 N3 d4'
  refine hQ1 _ _ ?_
  rw [e2'] at hM hmin
  exact h _ _ o4' M t (em ▸ F3) N3 d4' hM hmin
theorem bT9 (bx : Bx w p loose mean mg mb A₀ base outer A g Lf) (F : Fr g Lf s.heap m) (N : News g Lf s.heap (X0 ++ BLg Lf o1 o2 o3 o4 bA yA wA bs ys ws e1 e2 e3 TT))
    (d2 : o2.data = .cell (some (.ref hA))) (d3 : o3.data = .cell (some (.ref bA))) (d4 : o4.data = .cell (some (.int ck tck))) (hb : m (Str.ofString "busy") = some (.ref yA)) (hT : (hA, listOf (vals hs).toArray e4) ∈ TT)
    (hin : ∀ p ∈ ys, 0 ≤ p.1 ∧ p.1 < bs.length) (hl : hs.length = bs.length) (z1 : bs.length ≤ 100) (z2 : ys.length ≤ 100)
    (h : ∀ h' tk D k, Fr g Lf h' (putm (Str.ofString "over") (.ref D) m) → News g Lf h' ((D, listOf (vals (ys.filter fun p => decide (gI (bs.map (·.1)) p.1 + gI (hs.map (·.1)) p.1 = ck))).toArray k) :: (X0 ++ BLg Lf o1 o2 o3 o4 bA yA wA bs ys ws e1 e2 e3 TT)) →
      (∀ q ∈ X0 ++ BLg Lf o1 o2 o3 o4 bA yA wA bs ys ws e1 e2 e3 TT, q.1 ≠ D) → Q .next { s with heap := h', toks := tk }) :
    wpAny (model PR w) A (exec (bT 9) (bEnv Lf)) Q (fun _ _ => False) s := by
  show wpAny _ _ (exec (.Assign _ _ _) _) _ _ _
  have X := bx.G.X
  have B := bx.G.B
  have T := bx.G.T
  have hh := bx.hh
  have em := fix_name hb
  rw [em] at F
  have mN : ∀ p ∈ BLg Lf o1 o2 o3 o4 bA yA wA bs ys ws e1 e2 e3 TT, p ∈ X0 ++ BLg Lf o1 o2 o3 o4 bA yA wA bs ys ws e1 e2 e3 TT := fun p hp => List.mem_append_right _ hp
  generalize X0 ++ BLg Lf o1 o2 o3 o4 bA yA wA bs ys ws e1 e2 e3 TT = nx at N mN h
  refine abs_post fun Q1 hQ1 => ?_
  refine asg_comp (cl := [(Str.ofString "hours", Lf + 2), (Str.ofString "clock", Lf + 4), (Str.ofString "begun", Lf + 3)]) (tI (fun k => decide (gI (bs.map (·.1)) k + gI (hs.map (·.1)) k = ck))) (fun v y => y = v) rfl rfl (by decide) rfl (by decide) rfl rfl rfl ?_
  (repeat' ((fail_if_success (with_reducible first | (refine at1 ?_ ?_; constructor) | (refine at3 ?_ ?_; constructor) | show @ite Prop _ _ _ _ | (refine at4 ?_ ?_; constructor) )); (first | ((with_reducible first | refine' b_clock ?N ?m ?d ?_ | refine' b_begun ?N ?m ?d ?_ | refine' b_hours ?N ?m ?d ?_ | refine' b_needs ?N ?m ?d ?_ ); (case N => assumption); (case m => first | assumption | (repeat (first | exact List.Mem.head _ | refine List.Mem.tail _ ?_))); (case d => assumption)) | ((with_reducible show wpAny _ _ (eval (Expr.Name _ _) (bEnv _)) _ _ _); refine' b_local ?F ?v ?_; (case F => assumption); (case v => (repeat (first | exact if_pos rfl | refine Eq.trans (if_neg (by decide)) ?_))))  | (k_unfold; (try dsimp only)) | (k_end; wrow_close) | walk1 | (dsimp only; walk1) | (leave1; walk_say "STEP leave1"; try dsimp only) | fail "no step")))
  refine compA_list (vs := vals ys) (n := e2) hh (mN _ (by ((repeat (first | exact List.Mem.head _ | refine List.Mem.tail _ ?_))))) F N (by rw [vals_len, sizeLine_eq]; omega) ?q ?_
  case q =>
    refine ⟨?_, ?_⟩
    · intro C i v s₃ m₃ E' hP hc
      obtain ⟨p, hp, rfl⟩ := vals_get hP
      have hpi := hin p (List.mem_of_getElem? hp)
      have hns := hc.ns
      have hvr := hc.var
      have hc2 := hc.led (Lf + 2, o2) (mN _ (by ((repeat (first | exact List.Mem.head _ | refine List.Mem.tail _ ?_)))))
      have hc3 := hc.led (Lf + 3, o3) (mN _ (by ((repeat (first | exact List.Mem.head _ | refine List.Mem.tail _ ?_)))))
      have hc4 := hc.led (Lf + 4, o4) (mN _ (by ((repeat (first | exact List.Mem.head _ | refine List.Mem.tail _ ?_)))))
      have hlb : s₃.heap.IsList bA (vals bs).toArray := ⟨_, hc.led (bA, _) (mN _ (by ((repeat (first | exact List.Mem.head _ | refine List.Mem.tail _ ?_))))), rfl, ⟨_, rfl⟩⟩
      have hlh : s₃.heap.IsList hA (vals hs).toArray := ⟨_, hc.led (hA, _) (mN _ (.tail _ (.tail _ (.tail _ (.tail _ (.tail _ (.tail _ (.tail _ hT)))))))), rfl, ⟨_, rfl⟩⟩
      dsimp only at hc2 hc3 hc4
      clear F N hc
      refine tests_one ?_
      (repeat' ((fail_if_success (with_reducible first | (refine at1 ?_ ?_; constructor) | (refine at3 ?_ ?_; constructor) | show @ite Prop _ _ _ _ | (refine at4 ?_ ?_; constructor) )); (first | ((with_reducible show wpAny _ _ (eval (Expr.Name _ _) (compEnvC _ _ _ _)) _ _ _); first | (refine' comp_var ?k1 ?k2 ?_ ?k3 ?k4 ?k5; (case k2 => with_reducible assumption); (case k1 => with_reducible assumption); (case k3 => exact rfl); (case k4 => exact rfl); (case k5 => decide)) | (refine' comp_free ?k1 ?k2 ?_ ?k3 ?k4 ?k5 ?k6; (case k3 => exact rfl); (case k1 => with_reducible assumption); (case k2 => with_reducible assumption); (case k4 => exact rfl); (case k5 => exact rfl); (case k6 => decide))) | (k_unfold; (try dsimp only)) | (k_end; wrow_close) | walk1 | (dsimp only; walk1) | (leave1; walk_say "STEP leave1"; try dsimp only) | fail "no step")))
      refine item_anyK hlb (ints_vals bs) (by omega) (by rw [List.length_map]; omega) (by omega) (fun t1 => ?_)
      (repeat' ((fail_if_success (with_reducible first | (refine at1 ?_ ?_; constructor) | (refine at3 ?_ ?_; constructor) | show @ite Prop _ _ _ _ | (refine at4 ?_ ?_; constructor) )); (first | ((with_reducible show wpAny _ _ (eval (Expr.Name _ _) (compEnvC _ _ _ _)) _ _ _); first | (refine' comp_var ?k1 ?k2 ?_ ?k3 ?k4 ?k5; (case k2 => with_reducible assumption); (case k1 => with_reducible assumption); (case k3 => exact rfl); (case k4 => exact rfl); (case k5 => decide)) | (refine' comp_free ?k1 ?k2 ?_ ?k3 ?k4 ?k5 ?k6; (case k3 => exact rfl); (case k1 => with_reducible assumption); (case k2 => with_reducible assumption); (case k4 => exact rfl); (case k5 => exact rfl); (case k6 => decide))) | (k_unfold; (try dsimp only)) | (k_end; wrow_close) | walk1 | (dsimp only; walk1) | (leave1; walk_say "STEP leave1"; try dsimp only) | fail "no step")))
      refine item_anyK hlh (ints_vals hs) (by omega) (by rw [List.length_map]; omega) (by omega) (fun t2 => ?_)
      (repeat' ((fail_if_success (with_reducible first | (refine at1 ?_ ?_; constructor) | (refine at3 ?_ ?_; constructor) | show @ite Prop _ _ _ _ | (refine at4 ?_ ?_; constructor) )); (first | ((with_reducible show wpAny _ _ (eval (Expr.Name _ _) (compEnvC _ _ _ _)) _ _ _); first | (refine' comp_var ?k1 ?k2 ?_ ?k3 ?k4 ?k5; (case k2 => with_reducible assumption); (case k1 => with_reducible assumption); (case k3 => exact rfl); (case k4 => exact rfl); (case k5 => decide)) | (refine' comp_free ?k1 ?k2 ?_ ?k3 ?k4 ?k5 ?k6; (case k3 => exact rfl); (case k1 => with_reducible assumption); (case k2 => with_reducible assumption); (case k4 => exact rfl); (case k5 => exact rfl); (case k6 => decide))) | (k_unfold; (try dsimp only)) | (k_end; wrow_close) | walk1 | (dsimp only; walk1) | (leave1; walk_say "STEP leave1"; try dsimp only) | fail "no step")))
      all_goals first | rfl | exact bne_dec _ _ | exact ⟨_, rfl⟩ | exact ⟨rfl, _, rfl⟩
    · intro C i v s₃ m₃ E' hP _ hc
      have hns := hc.ns
      have hvr := hc.var
      clear F N hc
      (repeat' ((fail_if_success (with_reducible first | (refine at1 ?_ ?_; constructor) | (refine at3 ?_ ?_; constructor) | show @ite Prop _ _ _ _ | (refine at4 ?_ ?_; constructor) )); (first | ((with_reducible show wpAny _ _ (eval (Expr.Name _ _) (compEnvC _ _ _ _)) _ _ _); first | (refine' comp_var ?k1 ?k2 ?_ ?k3 ?k4 ?k5; (case k2 => with_reducible assumption); (case k1 => with_reducible assumption); (case k3 => exact rfl); (case k4 => exact rfl); (case k5 => decide)) | (refine' comp_free ?k1 ?k2 ?_ ?k3 ?k4 ?k5 ?k6; (case k3 => exact rfl); (case k1 => with_reducible assumption); (case k2 => with_reducible assumption); (case k4 => exact rfl); (case k5 => exact rfl); (case k6 => decide))) | (k_unfold; (try dsimp only)) | (k_end; wrow_close) | walk1 | (dsimp only; walk1) | (leave1; walk_say "STEP leave1"; try dsimp only) | fail "no step")))
  intro D h1 tk1 ys1 k1 F1 N1 hDn hpr
  rw [filter_vals] at hpr
  have hys : ys1 = (vals (ys.filter fun p => (fun k => decide (gI (bs.map (·.1)) k + gI (hs.map (·.1)) k = ck)) p.1)).toArray := by apply Array.toList_inj.mp; exact paired_eq hpr
  subst hys
  clear F N
  refine hQ1 _ _ ?_
  exact h _ _ D k1 (by rw [← em] at F1; exact F1) N1 hDn
theorem bT10 (bx : Bx w p loose mean mg mb A₀ base outer A g Lf) (F : Fr g Lf s.heap m) (N : News g Lf s.heap (X0 ++ BLg Lf o1 o2 o3 o4 bA yA wA bs ys ws e1 e2 e3 TT))
    (d2 : o2.data = .cell (some (.ref hA))) (d3 : o3.data = .cell (some (.ref bA))) (d4 : o4.data = .cell (some (.int ck tck))) (hb : m (Str.ofString "busy") = some (.ref yA)) (hT : (hA, listOf (vals hs).toArray e4) ∈ TT)
    (hin : ∀ p ∈ ys, 0 ≤ p.1 ∧ p.1 < bs.length) (hl : hs.length = bs.length) (z1 : bs.length ≤ 100) (z2 : ys.length ≤ 100)
    (h : ∀ h' tk D k, Fr g Lf h' (putm (Str.ofString "busy") (.ref D) m) → News g Lf h' ((D, listOf (vals (ys.filter fun p => decide (gI (bs.map (·.1)) p.1 + gI (hs.map (·.1)) p.1 ≠ ck))).toArray k) :: (X0 ++ BLg Lf o1 o2 o3 o4 bA yA wA bs ys ws e1 e2 e3 TT)) →
      (∀ q ∈ X0 ++ BLg Lf o1 o2 o3 o4 bA yA wA bs ys ws e1 e2 e3 TT, q.1 ≠ D) → Q .next { s with heap := h', toks := tk }) :
    wpAny (model PR w) A (exec (bT 10) (bEnv Lf)) Q (fun _ _ => False) s := by
  show wpAny _ _ (exec (.Assign _ _ _) _) _ _ _
  have X := bx.G.X
  have B := bx.G.B
  have T := bx.G.T
  have hh := bx.hh
  have em := fix_name hb
  rw [em] at F
  have mN : ∀ p ∈ BLg Lf o1 o2 o3 o4 bA yA wA bs ys ws e1 e2 e3 TT, p ∈ X0 ++ BLg Lf o1 o2 o3 o4 bA yA wA bs ys ws e1 e2 e3 TT := fun p hp => List.mem_append_right _ hp
  generalize X0 ++ BLg Lf o1 o2 o3 o4 bA yA wA bs ys ws e1 e2 e3 TT = nx at N mN h
  refine abs_post fun Q1 hQ1 => ?_
  refine asg_comp (cl := [(Str.ofString "hours", Lf + 2), (Str.ofString "clock", Lf + 4), (Str.ofString "begun", Lf + 3)]) (tI (fun k => decide (gI (bs.map (·.1)) k + gI (hs.map (·.1)) k ≠ ck))) (fun v y => y = v) rfl rfl (by decide) rfl (by decide) rfl rfl rfl ?_
  (repeat' ((fail_if_success (with_reducible first | (refine at1 ?_ ?_; constructor) | (refine at3 ?_ ?_; constructor) | show @ite Prop _ _ _ _ | (refine at4 ?_ ?_; constructor) )); (first | ((with_reducible first | refine' b_clock ?N ?m ?d ?_ | refine' b_begun ?N ?m ?d ?_ | refine' b_hours ?N ?m ?d ?_ | refine' b_needs ?N ?m ?d ?_ ); (case N => assumption); (case m => first | assumption | (repeat (first | exact List.Mem.head _ | refine List.Mem.tail _ ?_))); (case d => assumption)) | ((with_reducible show wpAny _ _ (eval (Expr.Name _ _) (bEnv _)) _ _ _); refine' b_local ?F ?v ?_; (case F => assumption); (case v => (repeat (first | exact if_pos rfl | refine Eq.trans (if_neg (by decide)) ?_))))  | (k_unfold; (try dsimp only)) | (k_end; wrow_close) | walk1 | (dsimp only; walk1) | (leave1; walk_say "STEP leave1"; try dsimp only) | fail "no step")))
  refine compA_list (vs := vals ys) (n := e2) hh (mN _ (by ((repeat (first | exact List.Mem.head _ | refine List.Mem.tail _ ?_))))) F N (by rw [vals_len, sizeLine_eq]; omega) ?q ?_
  case q =>
    refine ⟨?_, ?_⟩
    · intro C i v s₃ m₃ E' hP hc
      obtain ⟨p, hp, rfl⟩ := vals_get hP
      have hpi := hin p (List.mem_of_getElem? hp)
      have hns := hc.ns
      have hvr := hc.var
      have hc2 := hc.led (Lf + 2, o2) (mN _ (by ((repeat (first | exact List.Mem.head _ | refine List.Mem.tail _ ?_)))))
      have hc3 := hc.led (Lf + 3, o3) (mN _ (by ((repeat (first | exact List.Mem.head _ | refine List.Mem.tail _ ?_)))))
      have hc4 := hc.led (Lf + 4, o4) (mN _ (by ((repeat (first | exact List.Mem.head _ | refine List.Mem.tail _ ?_)))))
      have hlb : s₃.heap.IsList bA (vals bs).toArray := ⟨_, hc.led (bA, _) (mN _ (by ((repeat (first | exact List.Mem.head _ | refine List.Mem.tail _ ?_))))), rfl, ⟨_, rfl⟩⟩
      have hlh : s₃.heap.IsList hA (vals hs).toArray := ⟨_, hc.led (hA, _) (mN _ (.tail _ (.tail _ (.tail _ (.tail _ (.tail _ (.tail _ (.tail _ hT)))))))), rfl, ⟨_, rfl⟩⟩
      dsimp only at hc2 hc3 hc4
      clear F N hc
      refine tests_one ?_
      (repeat' ((fail_if_success (with_reducible first | (refine at1 ?_ ?_; constructor) | (refine at3 ?_ ?_; constructor) | show @ite Prop _ _ _ _ | (refine at4 ?_ ?_; constructor) )); (first | ((with_reducible show wpAny _ _ (eval (Expr.Name _ _) (compEnvC _ _ _ _)) _ _ _); first | (refine' comp_var ?k1 ?k2 ?_ ?k3 ?k4 ?k5; (case k2 => with_reducible assumption); (case k1 => with_reducible assumption); (case k3 => exact rfl); (case k4 => exact rfl); (case k5 => decide)) | (refine' comp_free ?k1 ?k2 ?_ ?k3 ?k4 ?k5 ?k6; (case k3 => exact rfl); (case k1 => with_reducible assumption); (case k2 => with_reducible assumption); (case k4 => exact rfl); (case k5 => exact rfl); (case k6 => decide))) | (k_unfold; (try dsimp only)) | (k_end; wrow_close) | walk1 | (dsimp only; walk1) | (leave1; walk_say "STEP leave1"; try dsimp only) | fail "no step")))
      refine item_anyK hlb (ints_vals bs) (by omega) (by rw [List.length_map]; omega) (by omega) (fun t1 => ?_)
      (repeat' ((fail_if_success (with_reducible first | (refine at1 ?_ ?_; constructor) | (refine at3 ?_ ?_; constructor) | show @ite Prop _ _ _ _ | (refine at4 ?_ ?_; constructor) )); (first | ((with_reducible show wpAny _ _ (eval (Expr.Name _ _) (compEnvC _ _ _ _)) _ _ _); first | (refine' comp_var ?k1 ?k2 ?_ ?k3 ?k4 ?k5; (case k2 => with_reducible assumption); (case k1 => with_reducible assumption); (case k3 => exact rfl); (case k4 => exact rfl); (case k5 => decide)) | (refine' comp_free ?k1 ?k2 ?_ ?k3 ?k4 ?k5 ?k6; (case k3 => exact rfl); (case k1 => with_reducible assumption); (case k2 => with_reducible assumption); (case k4 => exact rfl); (case k5 => exact rfl); (case k6 => decide))) | (k_unfold; (try dsimp only)) | (k_end; wrow_close) | walk1 | (dsimp only; walk1) | (leave1; walk_say "STEP leave1"; try dsimp only) | fail "no step")))
      refine item_anyK hlh (ints_vals hs) (by omega) (by rw [List.length_map]; omega) (by omega) (fun t2 => ?_)
      (repeat' ((fail_if_success (with_reducible first | (refine at1 ?_ ?_; constructor) | (refine at3 ?_ ?_; constructor) | show @ite Prop _ _ _ _ | (refine at4 ?_ ?_; constructor) )); (first | ((with_reducible show wpAny _ _ (eval (Expr.Name _ _) (compEnvC _ _ _ _)) _ _ _); first | (refine' comp_var ?k1 ?k2 ?_ ?k3 ?k4 ?k5; (case k2 => with_reducible assumption); (case k1 => with_reducible assumption); (case k3 => exact rfl); (case k4 => exact rfl); (case k5 => decide)) | (refine' comp_free ?k1 ?k2 ?_ ?k3 ?k4 ?k5 ?k6; (case k3 => exact rfl); (case k1 => with_reducible assumption); (case k2 => with_reducible assumption); (case k4 => exact rfl); (case k5 => exact rfl); (case k6 => decide))) | (k_unfold; (try dsimp only)) | (k_end; wrow_close) | walk1 | (dsimp only; walk1) | (leave1; walk_say "STEP leave1"; try dsimp only) | fail "no step")))
      all_goals first | rfl | exact bne_dec _ _ | exact ⟨_, rfl⟩ | exact ⟨rfl, _, rfl⟩
    · intro C i v s₃ m₃ E' hP _ hc
      have hns := hc.ns
      have hvr := hc.var
      clear F N hc
      (repeat' ((fail_if_success (with_reducible first | (refine at1 ?_ ?_; constructor) | (refine at3 ?_ ?_; constructor) | show @ite Prop _ _ _ _ | (refine at4 ?_ ?_; constructor) )); (first | ((with_reducible show wpAny _ _ (eval (Expr.Name _ _) (compEnvC _ _ _ _)) _ _ _); first | (refine' comp_var ?k1 ?k2 ?_ ?k3 ?k4 ?k5; (case k2 => with_reducible assumption); (case k1 => with_reducible assumption); (case k3 => exact rfl); (case k4 => exact rfl); (case k5 => decide)) | (refine' comp_free ?k1 ?k2 ?_ ?k3 ?k4 ?k5 ?k6; (case k3 => exact rfl); (case k1 => with_reducible assumption); (case k2 => with_reducible assumption); (case k4 => exact rfl); (case k5 => exact rfl); (case k6 => decide))) | (k_unfold; (try dsimp only)) | (k_end; wrow_close) | walk1 | (dsimp only; walk1) | (leave1; walk_say "STEP leave1"; try dsimp only) | fail "no step")))
  intro D h1 tk1 ys1 k1 F1 N1 hDn hpr
  rw [filter_vals] at hpr
  have hys : ys1 = (vals (ys.filter fun p => (fun k => decide (gI (bs.map (·.1)) k + gI (hs.map (·.1)) k ≠ ck)) p.1)).toArray := by apply Array.toList_inj.mp; exact paired_eq hpr
  subst hys
  clear F N
  refine hQ1 _ _ ?_
  exact h _ _ D k1 (by rw [← em] at F1; exact F1) N1 hDn
end
/-! part C3 -/
set_option maxHeartbeats 1000000
set_option maxHeartbeats 1000000
section
variable {w : World} {A : Around} {g : Heap} {Lf : Addr} {m : Str → Option Value} {s : Shared} {Q : Flow → Shared → Prop}
  {A₀ : Around} {base : Heap} {outer : List Env} {p : Program} {loose : List Str} {mean : ExcName → Option Value} {mg mb : Str → Option Value}
  {c : Sx} {ra : Addr} {np nf : Int} {tp tf rn : Nat} {od : Obj} {nodes : List Nd} {rs : List (Int × Tok)} {rest : List (Addr × Obj)}
theorem bT0 (bx : Bx w p loose mean mg mb A₀ base outer A g Lf) (F : Fr g Lf s.heap m) (N : News g Lf s.heap (SL w c (.ref ra) np nf tp tf od (NN nodes ++ (ra, listOf (vals rs).toArray rn) :: rest))) (hs : m (Str.ofString "sorter") = some (.ref c.sx)) (hr : rs.length ≤ 10000)
    (h : ∀ h' tk, Fr g Lf h' (putm (Str.ofString "active") (.bool (decide (nf < np) || decide (rs ≠ []))) m) → News g Lf h' (SL w c (.ref ra) np nf tp tf od (NN nodes ++ (ra, listOf (vals rs).toArray rn) :: rest)) → Q .next { s with heap := h', toks := tk }) :
    wpAny (model PR w) A (exec (bT 0) (bEnv Lf)) Q (fun _ _ => False) s := by
  show wpAny _ _ (exec (.Assign _ _ _) _) _ _ _
  have X := bx.G.X
  have B := bx.G.B
  have T := bx.G.T
  have hh := bx.hh
  have em := fix_name hs
  rw [em] at F
  refine abs_post fun Q1 hQ1 => ?_
  (repeat' ((fail_if_success (with_reducible first | (refine at1 ?_ ?_; constructor) | (refine at3 ?_ ?_; constructor) | show @ite Prop _ _ _ _ | (refine at4 ?_ ?_; constructor) )); (first | ((with_reducible first | refine' b_clock ?N ?m ?d ?_ | refine' b_begun ?N ?m ?d ?_ | refine' b_hours ?N ?m ?d ?_ | refine' b_needs ?N ?m ?d ?_ ); (case N => assumption); (case m => first | assumption | (repeat (first | exact List.Mem.head _ | refine List.Mem.tail _ ?_))); (case d => assumption)) | ((with_reducible show wpAny _ _ (eval (Expr.Name _ _) (bEnv _)) _ _ _); refine' b_local ?F ?v ?_; (case F => assumption); (case v => (repeat (first | exact if_pos rfl | refine Eq.trans (if_neg (by decide)) ?_))))  | (k_unfold; (try dsimp only)) | (k_end; wrow_close) | walk1 | (dsimp only; walk1) | (leave1; walk_say "STEP leave1"; try dsimp only) | fail "no step")))
  refine wpAny_call ?_
  refine c_is_active (bx.cx (by decide) (by decide)) F N hr fun h1 t1 F1 N1 => ?_
  clear F N
  (repeat' ((fail_if_success (with_reducible first | (refine at1 ?_ ?_; constructor) | (refine at3 ?_ ?_; constructor) | show @ite Prop _ _ _ _ | (refine at4 ?_ ?_; constructor) )); (first | ((with_reducible first | refine' b_clock ?N ?m ?d ?_ | refine' b_begun ?N ?m ?d ?_ | refine' b_hours ?N ?m ?d ?_ | refine' b_needs ?N ?m ?d ?_ ); (case N => assumption); (case m => first | assumption | (repeat (first | exact List.Mem.head _ | refine List.Mem.tail _ ?_))); (case d => assumption)) | ((with_reducible show wpAny _ _ (eval (Expr.Name _ _) (bEnv _)) _ _ _); refine' b_local ?F ?v ?_; (case F => assumption); (case v => (repeat (first | exact if_pos rfl | refine Eq.trans (if_neg (by decide)) ?_))))  | (k_unfold; (try dsimp only)) | (k_end; wrow_close) | walk1 | (dsimp only; walk1) | (leave1; walk_say "STEP leave1"; try dsimp only) | fail "no step")))
  rename Fr _ _ _ _ => F2
  rename News _ _ _ _ => N2
  refine hQ1 _ _ ?_
  exact h _ _ (by rw [← em] at F2; exact F2) N2
theorem bT1 (bx : Bx w p loose mean mg mb A₀ base outer A g Lf) (F : Fr g Lf s.heap m) (N : News g Lf s.heap (SL w c (.ref ra) np nf tp tf od (NN nodes ++ (ra, listOf (vals rs).toArray rn) :: rest))) (K : SOK w c od nodes ((ra, listOf (vals rs).toArray rn) :: rest)) (hs : m (Str.ofString "sorter") = some (.ref c.sx)) (hr : rs.length ≤ 10000)
    (hk : ∀ p ∈ rs, p.1 ∈ nodes.map (·.k))
    (h : ∀ h' tk nodes' T tp' rn', Fr g Lf h' (putm (Str.ofString "given") (.ref T) m) → News g Lf h' ((T, tupOf (vals rs)) :: SL w c (.ref ra) (np + rs.length) nf tp' tf od (NN nodes' ++ (ra, listOf (vals []).toArray rn') :: rest)) → SOK w c od nodes' ((ra, listOf (vals []).toArray rn') :: rest) →
     (∀ p ∈ SL w c (.ref ra) np nf tp tf od (NN nodes ++ (ra, listOf (vals rs).toArray rn) :: rest), p.1 < T) → sk nodes' = sk nodes → absN nodes' = outA (rs.map (·.1)) (absN nodes) → Q .next { s with heap := h', toks := tk }) :
    wpAny (model PR w) A (exec (bT 1) (bEnv Lf)) Q (fun _ _ => False) s := by
  show wpAny _ _ (exec (.Assign _ _ _) _) _ _ _
  have X := bx.G.X
  have B := bx.G.B
  have T := bx.G.T
  have hh := bx.hh
  have em := fix_name hs
  rw [em] at F
  refine abs_post fun Q1 hQ1 => ?_
  (repeat' ((fail_if_success (with_reducible first | (refine at1 ?_ ?_; constructor) | (refine at3 ?_ ?_; constructor) | show @ite Prop _ _ _ _ | (refine at4 ?_ ?_; constructor) )); (first | ((with_reducible first | refine' b_clock ?N ?m ?d ?_ | refine' b_begun ?N ?m ?d ?_ | refine' b_hours ?N ?m ?d ?_ | refine' b_needs ?N ?m ?d ?_ ); (case N => assumption); (case m => first | assumption | (repeat (first | exact List.Mem.head _ | refine List.Mem.tail _ ?_))); (case d => assumption)) | ((with_reducible show wpAny _ _ (eval (Expr.Name _ _) (bEnv _)) _ _ _); refine' b_local ?F ?v ?_; (case F => assumption); (case v => (repeat (first | exact if_pos rfl | refine Eq.trans (if_neg (by decide)) ?_))))  | (k_unfold; (try dsimp only)) | (k_end; wrow_close) | walk1 | (dsimp only; walk1) | (leave1; walk_say "STEP leave1"; try dsimp only) | fail "no step")))
  refine wpAny_call ?_
  refine c_get_ready (bx.cx (by decide) (by decide)) F N K hr hk fun h1 t1 nodes' TT tp' rn' F1 N1 K1 hlt hsk habs => ?_
  clear F N
  (repeat' ((fail_if_success (with_reducible first | (refine at1 ?_ ?_; constructor) | (refine at3 ?_ ?_; constructor) | show @ite Prop _ _ _ _ | (refine at4 ?_ ?_; constructor) )); (first | ((with_reducible first | refine' b_clock ?N ?m ?d ?_ | refine' b_begun ?N ?m ?d ?_ | refine' b_hours ?N ?m ?d ?_ | refine' b_needs ?N ?m ?d ?_ ); (case N => assumption); (case m => first | assumption | (repeat (first | exact List.Mem.head _ | refine List.Mem.tail _ ?_))); (case d => assumption)) | ((with_reducible show wpAny _ _ (eval (Expr.Name _ _) (bEnv _)) _ _ _); refine' b_local ?F ?v ?_; (case F => assumption); (case v => (repeat (first | exact if_pos rfl | refine Eq.trans (if_neg (by decide)) ?_))))  | (k_unfold; (try dsimp only)) | (k_end; wrow_close) | walk1 | (dsimp only; walk1) | (leave1; walk_say "STEP leave1"; try dsimp only) | fail "no step")))
  rename Fr _ _ _ _ => F2
  rename News _ _ _ _ => N2
  refine hQ1 _ _ ?_
  exact h _ _ nodes' TT tp' rn' (by rw [← em] at F2; exact F2) N2 K1 hlt hsk habs
theorem bT2 {T wA yA : Addr} {gs ws ys : List (Int × Tok)} {e2 e3 : Nat} {act : Bool} (bx : Bx w p loose mean mg mb A₀ base outer A g Lf) (F : Fr g Lf s.heap m) (N : News g Lf s.heap (SL w c (.ref ra) np nf tp tf od (NN nodes ++ (ra, listOf (vals []).toArray rn) :: rest))) (K : SOK w c od nodes ((ra, listOf (vals []).toArray rn) :: rest)) (hs : m (Str.ofString "sorter") = some (.ref c.sx))
    (hg : m (Str.ofString "given") = some (.ref T)) (ha : m (Str.ofString "active") = some (.bool act)) (hw : m (Str.ofString "waiting") = some (.ref wA)) (hb : m (Str.ofString "busy") = some (.ref yA))
    (iT : (T, tupOf (vals gs)) ∈ rest) (iw : (wA, listOf (vals ws).toArray e3) ∈ rest) (iy : (yA, listOf (vals ys).toArray e2) ∈ rest) (z1 : ws.length ≤ 100) (z2 : ys.length ≤ 100) (hact : act = (decide (gs ≠ []) || decide (ws ++ ys ≠ [])))
    (h : ∀ h' tk nodes' tp' rn', Fr g Lf h' m → News g Lf h' (SL w c (.ref ra) np nf tp' tf od (NN nodes' ++ (ra, listOf (vals []).toArray rn') :: rest)) → SOK w c od nodes' ((ra, listOf (vals []).toArray rn') :: rest) → sk nodes' = sk nodes → absN nodes' = absN nodes → Q .next { s with heap := h', toks := tk }) :
    wpAny (model PR w) A (exec (bT 2) (bEnv Lf)) Q (fun _ _ => False) s := by
  show wpAny _ _ (exec (.If _ _ _ _) _) _ _ _
  have X := bx.G.X
  have B := bx.G.B
  have TT := bx.G.T
  have hh := bx.hh
  have em := fix5 hs hg ha hw hb
  rw [em] at F
  refine abs_post fun Q1 hQ1 => ?_
  (repeat' ((fail_if_success (with_reducible first | (refine at1 ?_ ?_; constructor) | (refine at3 ?_ ?_; constructor) | show @ite Prop _ _ _ _ | (refine at4 ?_ ?_; constructor) )); (first | ((with_reducible first | refine' b_clock ?N ?m ?d ?_ | refine' b_begun ?N ?m ?d ?_ | refine' b_hours ?N ?m ?d ?_ | refine' b_needs ?N ?m ?d ?_ ); (case N => assumption); (case m => first | assumption | (repeat (first | exact List.Mem.head _ | refine List.Mem.tail _ ?_))); (case d => assumption)) | ((with_reducible show wpAny _ _ (eval (Expr.Name _ _) (bEnv _)) _ _ _); refine' b_local ?F ?v ?_; (case F => assumption); (case v => (repeat (first | exact if_pos rfl | refine Eq.trans (if_neg (by decide)) ?_))))  | (k_unfold; (try dsimp only)) | (k_end; wrow_close) | walk1 | (dsimp only; walk1) | (leave1; walk_say "STEP leave1"; try dsimp only) | fail "no step")))
  rw [if_neg Bool.false_ne_true]
  (repeat' ((fail_if_success (with_reducible first | (refine at1 ?_ ?_; constructor) | (refine at3 ?_ ?_; constructor) | show @ite Prop _ _ _ _ | (refine at4 ?_ ?_; constructor) )); (first | ((with_reducible first | refine' b_clock ?N ?m ?d ?_ | refine' b_begun ?N ?m ?d ?_ | refine' b_hours ?N ?m ?d ?_ | refine' b_needs ?N ?m ?d ?_ ); (case N => assumption); (case m => first | assumption | (repeat (first | exact List.Mem.head _ | refine List.Mem.tail _ ?_))); (case d => assumption)) | ((with_reducible show wpAny _ _ (eval (Expr.Name _ _) (bEnv _)) _ _ _); refine' b_local ?F ?v ?_; (case F => assumption); (case v => (repeat (first | exact if_pos rfl | refine Eq.trans (if_neg (by decide)) ?_))))  | (k_unfold; (try dsimp only)) | (k_end; wrow_close) | walk1 | (dsimp only; walk1) | (leave1; walk_say "STEP leave1"; try dsimp only) | fail "no step")))
  refine wpAny_call ?_
  refine c_get_ready (rs := []) (bx.cx (by decide) (by decide)) F N K (by decide) (fun _ h => nomatch h) fun h1 t1 nodes' T2 tp' rn' F1 N1 K1 hlt hsk habs => ?_
  clear F N
  have iT2 : ∀ q ∈ rest, q ∈ (T2, tupOf (vals [])) :: SL w c (.ref ra) (np + (([] : List (Int × Tok)).length : Nat)) nf tp' tf od (NN nodes' ++ (ra, listOf #[] rn') :: rest) := fun q hq => .tail _ (.tail _ (.tail _ (.tail _ (List.mem_append_right _ (.tail _ hq)))))
  (repeat' ((fail_if_success (with_reducible first | (refine at1 ?_ ?_; constructor) | (refine at3 ?_ ?_; constructor) | show @ite Prop _ _ _ _ | (refine at4 ?_ ?_; constructor) )); (first | ((with_reducible first | refine' b_clock ?N ?m ?d ?_ | refine' b_begun ?N ?m ?d ?_ | refine' b_hours ?N ?m ?d ?_ | refine' b_needs ?N ?m ?d ?_ ); (case N => assumption); (case m => first | assumption | (repeat (first | exact List.Mem.head _ | refine List.Mem.tail _ ?_))); (case d => assumption)) | ((with_reducible show wpAny _ _ (eval (Expr.Name _ _) (bEnv _)) _ _ _); refine' b_local ?F ?v ?_; (case F => assumption); (case v => (repeat (first | exact if_pos rfl | refine Eq.trans (if_neg (by decide)) ?_))))  | (k_unfold; (try dsimp only)) | (k_end; wrow_close) | walk1 | (dsimp only; walk1) | (leave1; walk_say "STEP leave1"; try dsimp only) | fail "no step")))
  rename Fr _ _ _ _ => F2
  rename News _ _ _ _ => N2
  refine ne_tup_ints (ns := []) (ms := []) (N2 _ (.tail _ (.head _))).1 (N2 _ (.head _)).1 .nil .nil bx.room ?_
  replace N2 := News.sub N2 (fun p hp => .tail _ hp)
  (repeat' ((fail_if_success (with_reducible first | (refine at1 ?_ ?_; constructor) | (refine at3 ?_ ?_; constructor) | show @ite Prop _ _ _ _ | (refine at4 ?_ ?_; constructor) )); (first | ((with_reducible first | refine' b_clock ?N ?m ?d ?_ | refine' b_begun ?N ?m ?d ?_ | refine' b_hours ?N ?m ?d ?_ | refine' b_needs ?N ?m ?d ?_ ); (case N => assumption); (case m => first | assumption | (repeat (first | exact List.Mem.head _ | refine List.Mem.tail _ ?_))); (case d => assumption)) | ((with_reducible show wpAny _ _ (eval (Expr.Name _ _) (bEnv _)) _ _ _); refine' b_local ?F ?v ?_; (case F => assumption); (case v => (repeat (first | exact if_pos rfl | refine Eq.trans (if_neg (by decide)) ?_))))  | (k_unfold; (try dsimp only)) | (k_end; wrow_close) | walk1 | (dsimp only; walk1) | (leave1; walk_say "STEP leave1"; try dsimp only) | fail "no step")))
  rw [if_neg (by simp)]
  (repeat' ((fail_if_success (with_reducible first | (refine at1 ?_ ?_; constructor) | (refine at3 ?_ ?_; constructor) | show @ite Prop _ _ _ _ | (refine at4 ?_ ?_; constructor) )); (first | ((with_reducible first | refine' b_clock ?N ?m ?d ?_ | refine' b_begun ?N ?m ?d ?_ | refine' b_hours ?N ?m ?d ?_ | refine' b_needs ?N ?m ?d ?_ ); (case N => assumption); (case m => first | assumption | (repeat (first | exact List.Mem.head _ | refine List.Mem.tail _ ?_))); (case d => assumption)) | ((with_reducible show wpAny _ _ (eval (Expr.Name _ _) (bEnv _)) _ _ _); refine' b_local ?F ?v ?_; (case F => assumption); (case v => (repeat (first | exact if_pos rfl | refine Eq.trans (if_neg (by decide)) ?_))))  | (k_unfold; (try dsimp only)) | (k_end; wrow_close) | walk1 | (dsimp only; walk1) | (leave1; walk_say "STEP leave1"; try dsimp only) | fail "no step")))
  rename Fr _ _ _ _ => F3
  rename News _ _ _ _ => N3
  have jT := iT2 _ iT
  have jw := iT2 _ iw
  have jy := iT2 _ iy
  have e0 : np + (([] : List (Int × Tok)).length : Nat) = np := by simp
  have fin : ∀ h' tk, Fr g Lf h' m → News g Lf h' ((T2, tupOf (vals [])) :: SL w c (.ref ra) (np + (([] : List (Int × Tok)).length : Nat)) nf tp' tf od (NN nodes' ++ (ra, listOf #[] rn') :: rest)) → Q1 .next { s with heap := h', toks := tk } := fun h' tk F N => by
    refine hQ1 _ _ ?_
    rw [e0] at N
    exact h h' tk nodes' tp' rn' F (News.sub N fun p hp => .tail _ hp) K1 hsk habs
  refine ne_tup_ints (ms := []) (N3 _ (.tail _ jT)).1 (N3 _ (.head _)).1 (ints_vals gs) .nil bx.room ?_
  replace N3 := News.sub N3 (fun p hp => .tail _ hp)
  clear iT2 hlt
  cases gs with
  | cons a gs =>
    have ea : act = true := by rw [hact]; simp
    subst ea
    (repeat' ((fail_if_success (with_reducible first | (refine at1 ?_ ?_; constructor) | (refine at3 ?_ ?_; constructor) | show @ite Prop _ _ _ _ | (refine at4 ?_ ?_; constructor) )); (first | ((with_reducible first | refine' b_clock ?N ?m ?d ?_ | refine' b_begun ?N ?m ?d ?_ | refine' b_hours ?N ?m ?d ?_ | refine' b_needs ?N ?m ?d ?_ ); (case N => assumption); (case m => first | assumption | (repeat (first | exact List.Mem.head _ | refine List.Mem.tail _ ?_))); (case d => assumption)) | ((with_reducible show wpAny _ _ (eval (Expr.Name _ _) (bEnv _)) _ _ _); refine' b_local ?F ?v ?_; (case F => assumption); (case v => (repeat (first | exact if_pos rfl | refine Eq.trans (if_neg (by decide)) ?_))))  | (k_unfold; (try dsimp only)) | (k_end; wrow_close) | walk1 | (dsimp only; walk1) | (leave1; walk_say "STEP leave1"; try dsimp only) | fail "no step")))
    rw [if_pos (by simp)]
    (repeat' ((fail_if_success (with_reducible first | (refine at1 ?_ ?_; constructor) | (refine at3 ?_ ?_; constructor) | show @ite Prop _ _ _ _ | (refine at4 ?_ ?_; constructor) )); (first | ((with_reducible first | refine' b_clock ?N ?m ?d ?_ | refine' b_begun ?N ?m ?d ?_ | refine' b_hours ?N ?m ?d ?_ | refine' b_needs ?N ?m ?d ?_ ); (case N => assumption); (case m => first | assumption | (repeat (first | exact List.Mem.head _ | refine List.Mem.tail _ ?_))); (case d => assumption)) | ((with_reducible show wpAny _ _ (eval (Expr.Name _ _) (bEnv _)) _ _ _); refine' b_local ?F ?v ?_; (case F => assumption); (case v => (repeat (first | exact if_pos rfl | refine Eq.trans (if_neg (by decide)) ?_))))  | (k_unfold; (try dsimp only)) | (k_end; wrow_close) | walk1 | (dsimp only; walk1) | (leave1; walk_say "STEP leave1"; try dsimp only) | fail "no step")))
    rw [if_neg (by simp)]
    (repeat' ((fail_if_success (with_reducible first | (refine at1 ?_ ?_; constructor) | (refine at3 ?_ ?_; constructor) | show @ite Prop _ _ _ _ | (refine at4 ?_ ?_; constructor) )); (first | ((with_reducible first | refine' b_clock ?N ?m ?d ?_ | refine' b_begun ?N ?m ?d ?_ | refine' b_hours ?N ?m ?d ?_ | refine' b_needs ?N ?m ?d ?_ ); (case N => assumption); (case m => first | assumption | (repeat (first | exact List.Mem.head _ | refine List.Mem.tail _ ?_))); (case d => assumption)) | ((with_reducible show wpAny _ _ (eval (Expr.Name _ _) (bEnv _)) _ _ _); refine' b_local ?F ?v ?_; (case F => assumption); (case v => (repeat (first | exact if_pos rfl | refine Eq.trans (if_neg (by decide)) ?_))))  | (k_unfold; (try dsimp only)) | (k_end; wrow_close) | walk1 | (dsimp only; walk1) | (leave1; walk_say "STEP leave1"; try dsimp only) | fail "no step")))
    rw [if_neg Bool.false_ne_true]
    (repeat' ((fail_if_success (with_reducible first | (refine at1 ?_ ?_; constructor) | (refine at3 ?_ ?_; constructor) | show @ite Prop _ _ _ _ | (refine at4 ?_ ?_; constructor) )); (first | ((with_reducible first | refine' b_clock ?N ?m ?d ?_ | refine' b_begun ?N ?m ?d ?_ | refine' b_hours ?N ?m ?d ?_ | refine' b_needs ?N ?m ?d ?_ ); (case N => assumption); (case m => first | assumption | (repeat (first | exact List.Mem.head _ | refine List.Mem.tail _ ?_))); (case d => assumption)) | ((with_reducible show wpAny _ _ (eval (Expr.Name _ _) (bEnv _)) _ _ _); refine' b_local ?F ?v ?_; (case F => assumption); (case v => (repeat (first | exact if_pos rfl | refine Eq.trans (if_neg (by decide)) ?_))))  | (k_unfold; (try dsimp only)) | (k_end; wrow_close) | walk1 | (dsimp only; walk1) | (leave1; walk_say "STEP leave1"; try dsimp only) | fail "no step")))
    exact fin _ _ (by rw [← em] at F3; exact F3) N3
  | nil =>
    (repeat' ((fail_if_success (with_reducible first | (refine at1 ?_ ?_; constructor) | (refine at3 ?_ ?_; constructor) | show @ite Prop _ _ _ _ | (refine at4 ?_ ?_; constructor) )); (first | ((with_reducible first | refine' b_clock ?N ?m ?d ?_ | refine' b_begun ?N ?m ?d ?_ | refine' b_hours ?N ?m ?d ?_ | refine' b_needs ?N ?m ?d ?_ ); (case N => assumption); (case m => first | assumption | (repeat (first | exact List.Mem.head _ | refine List.Mem.tail _ ?_))); (case d => assumption)) | ((with_reducible show wpAny _ _ (eval (Expr.Name _ _) (bEnv _)) _ _ _); refine' b_local ?F ?v ?_; (case F => assumption); (case v => (repeat (first | exact if_pos rfl | refine Eq.trans (if_neg (by decide)) ?_))))  | (k_unfold; (try dsimp only)) | (k_end; wrow_close) | walk1 | (dsimp only; walk1) | (leave1; walk_say "STEP leave1"; try dsimp only) | fail "no step")))
    rw [if_neg (by simp)]
    (repeat' ((fail_if_success (with_reducible first | (refine at1 ?_ ?_; constructor) | (refine at3 ?_ ?_; constructor) | show @ite Prop _ _ _ _ | (refine at4 ?_ ?_; constructor) )); (first | ((with_reducible first | refine' b_clock ?N ?m ?d ?_ | refine' b_begun ?N ?m ?d ?_ | refine' b_hours ?N ?m ?d ?_ | refine' b_needs ?N ?m ?d ?_ ); (case N => assumption); (case m => first | assumption | (repeat (first | exact List.Mem.head _ | refine List.Mem.tail _ ?_))); (case d => assumption)) | ((with_reducible show wpAny _ _ (eval (Expr.Name _ _) (bEnv _)) _ _ _); refine' b_local ?F ?v ?_; (case F => assumption); (case v => (repeat (first | exact if_pos rfl | refine Eq.trans (if_neg (by decide)) ?_))))  | (k_unfold; (try dsimp only)) | (k_end; wrow_close) | walk1 | (dsimp only; walk1) | (leave1; walk_say "STEP leave1"; try dsimp only) | fail "no step")))
    refine kmk_add_lit (its := (vals ws).toArray) (its2 := (vals ys).toArray) (zs := vals (ws ++ ys)) F3 N3 (News.isList N3 jw) (News.isList N3 jy) (by simp) ?_ (by show (vals ws).length + (vals ys).length ≤ _; rw [vals_len, vals_len, sizeLine_eq]; omega)
    intro D4 h4 F4 N4 _
    clear F3 N3
    (repeat' ((fail_if_success (with_reducible first | (refine at1 ?_ ?_; constructor) | (refine at3 ?_ ?_; constructor) | show @ite Prop _ _ _ _ | (refine at4 ?_ ?_; constructor) )); (first | ((with_reducible first | refine' b_clock ?N ?m ?d ?_ | refine' b_begun ?N ?m ?d ?_ | refine' b_hours ?N ?m ?d ?_ | refine' b_needs ?N ?m ?d ?_ ); (case N => assumption); (case m => first | assumption | (repeat (first | exact List.Mem.head _ | refine List.Mem.tail _ ?_))); (case d => assumption)) | ((with_reducible show wpAny _ _ (eval (Expr.Name _ _) (bEnv _)) _ _ _); refine' b_local ?F ?v ?_; (case F => assumption); (case v => (repeat (first | exact if_pos rfl | refine Eq.trans (if_neg (by decide)) ?_))))  | (k_unfold; (try dsimp only)) | (k_end; wrow_close) | walk1 | (dsimp only; walk1) | (leave1; walk_say "STEP leave1"; try dsimp only) | fail "no step")))
    rename Fr _ _ _ _ => F5
    rename News _ _ _ _ => N5
    refine ke_ne_ints (xs := vals (ws ++ ys)) (ys := []) (ms := []) (News.isList N5 (.tail _ (.head _))) (News.isList N5 (.head _)) (ints_vals _) .nil bx.room ?_
    have ea : act = !decide ((ws ++ ys).map (·.1) = []) := by
      rw [hact]
      cases ws <;> cases ys <;> simp
    (repeat' ((fail_if_success (with_reducible first | (refine at1 ?_ ?_; constructor) | (refine at3 ?_ ?_; constructor) | show @ite Prop _ _ _ _ | (refine at4 ?_ ?_; constructor) )); (first | ((with_reducible first | refine' b_clock ?N ?m ?d ?_ | refine' b_begun ?N ?m ?d ?_ | refine' b_hours ?N ?m ?d ?_ | refine' b_needs ?N ?m ?d ?_ ); (case N => assumption); (case m => first | assumption | (repeat (first | exact List.Mem.head _ | refine List.Mem.tail _ ?_))); (case d => assumption)) | ((with_reducible show wpAny _ _ (eval (Expr.Name _ _) (bEnv _)) _ _ _); refine' b_local ?F ?v ?_; (case F => assumption); (case v => (repeat (first | exact if_pos rfl | refine Eq.trans (if_neg (by decide)) ?_))))  | (k_unfold; (try dsimp only)) | (k_end; wrow_close) | walk1 | (dsimp only; walk1) | (leave1; walk_say "STEP leave1"; try dsimp only) | fail "no step")))
    rw [if_neg (by rw [ea]; simp)]
    (repeat' ((fail_if_success (with_reducible first | (refine at1 ?_ ?_; constructor) | (refine at3 ?_ ?_; constructor) | show @ite Prop _ _ _ _ | (refine at4 ?_ ?_; constructor) )); (first | ((with_reducible first | refine' b_clock ?N ?m ?d ?_ | refine' b_begun ?N ?m ?d ?_ | refine' b_hours ?N ?m ?d ?_ | refine' b_needs ?N ?m ?d ?_ ); (case N => assumption); (case m => first | assumption | (repeat (first | exact List.Mem.head _ | refine List.Mem.tail _ ?_))); (case d => assumption)) | ((with_reducible show wpAny _ _ (eval (Expr.Name _ _) (bEnv _)) _ _ _); refine' b_local ?F ?v ?_; (case F => assumption); (case v => (repeat (first | exact if_pos rfl | refine Eq.trans (if_neg (by decide)) ?_))))  | (k_unfold; (try dsimp only)) | (k_end; wrow_close) | walk1 | (dsimp only; walk1) | (leave1; walk_say "STEP leave1"; try dsimp only) | fail "no step")))
    rw [if_neg Bool.false_ne_true]
    (repeat' ((fail_if_success (with_reducible first | (refine at1 ?_ ?_; constructor) | (refine at3 ?_ ?_; constructor) | show @ite Prop _ _ _ _ | (refine at4 ?_ ?_; constructor) )); (first | ((with_reducible first | refine' b_clock ?N ?m ?d ?_ | refine' b_begun ?N ?m ?d ?_ | refine' b_hours ?N ?m ?d ?_ | refine' b_needs ?N ?m ?d ?_ ); (case N => assumption); (case m => first | assumption | (repeat (first | exact List.Mem.head _ | refine List.Mem.tail _ ?_))); (case d => assumption)) | ((with_reducible show wpAny _ _ (eval (Expr.Name _ _) (bEnv _)) _ _ _); refine' b_local ?F ?v ?_; (case F => assumption); (case v => (repeat (first | exact if_pos rfl | refine Eq.trans (if_neg (by decide)) ?_))))  | (k_unfold; (try dsimp only)) | (k_end; wrow_close) | walk1 | (dsimp only; walk1) | (leave1; walk_say "STEP leave1"; try dsimp only) | fail "no step")))
    exact fin _ _ (by rw [← em] at F5; exact F5) (News.sub N5 fun p hp => .tail _ (.tail _ hp))
end
/-! part C4 -/
set_option maxHeartbeats 1000000
set_option maxHeartbeats 1000000
section
variable {w : World} {A : Around} {g : Heap} {Lf : Addr} {m : Str → Option Value} {s : Shared} {Q : Flow → Shared → Prop} {o1 o2 o3 o4 : Obj} {bA yA wA T : Addr} {bs ys ws gs : List (Int × Tok)} {e1 e2 e3 : Nat} {TT : List (Addr × Obj)}
  {A₀ : Around} {base : Heap} {outer : List Env} {p : Program} {loose : List Str} {mean : ExcName → Option Value} {mg mb : Str → Option Value}
theorem not_long {a b : Nat} (h : a + b ≤ 1000) : Builtin.List.listTooLong (a + b) = false := by
  unfold Builtin.List.listTooLong
  rw [decide_eq_false_iff_not]
  intro q
  rw [sizeLine_eq] at q
  omega
theorem bT3 (bx : Bx w p loose mean mg mb A₀ base outer A g Lf) (F : Fr g Lf s.heap m) (N : News g Lf s.heap (BLg Lf o1 o2 o3 o4 bA yA wA bs ys ws e1 e2 e3 TT)) (nd : ND (BLg Lf o1 o2 o3 o4 bA yA wA bs ys ws e1 e2 e3 TT))
    (hw : m (Str.ofString "waiting") = some (.ref wA)) (hg : m (Str.ofString "given") = some (.ref T)) (iT : (T, tupOf (vals gs)) ∈ TT) (z1 : ws.length ≤ 100) (z2 : gs.length ≤ 50)
    (h : ∀ h' tk gs' e3', Fr g Lf h' m → News g Lf h' (BLg Lf o1 o2 o3 o4 bA yA wA bs ys (ws ++ gs') e1 e2 e3' TT) → (gs'.map (·.1)).Perm (gs.map (·.1)) → Q .next { s with heap := h', toks := tk }) :
    wpAny (model PR w) A (exec (bT 3) (bEnv Lf)) Q (fun _ _ => False) s := by
  show wpAny _ _ (exec (.Expr _ _) _) _ _ _
  have X := bx.G.X
  have B := bx.G.B
  have TP := bx.G.T
  have hh := bx.hh
  have em := fix2 hw hg
  rw [em] at F
  refine abs_post fun Q1 hQ1 => ?_
  (repeat' ((fail_if_success (with_reducible first | (refine at1 ?_ ?_; constructor) | (refine at3 ?_ ?_; constructor) | show @ite Prop _ _ _ _ | (refine at4 ?_ ?_; constructor) )); (first | ((with_reducible first | refine' b_clock ?N ?m ?d ?_ | refine' b_begun ?N ?m ?d ?_ | refine' b_hours ?N ?m ?d ?_ | refine' b_needs ?N ?m ?d ?_ ); (case N => assumption); (case m => first | assumption | (repeat (first | exact List.Mem.head _ | refine List.Mem.tail _ ?_))); (case d => assumption)) | ((with_reducible show wpAny _ _ (eval (Expr.Name _ _) (bEnv _)) _ _ _); refine' b_local ?F ?v ?_; (case F => assumption); (case v => (repeat (first | exact if_pos rfl | refine Eq.trans (if_neg (by decide)) ?_))))  | (k_unfold; (try dsimp only)) | (k_end; wrow_close) | walk1 | (dsimp only; walk1) | (leave1; walk_say "STEP leave1"; try dsimp only) | fail "no step")))
  refine sorted_tuple F N (N _ (.tail _ (.tail _ (.tail _ (.tail _ (.tail _ (.tail _ (.tail _ iT)))))))).1 (ints_vals gs) (by rw [vals_len]; omega) ?_
  intro D h1 vs' ns' e F1 N1 lD hI hp hsrt
  obtain ⟨gs', rfl, rfl⟩ := ints_list hI
  clear F N
  have nd1 := ND.cons (p := (D, listOf (vals gs').toArray e)) nd fun p hp => Nat.ne_of_lt (lD p hp)
  have hlen : gs'.length = gs.length := by have := hp.length_eq; simpa using this
  (repeat' ((fail_if_success (with_reducible first | (refine at1 ?_ ?_; constructor) | (refine at3 ?_ ?_; constructor) | show @ite Prop _ _ _ _ | (refine at4 ?_ ?_; constructor) )); (first | ((with_reducible first | refine' b_clock ?N ?m ?d ?_ | refine' b_begun ?N ?m ?d ?_ | refine' b_hours ?N ?m ?d ?_ | refine' b_needs ?N ?m ?d ?_ ); (case N => assumption); (case m => first | assumption | (repeat (first | exact List.Mem.head _ | refine List.Mem.tail _ ?_))); (case d => assumption)) | ((with_reducible show wpAny _ _ (eval (Expr.Name _ _) (bEnv _)) _ _ _); refine' b_local ?F ?v ?_; (case F => assumption); (case v => (repeat (first | exact if_pos rfl | refine Eq.trans (if_neg (by decide)) ?_))))  | (k_unfold; (try dsimp only)) | (k_end; wrow_close) | walk1 | (dsimp only; walk1) | (leave1; walk_say "STEP leave1"; try dsimp only) | fail "no step")))
  by_cases hz : gs' = []
  · subst hz
    refine kxn_extend (its := (vals ws).toArray) (its2 := (vals []).toArray) F1 N1 (.head _) rfl (upd_nd (pre := [_, _, _, _, _, _, _]) nd1) (by rw [not_long (by rw [List.size_toArray, List.size_toArray, vals_len, vals_len, List.length_nil]; omega)]; simp) (by show (vals ws).length ≤ _; rw [vals_len, sizeLine_eq]; omega) (by rw [List.size_toArray, List.size_toArray, vals_len, vals_len, sizeLine_eq, List.length_nil]; omega) ?_
    intro h2 F2 N2
    (repeat' ((fail_if_success (with_reducible first | (refine at1 ?_ ?_; constructor) | (refine at3 ?_ ?_; constructor) | show @ite Prop _ _ _ _ | (refine at4 ?_ ?_; constructor) )); (first | ((with_reducible first | refine' b_clock ?N ?m ?d ?_ | refine' b_begun ?N ?m ?d ?_ | refine' b_hours ?N ?m ?d ?_ | refine' b_needs ?N ?m ?d ?_ ); (case N => assumption); (case m => first | assumption | (repeat (first | exact List.Mem.head _ | refine List.Mem.tail _ ?_))); (case d => assumption)) | ((with_reducible show wpAny _ _ (eval (Expr.Name _ _) (bEnv _)) _ _ _); refine' b_local ?F ?v ?_; (case F => assumption); (case v => (repeat (first | exact if_pos rfl | refine Eq.trans (if_neg (by decide)) ?_))))  | (k_unfold; (try dsimp only)) | (k_end; wrow_close) | walk1 | (dsimp only; walk1) | (leave1; walk_say "STEP leave1"; try dsimp only) | fail "no step")))
    refine hQ1 _ _ ?_
    exact h _ _ [] e3 (by rw [← em] at F2; exact F2) (by rw [List.append_nil]; exact News.sub N2 fun p hp => .tail _ hp) hp
  · refine kl_extend (its := (vals ws).toArray) (its2 := (vals gs').toArray) (l := vals (ws ++ gs')) F1 N1 (.head _) (by simp) (by show (vals gs').length ≠ 0; rw [vals_len]; exact fun e => hz (List.length_eq_zero_iff.mp e)) (upd_nd (pre := [_, _, _, _, _, _, _]) nd1) (by rw [not_long (by rw [List.size_toArray, List.size_toArray, vals_len, vals_len]; omega)]; simp) (by show (vals ws).length ≤ _; rw [vals_len, sizeLine_eq]; omega) (by rw [List.size_toArray, List.size_toArray, vals_len, vals_len, sizeLine_eq]; omega) ?_
    intro h2 F2 N2
    (repeat' ((fail_if_success (with_reducible first | (refine at1 ?_ ?_; constructor) | (refine at3 ?_ ?_; constructor) | show @ite Prop _ _ _ _ | (refine at4 ?_ ?_; constructor) )); (first | ((with_reducible first | refine' b_clock ?N ?m ?d ?_ | refine' b_begun ?N ?m ?d ?_ | refine' b_hours ?N ?m ?d ?_ | refine' b_needs ?N ?m ?d ?_ ); (case N => assumption); (case m => first | assumption | (repeat (first | exact List.Mem.head _ | refine List.Mem.tail _ ?_))); (case d => assumption)) | ((with_reducible show wpAny _ _ (eval (Expr.Name _ _) (bEnv _)) _ _ _); refine' b_local ?F ?v ?_; (case F => assumption); (case v => (repeat (first | exact if_pos rfl | refine Eq.trans (if_neg (by decide)) ?_))))  | (k_unfold; (try dsimp only)) | (k_end; wrow_close) | walk1 | (dsimp only; walk1) | (leave1; walk_say "STEP leave1"; try dsimp only) | fail "no step")))
    refine hQ1 _ _ ?_
    exact h _ _ gs' _ (by rw [← em] at F2; exact F2) (News.sub N2 fun p hp => .tail _ hp) hp
theorem bT4 {W : Int} {tW : Tok} (bx : Bx w p loose mean mg mb A₀ base outer A g Lf) (F : Fr g Lf s.heap m) (N : News g Lf s.heap (BLg Lf o1 o2 o3 o4 bA yA wA bs ys ws e1 e2 e3 TT))
    (hW : m (Str.ofString "workers") = some (.int W tW)) (hb : m (Str.ofString "busy") = some (.ref yA)) (z1 : ys.length ≤ 100)
    (h : ∀ h' tk t, Fr g Lf h' (putm (Str.ofString "free") (.int (W - ys.length) t) m) → News g Lf h' (BLg Lf o1 o2 o3 o4 bA yA wA bs ys ws e1 e2 e3 TT) → Q .next { s with heap := h', toks := tk }) :
    wpAny (model PR w) A (exec (bT 4) (bEnv Lf)) Q (fun _ _ => False) s := by
  show wpAny _ _ (exec (.Assign _ _ _) _) _ _ _
  have X := bx.G.X
  have B := bx.G.B
  have TP := bx.G.T
  have hh := bx.hh
  have em := fix2 hW hb
  rw [em] at F
  refine abs_post fun Q1 hQ1 => ?_
  (repeat' ((fail_if_success (with_reducible first | (refine at1 ?_ ?_; constructor) | (refine at3 ?_ ?_; constructor) | show @ite Prop _ _ _ _ | (refine at4 ?_ ?_; constructor) )); (first | ((with_reducible first | refine' b_clock ?N ?m ?d ?_ | refine' b_begun ?N ?m ?d ?_ | refine' b_hours ?N ?m ?d ?_ | refine' b_needs ?N ?m ?d ?_ ); (case N => assumption); (case m => first | assumption | (repeat (first | exact List.Mem.head _ | refine List.Mem.tail _ ?_))); (case d => assumption)) | ((with_reducible show wpAny _ _ (eval (Expr.Name _ _) (bEnv _)) _ _ _); refine' b_local ?F ?v ?_; (case F => assumption); (case v => (repeat (first | exact if_pos rfl | refine Eq.trans (if_neg (by decide)) ?_))))  | (k_unfold; (try dsimp only)) | (k_end; wrow_close) | walk1 | (dsimp only; walk1) | (leave1; walk_say "STEP leave1"; try dsimp only) | fail "no step")))
  refine len_list (items := (vals ys).toArray) (News.isList N (by ((repeat (first | exact List.Mem.head _ | refine List.Mem.tail _ ?_))))) (by rw [List.size_toArray, vals_len]; omega) ?_
  rw [List.size_toArray, vals_len]
  (repeat' ((fail_if_success (with_reducible first | (refine at1 ?_ ?_; constructor) | (refine at3 ?_ ?_; constructor) | show @ite Prop _ _ _ _ | (refine at4 ?_ ?_; constructor) )); (first | ((with_reducible first | refine' b_clock ?N ?m ?d ?_ | refine' b_begun ?N ?m ?d ?_ | refine' b_hours ?N ?m ?d ?_ | refine' b_needs ?N ?m ?d ?_ ); (case N => assumption); (case m => first | assumption | (repeat (first | exact List.Mem.head _ | refine List.Mem.tail _ ?_))); (case d => assumption)) | ((with_reducible show wpAny _ _ (eval (Expr.Name _ _) (bEnv _)) _ _ _); refine' b_local ?F ?v ?_; (case F => assumption); (case v => (repeat (first | exact if_pos rfl | refine Eq.trans (if_neg (by decide)) ?_))))  | (k_unfold; (try dsimp only)) | (k_end; wrow_close) | walk1 | (dsimp only; walk1) | (leave1; walk_say "STEP leave1"; try dsimp only) | fail "no step")))
  rename Fr _ _ _ _ => F2
  rename News _ _ _ _ => N2
  refine hQ1 _ _ ?_
  exact h _ _ _ (by rw [← em] at F2; exact F2) N2
theorem bT6 {fr : Int} {tfr : Tok} (bx : Bx w p loose mean mg mb A₀ base outer A g Lf) (F : Fr g Lf s.heap m) (N : News g Lf s.heap (BLg Lf o1 o2 o3 o4 bA yA wA bs ys ws e1 e2 e3 TT))
    (hw : m (Str.ofString "waiting") = some (.ref wA)) (hfr : m (Str.ofString "free") = some (.int fr tfr)) (hf0 : 0 ≤ fr) (z3 : ws.length ≤ 200)
    (h : ∀ h' tk D, Fr g Lf h' (putm (Str.ofString "waiting") (.ref D) m) → News g Lf h' ((D, listOf (vals (ws.drop fr.toNat)).toArray 0) :: BLg Lf o1 o2 o3 o4 bA yA wA bs ys ws e1 e2 e3 TT) → (∀ q ∈ BLg Lf o1 o2 o3 o4 bA yA wA bs ys ws e1 e2 e3 TT, q.1 ≠ D) → Q .next { s with heap := h', toks := tk }) :
    wpAny (model PR w) A (exec (bT 6) (bEnv Lf)) Q (fun _ _ => False) s := by
  show wpAny _ _ (exec (.Assign _ _ _) _) _ _ _
  have X := bx.G.X
  have B := bx.G.B
  have TP := bx.G.T
  have hh := bx.hh
  have em := fix2 hw hfr
  rw [em] at F
  refine abs_post fun Q1 hQ1 => ?_
  (repeat' ((fail_if_success (with_reducible first | (refine at1 ?_ ?_; constructor) | (refine at3 ?_ ?_; constructor) | show @ite Prop _ _ _ _ | (refine at4 ?_ ?_; constructor) )); (first | ((with_reducible first | refine' b_clock ?N ?m ?d ?_ | refine' b_begun ?N ?m ?d ?_ | refine' b_hours ?N ?m ?d ?_ | refine' b_needs ?N ?m ?d ?_ ); (case N => assumption); (case m => first | assumption | (repeat (first | exact List.Mem.head _ | refine List.Mem.tail _ ?_))); (case d => assumption)) | ((with_reducible show wpAny _ _ (eval (Expr.Name _ _) (bEnv _)) _ _ _); refine' b_local ?F ?v ?_; (case F => assumption); (case v => (repeat (first | exact if_pos rfl | refine Eq.trans (if_neg (by decide)) ?_))))  | (k_unfold; (try dsimp only)) | (k_end; wrow_close) | walk1 | (dsimp only; walk1) | (leave1; walk_say "STEP leave1"; try dsimp only) | fail "no step")))
  refine kms_slice_lit (its := (vals ws).toArray) (zs := vals (ws.drop fr.toNat)) F N (News.isList N (by ((repeat (first | exact List.Mem.head _ | refine List.Mem.tail _ ?_))))) (.int _ _) (.none) (pick_from hf0) ?_ (by with_unfolding_all rfl) (by intro _; with_unfolding_all rfl) (by rw [List.size_toArray, vals_len, sizeLine_eq]; omega)
  intro D h1 F1 N1 lD
  clear F N
  (repeat' ((fail_if_success (with_reducible first | (refine at1 ?_ ?_; constructor) | (refine at3 ?_ ?_; constructor) | show @ite Prop _ _ _ _ | (refine at4 ?_ ?_; constructor) )); (first | ((with_reducible first | refine' b_clock ?N ?m ?d ?_ | refine' b_begun ?N ?m ?d ?_ | refine' b_hours ?N ?m ?d ?_ | refine' b_needs ?N ?m ?d ?_ ); (case N => assumption); (case m => first | assumption | (repeat (first | exact List.Mem.head _ | refine List.Mem.tail _ ?_))); (case d => assumption)) | ((with_reducible show wpAny _ _ (eval (Expr.Name _ _) (bEnv _)) _ _ _); refine' b_local ?F ?v ?_; (case F => assumption); (case v => (repeat (first | exact if_pos rfl | refine Eq.trans (if_neg (by decide)) ?_))))  | (k_unfold; (try dsimp only)) | (k_end; wrow_close) | walk1 | (dsimp only; walk1) | (leave1; walk_say "STEP leave1"; try dsimp only) | fail "no step")))
  rename Fr _ _ _ _ => F2
  rename News _ _ _ _ => N2
  refine hQ1 _ _ ?_
  exact h _ _ D (by rw [← em] at F2; exact F2) N2 (fun q hq => Nat.ne_of_lt (lD q hq))
theorem bT7 (bx : Bx w p loose mean mg mb A₀ base outer A g Lf) (F : Fr g Lf s.heap m) (N : News g Lf s.heap (BLg Lf o1 o2 o3 o4 bA yA wA bs ys ws e1 e2 e3 TT))
    (hb : m (Str.ofString "busy") = some (.ref yA)) 
    (h1 : ∀ h' tk, ys = [] → Fr g Lf h' m → News g Lf h' (BLg Lf o1 o2 o3 o4 bA yA wA bs ys ws e1 e2 e3 TT) → Q .brk { s with heap := h', toks := tk })
    (h2 : ∀ h' tk, ys ≠ [] → Fr g Lf h' m → News g Lf h' (BLg Lf o1 o2 o3 o4 bA yA wA bs ys ws e1 e2 e3 TT) → Q .next { s with heap := h', toks := tk }) :
    wpAny (model PR w) A (exec (bT 7) (bEnv Lf)) Q (fun _ _ => False) s := by
  show wpAny _ _ (exec (.If _ _ _ _) _) _ _ _
  have X := bx.G.X
  have B := bx.G.B
  have TP := bx.G.T
  have hh := bx.hh
  have em := fix_name hb
  rw [em] at F
  refine abs_post fun Q1 hQ1 => ?_
  (repeat' ((fail_if_success (with_reducible first | (refine at1 ?_ ?_; constructor) | (refine at3 ?_ ?_; constructor) | show @ite Prop _ _ _ _ | (refine at4 ?_ ?_; constructor) )); (first | ((with_reducible first | refine' b_clock ?N ?m ?d ?_ | refine' b_begun ?N ?m ?d ?_ | refine' b_hours ?N ?m ?d ?_ | refine' b_needs ?N ?m ?d ?_ ); (case N => assumption); (case m => first | assumption | (repeat (first | exact List.Mem.head _ | refine List.Mem.tail _ ?_))); (case d => assumption)) | ((with_reducible show wpAny _ _ (eval (Expr.Name _ _) (bEnv _)) _ _ _); refine' b_local ?F ?v ?_; (case F => assumption); (case v => (repeat (first | exact if_pos rfl | refine Eq.trans (if_neg (by decide)) ?_))))  | (k_unfold; (try dsimp only)) | (k_end; wrow_close) | walk1 | (dsimp only; walk1) | (leave1; walk_say "STEP leave1"; try dsimp only) | fail "no step")))
  rename Fr _ _ _ _ => F2
  rename News _ _ _ _ => N2
  refine ke_eq_ints (xs := vals ys) (ys := []) (ms := []) (News.isList N2 (.tail _ (by ((repeat (first | exact List.Mem.head _ | refine List.Mem.tail _ ?_)))))) (News.isList N2 (.head _)) (ints_vals _) .nil bx.room ?_
  (repeat' ((fail_if_success (with_reducible first | (refine at1 ?_ ?_; constructor) | (refine at3 ?_ ?_; constructor) | show @ite Prop _ _ _ _ | (refine at4 ?_ ?_; constructor) )); (first | ((with_reducible first | refine' b_clock ?N ?m ?d ?_ | refine' b_begun ?N ?m ?d ?_ | refine' b_hours ?N ?m ?d ?_ | refine' b_needs ?N ?m ?d ?_ ); (case N => assumption); (case m => first | assumption | (repeat (first | exact List.Mem.head _ | refine List.Mem.tail _ ?_))); (case d => assumption)) | ((with_reducible show wpAny _ _ (eval (Expr.Name _ _) (bEnv _)) _ _ _); refine' b_local ?F ?v ?_; (case F => assumption); (case v => (repeat (first | exact if_pos rfl | refine Eq.trans (if_neg (by decide)) ?_))))  | (k_unfold; (try dsimp only)) | (k_end; wrow_close) | walk1 | (dsimp only; walk1) | (leave1; walk_say "STEP leave1"; try dsimp only) | fail "no step")))
  by_cases hz : ys = []
  · rw [if_pos (by simp [hz])]
    (repeat' ((fail_if_success (with_reducible first | (refine at1 ?_ ?_; constructor) | (refine at3 ?_ ?_; constructor) | show @ite Prop _ _ _ _ | (refine at4 ?_ ?_; constructor) )); (first | ((with_reducible first | refine' b_clock ?N ?m ?d ?_ | refine' b_begun ?N ?m ?d ?_ | refine' b_hours ?N ?m ?d ?_ | refine' b_needs ?N ?m ?d ?_ ); (case N => assumption); (case m => first | assumption | (repeat (first | exact List.Mem.head _ | refine List.Mem.tail _ ?_))); (case d => assumption)) | ((with_reducible show wpAny _ _ (eval (Expr.Name _ _) (bEnv _)) _ _ _); refine' b_local ?F ?v ?_; (case F => assumption); (case v => (repeat (first | exact if_pos rfl | refine Eq.trans (if_neg (by decide)) ?_))))  | (k_unfold; (try dsimp only)) | (k_end; wrow_close) | walk1 | (dsimp only; walk1) | (leave1; walk_say "STEP leave1"; try dsimp only) | fail "no step")))
    refine hQ1 _ _ ?_
    exact h1 _ _ hz (by rw [← em] at F2; exact F2) (News.sub N2 fun p hp => .tail _ hp)
  · rw [if_neg (by simp [hz])]
    (repeat' ((fail_if_success (with_reducible first | (refine at1 ?_ ?_; constructor) | (refine at3 ?_ ?_; constructor) | show @ite Prop _ _ _ _ | (refine at4 ?_ ?_; constructor) )); (first | ((with_reducible first | refine' b_clock ?N ?m ?d ?_ | refine' b_begun ?N ?m ?d ?_ | refine' b_hours ?N ?m ?d ?_ | refine' b_needs ?N ?m ?d ?_ ); (case N => assumption); (case m => first | assumption | (repeat (first | exact List.Mem.head _ | refine List.Mem.tail _ ?_))); (case d => assumption)) | ((with_reducible show wpAny _ _ (eval (Expr.Name _ _) (bEnv _)) _ _ _); refine' b_local ?F ?v ?_; (case F => assumption); (case v => (repeat (first | exact if_pos rfl | refine Eq.trans (if_neg (by decide)) ?_))))  | (k_unfold; (try dsimp only)) | (k_end; wrow_close) | walk1 | (dsimp only; walk1) | (leave1; walk_say "STEP leave1"; try dsimp only) | fail "no step")))
    refine hQ1 _ _ ?_
    exact h2 _ _ hz (by rw [← em] at F2; exact F2) (News.sub N2 fun p hp => .tail _ hp)
end
/-! part C5 -/
set_option maxHeartbeats 1000000
set_option maxHeartbeats 1000000
theorem sk_abs {l l2 : List Nd} (h : sk l2 = sk l) : (absN l2).map (fun x => (x.1, x.2.2)) = (absN l).map (fun x => (x.1, x.2.2)) := by
  have e : ∀ l : List Nd, (absN l).map (fun x => (x.1, x.2.2)) = (sk l).map (fun nd => (nd.k, nd.si.map (·.1))) := fun l => by
    unfold absN sk; rw [List.map_map, List.map_map]; rfl
  rw [e, h, ← e]
theorem BA_sk {l l2 : List Nd} {b : Nat} (h : sk l2 = sk l) (hB : BA b (absN l)) : BA b (absN l2) := fun x hx => by
  have : (x.1, x.2.2) ∈ (absN l).map (fun x => (x.1, x.2.2)) := by rw [← sk_abs h]; exact List.mem_map_of_mem hx
  obtain ⟨y, hy, e⟩ := List.mem_map.mp this
  have e2 : y.2.2 = x.2.2 := (Prod.mk.inj e).2
  rw [← e2]; exact hB y hy
theorem suc_sk {l l2 : List Nd} (h : sk l2 = sk l) (hs : ∀ nd ∈ l, ∀ p ∈ nd.si, p.1 ∈ l.map (·.k)) : ∀ nd ∈ l2, ∀ p ∈ nd.si, p.1 ∈ l2.map (·.k) := fun nd hn q hq => by
  obtain ⟨x, hx, e⟩ := mem_sk h.symm hn
  have e2 : x.si = nd.si := (congrArg Nd.si e : x.bare.si = nd.bare.si)
  rw [sk_keys h]
  exact hs x hx q (by rw [e2]; exact hq)
section
variable {w : World} {A : Around} {g : Heap} {Lf : Addr} {m : Str → Option Value} {s : Shared} {Q : Flow → Shared → Prop}
  {A₀ : Around} {base : Heap} {outer : List Env} {p : Program} {loose : List Str} {mean : ExcName → Option Value} {mg mb : Str → Option Value}
  {c : Sx} {ra vA : Addr} {np nf : Int} {tp tf rn : Nat} {od : Obj} {nodes : List Nd} {rs ds : List (Int × Tok)} {rest : List (Addr × Obj)} {o4 : Obj} {ck : Int} {tck : Tok} {e5 : Nat}
theorem bT11 (bx : Bx w p loose mean mg mb A₀ base outer A g Lf) (F : Fr g Lf s.heap m) (N : News g Lf s.heap (SL w c (.ref ra) np nf tp tf od (NN nodes ++ (ra, listOf (vals rs).toArray rn) :: rest))) (K : SOK w c od nodes ((ra, listOf (vals rs).toArray rn) :: rest)) (hs : m (Str.ofString "sorter") = some (.ref c.sx)) (hv : m (Str.ofString "over") = some (.ref vA))
    (ic : (Lf + 4, o4) ∈ rest) (d4 : o4.data = .cell (some (.int ck tck))) (iv : (vA, listOf (vals ds).toArray e5) ∈ rest) (hds : ds.length ≤ 20)
    (hk : ∀ p ∈ ds, p.1 ∈ nodes.map (·.k)) (hB : BA 1000 (absN nodes)) (hsuc : ∀ nd ∈ nodes, ∀ p ∈ nd.si, p.1 ∈ nodes.map (·.k))
    (hout : ∀ i d, (ds.map (·.1))[i]? = some d → npA (((ds.map (·.1)).take i).foldl doneA (absN nodes, rs.map (·.1))).1 d = -1)
    (hlen : ∀ i, (((ds.map (·.1)).take i).foldl doneA (absN nodes, rs.map (·.1))).2.length ≤ 1000)
    (h : ∀ h' tk m' nodes' rs' rn' tf', Same ["job"] m' m → Fr g Lf h' m' → News g Lf h' (SL w c (.ref ra) np (nf + ds.length) tp tf' od (NN nodes' ++ (ra, listOf (vals rs').toArray rn') :: rest)) → SOK w c od nodes' ((ra, listOf (vals rs').toArray rn') :: rest) →
     sk nodes' = sk nodes → (absN nodes', rs'.map (·.1)) = (ds.map (·.1)).foldl doneA (absN nodes, rs.map (·.1)) → Q .next { s with heap := h', toks := tk }) :
    wpAny (model PR w) A (exec (bT 11) (bEnv Lf)) Q (fun _ _ => False) s := by
  show wpAny _ _ (exec (.If _ _ _ _) _) _ _ _
  have X := bx.G.X
  have B := bx.G.B
  have TP := bx.G.T
  have hh := bx.hh
  have em := fix2 hs hv
  rw [em] at F
  have mR : ∀ q ∈ rest, q ∈ SL w c (.ref ra) np nf tp tf od (NN nodes ++ (ra, listOf (vals rs).toArray rn) :: rest) := fun q hq => .tail _ (.tail _ (.tail _ (List.mem_append_right _ (.tail _ hq))))
  have jc := mR _ ic
  have jv := mR _ iv
  have hr0 : rs.length ≤ 1000 := by have := hlen 0; simpa using this
  refine abs_post fun Q1 hQ1 => ?_
  (repeat' ((fail_if_success (with_reducible first | (refine at1 ?_ ?_; constructor) | (refine at3 ?_ ?_; constructor) | show @ite Prop _ _ _ _ | (refine at4 ?_ ?_; constructor) )); (first | ((with_reducible first | refine' b_clock ?N ?m ?d ?_ | refine' b_begun ?N ?m ?d ?_ | refine' b_hours ?N ?m ?d ?_ | refine' b_needs ?N ?m ?d ?_ ); (case N => assumption); (case m => first | assumption | (repeat (first | exact List.Mem.head _ | refine List.Mem.tail _ ?_))); (case d => assumption)) | ((with_reducible show wpAny _ _ (eval (Expr.Name _ _) (bEnv _)) _ _ _); refine' b_local ?F ?v ?_; (case F => assumption); (case v => (repeat (first | exact if_pos rfl | refine Eq.trans (if_neg (by decide)) ?_))))  | (k_unfold; (try dsimp only)) | (k_end; wrow_close) | (ks_star; (with_reducible show wpAny _ _ (eval (Expr.Call (Expr.Attribute _ _ _) _ [] _) _) _ _ _); refine methodCall_star ?_) | (ks_star; (with_reducible show wpAny _ _ (callWith _ (Value.ref _) _ _ _) _ _ _); (with_reducible rename News _ _ _ _ => nN'); k_dflt (first | refine' callWith_MS ?k0 (methIn nN' ?k1) ?k2 ?_ | refine' callWith_MS2 ?k0 (methIn nN' ?k1) ?k2 ?_); (case k0 => k_asm); (case k1 => k_mem); (case k2 => k_is)) | ((with_reducible show StarOf _ _ _ (Value.ref _) _ _); k_dflt (refine' star_seq ?k1 ?k2 ?m ?c ?d ?T ?e ?z ?_; (case k1 => k_asm); (case k2 => k_asm); (case m => k_mem); (case c => exact rfl); (case d => exact rfl); (case T => exact .inl rfl); (case e => exact rfl); (case z => assumption); k_whole); intro _ _ _; (try k_sweep); try dsimp only [List.nil_append, List.cons_append]) | walk1 | (dsimp only; walk1) | (leave1; walk_say "STEP leave1"; try dsimp only) | fail "no step")))
  by_cases hev : (ck.fmod 2 == 0) = true
  · rw [if_pos hev]
    have hvz : (vals ds).toArray.size ≤ sizeLine := by rw [List.size_toArray, vals_len, sizeLine_eq]; omega
    (repeat' ((fail_if_success (with_reducible first | (refine at1 ?_ ?_; constructor) | (refine at3 ?_ ?_; constructor) | show @ite Prop _ _ _ _ | (refine at4 ?_ ?_; constructor) )); (first | ((with_reducible first | refine' b_clock ?N ?m ?d ?_ | refine' b_begun ?N ?m ?d ?_ | refine' b_hours ?N ?m ?d ?_ | refine' b_needs ?N ?m ?d ?_ ); (case N => assumption); (case m => first | assumption | (repeat (first | exact List.Mem.head _ | refine List.Mem.tail _ ?_))); (case d => assumption)) | ((with_reducible show wpAny _ _ (eval (Expr.Name _ _) (bEnv _)) _ _ _); refine' b_local ?F ?v ?_; (case F => assumption); (case v => (repeat (first | exact if_pos rfl | refine Eq.trans (if_neg (by decide)) ?_))))  | (k_unfold; (try dsimp only)) | (k_end; wrow_close) | (ks_star; (with_reducible show wpAny _ _ (eval (Expr.Call (Expr.Attribute _ _ _) _ [] _) _) _ _ _); refine methodCall_star ?_) | (ks_star; (with_reducible show wpAny _ _ (callWith _ (Value.ref _) _ _ _) _ _ _); (with_reducible rename News _ _ _ _ => nN'); k_dflt (first | refine' callWith_MS ?k0 (methIn nN' ?k1) ?k2 ?_ | refine' callWith_MS2 ?k0 (methIn nN' ?k1) ?k2 ?_); (case k0 => k_asm); (case k1 => k_mem); (case k2 => k_is)) | ((with_reducible show StarOf _ _ _ (Value.ref _) _ _); k_dflt (refine' star_seq ?k1 ?k2 ?m ?c ?d ?T ?e ?z ?_; (case k1 => k_asm); (case k2 => k_asm); (case m => k_mem); (case c => exact rfl); (case d => exact rfl); (case T => exact .inl rfl); (case e => exact rfl); (case z => assumption); k_whole); intro _ _ _; (try k_sweep); try dsimp only [List.nil_append, List.cons_append]) | walk1 | (dsimp only; walk1) | (leave1; walk_say "STEP leave1"; try dsimp only) | fail "no step")))
    rename Fr _ _ _ _ => F2
    rename News _ _ _ _ => N2
    refine call_meth N2 (.head _) ?_
    refine c_done (bx.cx (by decide) (by decide)) F2 (News.sub N2 fun p hp => .tail _ hp) K hr0 hds hk hB hsuc hout fun h3 t3 nodes' rs' rn' tf' F3 N3 K3 hsk hab _ => ?_
    clear F2 N2
    (repeat' ((fail_if_success (with_reducible first | (refine at1 ?_ ?_; constructor) | (refine at3 ?_ ?_; constructor) | show @ite Prop _ _ _ _ | (refine at4 ?_ ?_; constructor) )); (first | ((with_reducible first | refine' b_clock ?N ?m ?d ?_ | refine' b_begun ?N ?m ?d ?_ | refine' b_hours ?N ?m ?d ?_ | refine' b_needs ?N ?m ?d ?_ ); (case N => assumption); (case m => first | assumption | (repeat (first | exact List.Mem.head _ | refine List.Mem.tail _ ?_))); (case d => assumption)) | ((with_reducible show wpAny _ _ (eval (Expr.Name _ _) (bEnv _)) _ _ _); refine' b_local ?F ?v ?_; (case F => assumption); (case v => (repeat (first | exact if_pos rfl | refine Eq.trans (if_neg (by decide)) ?_))))  | (k_unfold; (try dsimp only)) | (k_end; wrow_close) | (ks_star; (with_reducible show wpAny _ _ (eval (Expr.Call (Expr.Attribute _ _ _) _ [] _) _) _ _ _); refine methodCall_star ?_) | (ks_star; (with_reducible show wpAny _ _ (callWith _ (Value.ref _) _ _ _) _ _ _); (with_reducible rename News _ _ _ _ => nN'); k_dflt (first | refine' callWith_MS ?k0 (methIn nN' ?k1) ?k2 ?_ | refine' callWith_MS2 ?k0 (methIn nN' ?k1) ?k2 ?_); (case k0 => k_asm); (case k1 => k_mem); (case k2 => k_is)) | ((with_reducible show StarOf _ _ _ (Value.ref _) _ _); k_dflt (refine' star_seq ?k1 ?k2 ?m ?c ?d ?T ?e ?z ?_; (case k1 => k_asm); (case k2 => k_asm); (case m => k_mem); (case c => exact rfl); (case d => exact rfl); (case T => exact .inl rfl); (case e => exact rfl); (case z => assumption); k_whole); intro _ _ _; (try k_sweep); try dsimp only [List.nil_append, List.cons_append]) | walk1 | (dsimp only; walk1) | (leave1; walk_say "STEP leave1"; try dsimp only) | fail "no step")))
    refine hQ1 _ _ ?_
    exact h _ _ _ nodes' rs' rn' tf' (Same.of_eq em.symm) F3 N3 K3 hsk hab
  · rw [if_neg hev]
    (repeat' ((fail_if_success (with_reducible first | (refine at1 ?_ ?_; constructor) | (refine at3 ?_ ?_; constructor) | show @ite Prop _ _ _ _ | (refine at4 ?_ ?_; constructor) )); (first | ((with_reducible first | refine' b_clock ?N ?m ?d ?_ | refine' b_begun ?N ?m ?d ?_ | refine' b_hours ?N ?m ?d ?_ | refine' b_needs ?N ?m ?d ?_ ); (case N => assumption); (case m => first | assumption | (repeat (first | exact List.Mem.head _ | refine List.Mem.tail _ ?_))); (case d => assumption)) | ((with_reducible show wpAny _ _ (eval (Expr.Name _ _) (bEnv _)) _ _ _); refine' b_local ?F ?v ?_; (case F => assumption); (case v => (repeat (first | exact if_pos rfl | refine Eq.trans (if_neg (by decide)) ?_))))  | (k_unfold; (try dsimp only)) | (k_end; wrow_close) | (ks_star; (with_reducible show wpAny _ _ (eval (Expr.Call (Expr.Attribute _ _ _) _ [] _) _) _ _ _); refine methodCall_star ?_) | (ks_star; (with_reducible show wpAny _ _ (callWith _ (Value.ref _) _ _ _) _ _ _); (with_reducible rename News _ _ _ _ => nN'); k_dflt (first | refine' callWith_MS ?k0 (methIn nN' ?k1) ?k2 ?_ | refine' callWith_MS2 ?k0 (methIn nN' ?k1) ?k2 ?_); (case k0 => k_asm); (case k1 => k_mem); (case k2 => k_is)) | ((with_reducible show StarOf _ _ _ (Value.ref _) _ _); k_dflt (refine' star_seq ?k1 ?k2 ?m ?c ?d ?T ?e ?z ?_; (case k1 => k_asm); (case k2 => k_asm); (case m => k_mem); (case c => exact rfl); (case d => exact rfl); (case T => exact .inl rfl); (case e => exact rfl); (case z => assumption); k_whole); intro _ _ _; (try k_sweep); try dsimp only [List.nil_append, List.cons_append]) | walk1 | (dsimp only; walk1) | (leave1; walk_say "STEP leave1"; try dsimp only) | fail "no step")))
    refine for_rule ?_
    (repeat' ((fail_if_success (with_reducible first | (refine at1 ?_ ?_; constructor) | (refine at3 ?_ ?_; constructor) | show @ite Prop _ _ _ _ | (refine at4 ?_ ?_; constructor) )); (first | ((with_reducible first | refine' b_clock ?N ?m ?d ?_ | refine' b_begun ?N ?m ?d ?_ | refine' b_hours ?N ?m ?d ?_ | refine' b_needs ?N ?m ?d ?_ ); (case N => assumption); (case m => first | assumption | (repeat (first | exact List.Mem.head _ | refine List.Mem.tail _ ?_))); (case d => assumption)) | ((with_reducible show wpAny _ _ (eval (Expr.Name _ _) (bEnv _)) _ _ _); refine' b_local ?F ?v ?_; (case F => assumption); (case v => (repeat (first | exact if_pos rfl | refine Eq.trans (if_neg (by decide)) ?_))))  | (k_unfold; (try dsimp only)) | (k_end; wrow_close) | (ks_star; (with_reducible show wpAny _ _ (eval (Expr.Call (Expr.Attribute _ _ _) _ [] _) _) _ _ _); refine methodCall_star ?_) | (ks_star; (with_reducible show wpAny _ _ (callWith _ (Value.ref _) _ _ _) _ _ _); (with_reducible rename News _ _ _ _ => nN'); k_dflt (first | refine' callWith_MS ?k0 (methIn nN' ?k1) ?k2 ?_ | refine' callWith_MS2 ?k0 (methIn nN' ?k1) ?k2 ?_); (case k0 => k_asm); (case k1 => k_mem); (case k2 => k_is)) | ((with_reducible show StarOf _ _ _ (Value.ref _) _ _); k_dflt (refine' star_seq ?k1 ?k2 ?m ?c ?d ?T ?e ?z ?_; (case k1 => k_asm); (case k2 => k_asm); (case m => k_mem); (case c => exact rfl); (case d => exact rfl); (case T => exact .inl rfl); (case e => exact rfl); (case z => assumption); k_whole); intro _ _ _; (try k_sweep); try dsimp only [List.nil_append, List.cons_append]) | walk1 | (dsimp only; walk1) | (leave1; walk_say "STEP leave1"; try dsimp only) | fail "no step")))
    refine iter_list (vs := vals ds) (n := e5) ["job"] (fun i m' nx => ∃ nodes2 rs2 rn2 tf2, nx = SL w c (.ref ra) np (nf + i) tp tf2 od (NN nodes2 ++ (ra, listOf (vals rs2).toArray rn2) :: rest) ∧
        SOK w c od nodes2 ((ra, listOf (vals rs2).toArray rn2) :: rest) ∧ sk nodes2 = sk nodes ∧ (absN nodes2, rs2.map (·.1)) = ((ds.map (·.1)).take i).foldl doneA (absN nodes, rs.map (·.1))) hh jv ?_ (fun _ _ => rfl) F N ⟨nodes, rs, rn, tf, by simp, K, rfl, rfl⟩ ?_ ?_
    · rintro i m' nx ⟨nodes2, rs2, rn2, tf2, rfl, _⟩
      exact .tail _ (.tail _ (.tail _ (List.mem_append_right _ (.tail _ iv))))
    · rintro i v mu nx h2 tk2 I io Qt hQt hvi ⟨nodes2, rs2, rn2, tf2, rfl, K2, hsk2, hab2⟩ hnI hltI F2 N2
      clear F N mR jc jv
      obtain ⟨p, hp, rfl⟩ := vals_get hvi
      have hi : i < ds.length := (List.getElem?_eq_some_iff.mp hp).1
      have hr2 : rs2.length ≤ 1000 := by have := hlen i; rw [← hab2] at this; simpa using this
      have K3 := K2.moreOff (o := io) hnI
      have K4 := K3.perm (List.Perm.swap (I, io) (ra, listOf (vals rs2).toArray rn2) rest)
      (repeat' ((fail_if_success (with_reducible first | (refine at1 ?_ ?_; constructor) | (refine at3 ?_ ?_; constructor) | show @ite Prop _ _ _ _ | (refine at4 ?_ ?_; constructor) )); (first | ((with_reducible first | refine' b_clock ?N ?m ?d ?_ | refine' b_begun ?N ?m ?d ?_ | refine' b_hours ?N ?m ?d ?_ | refine' b_needs ?N ?m ?d ?_ ); (case N => assumption); (case m => first | assumption | (repeat (first | exact List.Mem.head _ | refine List.Mem.tail _ ?_))); (case d => assumption)) | ((with_reducible show wpAny _ _ (eval (Expr.Name _ _) (bEnv _)) _ _ _); refine' b_local ?F ?v ?_; (case F => assumption); (case v => (repeat (first | exact if_pos rfl | refine Eq.trans (if_neg (by decide)) ?_))))  | (k_unfold; (try dsimp only)) | (k_end; wrow_close) | (ks_star; (with_reducible show wpAny _ _ (eval (Expr.Call (Expr.Attribute _ _ _) _ [] _) _) _ _ _); refine methodCall_star ?_) | (ks_star; (with_reducible show wpAny _ _ (callWith _ (Value.ref _) _ _ _) _ _ _); (with_reducible rename News _ _ _ _ => nN'); k_dflt (first | refine' callWith_MS ?k0 (methIn nN' ?k1) ?k2 ?_ | refine' callWith_MS2 ?k0 (methIn nN' ?k1) ?k2 ?_); (case k0 => k_asm); (case k1 => k_mem); (case k2 => k_is)) | ((with_reducible show StarOf _ _ _ (Value.ref _) _ _); k_dflt (refine' star_seq ?k1 ?k2 ?m ?c ?d ?T ?e ?z ?_; (case k1 => k_asm); (case k2 => k_asm); (case m => k_mem); (case c => exact rfl); (case d => exact rfl); (case T => exact .inl rfl); (case e => exact rfl); (case z => assumption); k_whole); intro _ _ _; (try k_sweep); try dsimp only [List.nil_append, List.cons_append]) | walk1 | (dsimp only; walk1) | (leave1; walk_say "STEP leave1"; try dsimp only) | fail "no step")))
      rename Fr _ _ _ _ => F3
      rename News _ _ _ _ => N3
      refine wpAny_call ?_
      refine c_done (ds := [p]) (rest := (I, io) :: rest) (bx.cx (by decide) (by decide)) F3 (News.sub N3 SL_in2) K4 hr2 (by simp) (fun q hq => ?_) (BA_sk hsk2 hB) (suc_sk hsk2 hsuc) (fun j d hj => ?_) fun h4 t4 nodes' rs' rn' tf' F4 N4 K5 hsk hab _ => ?_
      · rw [List.mem_singleton.mp hq, sk_keys hsk2]
        exact hk p (List.mem_of_getElem? hp)
      · cases j with
        | succ j => simp at hj
        | zero =>
          have hd : p.1 = d := by simpa using hj
          subst hd
          have := hout i p.1 (by rw [List.getElem?_map, hp]; rfl)
          rw [← hab2] at this
          exact this
      clear F3 N3
      (repeat' ((fail_if_success (with_reducible first | (refine at1 ?_ ?_; constructor) | (refine at3 ?_ ?_; constructor) | show @ite Prop _ _ _ _ | (refine at4 ?_ ?_; constructor) )); (first | ((with_reducible first | refine' b_clock ?N ?m ?d ?_ | refine' b_begun ?N ?m ?d ?_ | refine' b_hours ?N ?m ?d ?_ | refine' b_needs ?N ?m ?d ?_ ); (case N => assumption); (case m => first | assumption | (repeat (first | exact List.Mem.head _ | refine List.Mem.tail _ ?_))); (case d => assumption)) | ((with_reducible show wpAny _ _ (eval (Expr.Name _ _) (bEnv _)) _ _ _); refine' b_local ?F ?v ?_; (case F => assumption); (case v => (repeat (first | exact if_pos rfl | refine Eq.trans (if_neg (by decide)) ?_))))  | (k_unfold; (try dsimp only)) | (k_end; wrow_close) | (ks_star; (with_reducible show wpAny _ _ (eval (Expr.Call (Expr.Attribute _ _ _) _ [] _) _) _ _ _); refine methodCall_star ?_) | (ks_star; (with_reducible show wpAny _ _ (callWith _ (Value.ref _) _ _ _) _ _ _); (with_reducible rename News _ _ _ _ => nN'); k_dflt (first | refine' callWith_MS ?k0 (methIn nN' ?k1) ?k2 ?_ | refine' callWith_MS2 ?k0 (methIn nN' ?k1) ?k2 ?_); (case k0 => k_asm); (case k1 => k_mem); (case k2 => k_is)) | ((with_reducible show StarOf _ _ _ (Value.ref _) _ _); k_dflt (refine' star_seq ?k1 ?k2 ?m ?c ?d ?T ?e ?z ?_; (case k1 => k_asm); (case k2 => k_asm); (case m => k_mem); (case c => exact rfl); (case d => exact rfl); (case T => exact .inl rfl); (case e => exact rfl); (case z => assumption); k_whole); intro _ _ _; (try k_sweep); try dsimp only [List.nil_append, List.cons_append]) | walk1 | (dsimp only; walk1) | (leave1; walk_say "STEP leave1"; try dsimp only) | fail "no step")))
      refine hQt _ _ (TurnP.next F4 N4 (fun q hq => SL_out2 q hq) (fun q hq => ?_) ⟨Same.put' same_of_mm, nodes', rs', rn', tf', ?_, (K5.perm (List.Perm.swap _ _ _)).less, hsk.trans hsk2, ?_⟩)
      · exact (K5.perm (List.Perm.swap _ _ _)).off q hq
      · have e : nf + (i : Int) + (([p] : List (Int × Tok)).length : Nat) = nf + ((i + 1 : Nat) : Int) := by simp; omega
        rw [e]
      · rw [hab, List.take_add_one, List.getElem?_map, hp, List.foldl_append, ← hab2]; rfl
    · rintro mu nx h2 tk2 ⟨nodes2, rs2, rn2, tf2, rfl, K2, hsk2, hab2⟩ F2 N2
      rw [vals_len] at hab2 N2
      rw [List.take_of_length_le (by simp)] at hab2
      dsimp only
      clear F N
      (repeat' ((fail_if_success (with_reducible first | (refine at1 ?_ ?_; constructor) | (refine at3 ?_ ?_; constructor) | show @ite Prop _ _ _ _ | (refine at4 ?_ ?_; constructor) )); (first | ((with_reducible first | refine' b_clock ?N ?m ?d ?_ | refine' b_begun ?N ?m ?d ?_ | refine' b_hours ?N ?m ?d ?_ | refine' b_needs ?N ?m ?d ?_ ); (case N => assumption); (case m => first | assumption | (repeat (first | exact List.Mem.head _ | refine List.Mem.tail _ ?_))); (case d => assumption)) | ((with_reducible show wpAny _ _ (eval (Expr.Name _ _) (bEnv _)) _ _ _); refine' b_local ?F ?v ?_; (case F => assumption); (case v => (repeat (first | exact if_pos rfl | refine Eq.trans (if_neg (by decide)) ?_))))  | (k_unfold; (try dsimp only)) | (k_end; wrow_close) | (ks_star; (with_reducible show wpAny _ _ (eval (Expr.Call (Expr.Attribute _ _ _) _ [] _) _) _ _ _); refine methodCall_star ?_) | (ks_star; (with_reducible show wpAny _ _ (callWith _ (Value.ref _) _ _ _) _ _ _); (with_reducible rename News _ _ _ _ => nN'); k_dflt (first | refine' callWith_MS ?k0 (methIn nN' ?k1) ?k2 ?_ | refine' callWith_MS2 ?k0 (methIn nN' ?k1) ?k2 ?_); (case k0 => k_asm); (case k1 => k_mem); (case k2 => k_is)) | ((with_reducible show StarOf _ _ _ (Value.ref _) _ _); k_dflt (refine' star_seq ?k1 ?k2 ?m ?c ?d ?T ?e ?z ?_; (case k1 => k_asm); (case k2 => k_asm); (case m => k_mem); (case c => exact rfl); (case d => exact rfl); (case T => exact .inl rfl); (case e => exact rfl); (case z => assumption); k_whole); intro _ _ _; (try k_sweep); try dsimp only [List.nil_append, List.cons_append]) | walk1 | (dsimp only; walk1) | (leave1; walk_say "STEP leave1"; try dsimp only) | fail "no step")))
      refine hQ1 _ _ ?_
      exact h _ _ _ nodes2 rs2 rn2 tf2 (same_of_mm.trans (Same.of_eq em.symm)) F2 N2 K2 hsk2 hab2
end
/-! part P1 -/
set_option maxHeartbeats 1000000
set_option maxHeartbeats 1000000
/-! the sorter's numbers, plain -/
section
variable {A : List (Int × Int × List Int)} {k j : Int} {f : Int × List Int → Int × List Int}
theorem fnd_mod : (modA k f A).find? (fun x => decide (x.1 = j)) = (A.find? (fun x => decide (x.1 = j))).map fun x => if x.1 = k then (x.1, f x.2) else x := by
  unfold modA
  rw [List.find?_map]
  congr 2
  funext x
  simp only [Function.comp_apply]
  split <;> rfl
theorem fnd_key (h : j ∈ A.map (·.1)) : ∃ x, A.find? (fun x => decide (x.1 = j)) = some x ∧ x.1 = j := by
  obtain ⟨y, hy, e⟩ := List.mem_map.mp h
  cases hf : A.find? (fun x => decide (x.1 = j)) with
  | none =>
    have := List.find?_eq_none.mp hf y hy
    simp [e] at this
  | some x =>
    have := List.find?_some hf
    exact ⟨x, rfl, by simpa using this⟩
theorem fnd_eq {x : Int × Int × List Int} (h : A.find? (fun x => decide (x.1 = j)) = some x) : x.1 = j := by
  have := List.find?_some h
  simpa using this
theorem np_mod_ne (h : j ≠ k) : npA (modA k f A) j = npA A j := by
  unfold npA
  rw [fnd_mod]
  cases hf : A.find? (fun x => decide (x.1 = j)) with
  | none => rfl
  | some x =>
    have := fnd_eq hf
    rw [Option.map_some, if_neg (by rw [this]; exact h)]
theorem np_mod_eq {F : Int → Int} (hk : k ∈ A.map (·.1)) (hF : ∀ x, (f x).1 = F x.1) : npA (modA k f A) k = F (npA A k) := by
  obtain ⟨x, hx, e⟩ := fnd_key hk
  unfold npA
  rw [fnd_mod, hx, Option.map_some, if_pos e]
  exact hF _
theorem suc_mod (hf : ∀ x, (f x).2 = x.2) : sucA (modA k f A) j = sucA A j := by
  unfold sucA
  rw [fnd_mod]
  cases A.find? (fun x => decide (x.1 = j)) with
  | none => rfl
  | some x =>
    rw [Option.map_some]
    by_cases e : x.1 = k
    · rw [if_pos e]; show (f x.2).2 = x.2.2; exact hf _
    · rw [if_neg e]
theorem keys_mod : (modA k f A).map (·.1) = A.map (·.1) := by
  unfold modA
  rw [List.map_map]
  apply List.map_congr_left
  intro x _
  simp only [Function.comp_apply]
  split <;> rfl
end
section
variable {A : List (Int × Int × List Int)}
structure OutF (ks : List Int) (A r : List (Int × Int × List Int)) : Prop where
  i1 : r.map (·.1) = A.map (·.1)
  i2 : ∀ j, sucA r j = sucA A j
  i3 : ∀ j ∈ ks, npA r j = -1
  i4 : ∀ j, j ∉ ks → npA r j = npA A j
theorem out_facts : ∀ (ks : List Int) (A : List (Int × Int × List Int)), (∀ k ∈ ks, k ∈ A.map (·.1)) → OutF ks A (outA ks A)
  | [], A, _ => ⟨rfl, fun _ => rfl, (fun _ h => nomatch h), fun _ _ => rfl⟩
  | k :: ks, A, h => by
    have hk := h k (.head _)
    obtain ⟨i1, i2, i3, i4⟩ := out_facts ks (modA k (fun x => (-1, x.2)) A) (fun j hj => by rw [keys_mod]; exact h j (.tail _ hj))
    have e : outA (k :: ks) A = outA ks (modA k (fun x => (-1, x.2)) A) := rfl
    rw [e]
    refine ⟨i1.trans keys_mod, fun j => (i2 j).trans (suc_mod fun _ => rfl), fun j hj => ?_, fun j hj => ?_⟩
    · by_cases hm : j ∈ ks
      · exact i3 j hm
      · rcases List.mem_cons.mp hj with rfl | hj
        · rw [i4 j hm]; exact np_mod_eq (F := fun _ => -1) hk fun _ => rfl
        · exact absurd hj hm
    · rw [i4 j fun q => hj (.tail _ q)]
      exact np_mod_ne fun e => hj (e ▸ .head _)
/-- the successors told off, one by one -/
structure StepF (l : List Int) (A : List (Int × Int × List Int)) (rs : List Int) (r : List (Int × Int × List Int) × List Int) : Prop where
  i1 : r.1.map (·.1) = A.map (·.1)
  i2 : ∀ j, sucA r.1 j = sucA A j
  i3 : ∀ j, j ∈ A.map (·.1) → npA r.1 j = npA A j - l.count j
  i4 : ∀ j, j ∈ r.2 ↔ j ∈ rs ∨ (j ∈ l ∧ 1 ≤ npA A j ∧ npA A j ≤ l.count j)
  i5 : r.2.Nodup
theorem steps_facts : ∀ (l : List Int) (A : List (Int × Int × List Int)) (rs : List Int), (∀ k ∈ l, k ∈ A.map (·.1)) → rs.Nodup → (∀ k ∈ rs, npA A k ≤ 0) → StepF l A rs (l.foldl doneStep (A, rs))
  | [], A, rs, _, hn, _ => ⟨rfl, fun _ => rfl, fun j _ => by simp, fun j => by simp, hn⟩
  | k :: l, A, rs, h, hn, h0 => by
    have hk := h k (.head _)
    rw [List.foldl_cons]
    have np1 : npA (modA k (fun x => (x.1 - 1, x.2)) A) k = npA A k - 1 := np_mod_eq (F := fun v => v - 1) hk fun _ => rfl
    have npo : ∀ j, j ≠ k → npA (modA k (fun x => (x.1 - 1, x.2)) A) j = npA A j := fun j hj => np_mod_ne hj
    have npl : ∀ j, npA (modA k (fun x => (x.1 - 1, x.2)) A) j ≤ npA A j := fun j => by
      by_cases e : j = k
      · subst e; rw [np1]; omega
      · rw [npo j e]; exact Int.le_refl _
    have hst : doneStep (A, rs) k = (modA k (fun x => (x.1 - 1, x.2)) A, if npA A k - 1 = 0 then rs ++ [k] else rs) := rfl
    rw [hst]
    by_cases e1 : npA A k - 1 = 0
    · rw [if_pos e1]
      have hkr : k ∉ rs := fun q => by have := h0 k q; omega
      obtain ⟨i1, i2, i3, i4, i5⟩ := steps_facts l (modA k (fun x => (x.1 - 1, x.2)) A) (rs ++ [k]) (fun j hj => by rw [keys_mod]; exact h j (.tail _ hj))
        (List.nodup_append.mpr ⟨hn, by simp, fun a ha b hb e => hkr (by rw [← List.mem_singleton.mp hb, ← e]; exact ha)⟩)
        (fun j hj => by
          rcases List.mem_append.mp hj with hj | hj
          · exact Int.le_trans (npl j) (h0 j hj)
          · rw [List.mem_singleton.mp hj, np1]; omega)
      refine ⟨i1.trans keys_mod, fun j => (i2 j).trans (suc_mod fun _ => rfl), fun j hj => ?_, fun j => ?_, i5⟩
      · rw [i3 j (by rw [keys_mod]; exact hj), List.count_cons]
        by_cases e : j = k
        · subst e; rw [np1]; simp; omega
        · rw [npo j e]; simp [Ne.symm e]
      · rw [i4 j, List.mem_append, List.mem_singleton, List.mem_cons, List.count_cons]
        by_cases e : j = k
        · subst e; rw [np1]; simp; omega
        · rw [npo j e]; simp [e, Ne.symm e]
    · rw [if_neg e1]
      obtain ⟨i1, i2, i3, i4, i5⟩ := steps_facts l (modA k (fun x => (x.1 - 1, x.2)) A) rs (fun j hj => by rw [keys_mod]; exact h j (.tail _ hj)) hn
        (fun j hj => Int.le_trans (npl j) (h0 j hj))
      refine ⟨i1.trans keys_mod, fun j => (i2 j).trans (suc_mod fun _ => rfl), fun j hj => ?_, fun j => ?_, i5⟩
      · rw [i3 j (by rw [keys_mod]; exact hj), List.count_cons]
        by_cases e : j = k
        · subst e; rw [np1]; simp; omega
        · rw [npo j e]; simp [Ne.symm e]
      · rw [i4 j, List.mem_cons, List.count_cons]
        by_cases e : j = k
        · subst e; rw [np1]
          simp only [beq_self_eq_true, if_true, true_or, true_and]
          constructor
          · rintro (q | ⟨_, q1, q2⟩)
            · exact .inl q
            · exact .inr ⟨by omega, by omega⟩
          · rintro (q | ⟨q1, q2⟩)
            · exact .inl q
            · refine .inr ⟨?_, by omega, by omega⟩
              exact List.count_pos_iff.mp (by omega)
        · rw [npo j e]; simp [e, Ne.symm e]
end
/-! part P2 -/
set_option maxHeartbeats 1000000
set_option maxHeartbeats 1000000
/-- what stands fast of the graph: all jobs, who waits for whom -/
structure GOK (n : Nat) (needs : Int → List Int) (A : List (Int × Int × List Int)) : Prop where
  keys : ∀ k : Int, k ∈ A.map (·.1) ↔ 0 ≤ k ∧ k < n
  sin : ∀ a : Int, ∀ j ∈ sucA A a, 0 ≤ j ∧ j < n
  cnt : ∀ a j : Int, 0 ≤ a → a < n → 0 ≤ j → j < n → (sucA A a).count j = (needs j).count a
  low : ∀ j : Int, 0 ≤ j → j < n → ∀ a ∈ needs j, 0 ≤ a ∧ a < j
theorem GOK.same {n : Nat} {needs : Int → List Int} {A A' : List (Int × Int × List Int)} (h : GOK n needs A) (e1 : A'.map (·.1) = A.map (·.1)) (e2 : ∀ j, sucA A' j = sucA A j) : GOK n needs A' :=
  ⟨fun k => by rw [e1]; exact h.keys k, fun a j hj => h.sin a j (e2 a ▸ hj), fun a j h1 h2 h3 h4 => by rw [e2]; exact h.cnt a j h1 h2 h3 h4, h.low⟩
/-- how far the sorter has come: D done, P handed out and not done -/
structure Dyn (n : Nat) (needs : Int → List Int) (A : List (Int × Int × List Int)) (rs D P : List Int) : Prop where
  d : ∀ k ∈ D, npA A k = -2
  p : ∀ k ∈ P, npA A k = -1
  u : ∀ k : Int, 0 ≤ k → k < n → k ∉ D → k ∉ P → npA A k = ((needs k).filter fun a => decide (a ∉ D)).length
  r : ∀ k : Int, k ∈ rs ↔ 0 ≤ k ∧ k < n ∧ k ∉ D ∧ k ∉ P ∧ ∀ a ∈ needs k, a ∈ D
  rnd : rs.Nodup
  nd : (D ++ P).Nodup
  rng : ∀ k ∈ D ++ P, 0 ≤ k ∧ k < n
  nds : ∀ k ∈ D ++ P, ∀ a ∈ needs k, a ∈ D
theorem flt_zero {l D : List Int} : (l.filter fun a => decide (a ∉ D)).length = 0 ↔ ∀ a ∈ l, a ∈ D := by
  rw [List.length_eq_zero_iff, List.filter_eq_nil_iff]
  simp
theorem flt_count (d : Int) (D : List Int) (hd : d ∉ D) : ∀ l : List Int, (l.filter fun a => decide (a ∉ D)).length = (l.filter fun a => decide (a ∉ d :: D)).length + l.count d
  | [] => rfl
  | a :: l => by
    have ih := flt_count d D hd l
    rw [List.filter_cons, List.filter_cons, List.count_cons]
    by_cases e : a = d
    · subst e
      simp [hd]
      simp at ih
      omega
    · by_cases h : a ∈ D
      · simp [h, e]
        simp at ih
        exact ih
      · simp [h, e]
        simp at ih
        omega
theorem Dyn.perm {n : Nat} {needs : Int → List Int} {A : List (Int × Int × List Int)} {rs D P P' : List Int} (h : Dyn n needs A rs D P) (e : P'.Perm P) : Dyn n needs A rs D P' := by
  have m : ∀ k, k ∈ P' ↔ k ∈ P := fun k => e.mem_iff
  have m2 : ∀ k, k ∈ D ++ P' ↔ k ∈ D ++ P := fun k => by rw [List.mem_append, List.mem_append, m]
  exact ⟨h.d, fun k hk => h.p k ((m k).mp hk), fun k a b c d => h.u k a b c fun q => d ((m k).mpr q), fun k => by rw [h.r k, m], h.rnd, (List.Perm.append_left D e).nodup_iff.mpr h.nd, fun k hk => h.rng k ((m2 k).mp hk), fun k hk => h.nds k ((m2 k).mp hk)⟩
/-- get_ready -/
theorem Dyn.out {n : Nat} {needs : Int → List Int} {A : List (Int × Int × List Int)} {rs D P : List Int} (G : GOK n needs A) (h : Dyn n needs A rs D P) : GOK n needs (outA rs A) ∧ Dyn n needs (outA rs A) [] D (P ++ rs) := by
  have hin : ∀ k ∈ rs, k ∈ A.map (·.1) := fun k hk => (G.keys k).mpr ⟨((h.r k).mp hk).1, ((h.r k).mp hk).2.1⟩
  obtain ⟨i1, i2, i3, i4⟩ := out_facts rs A hin
  have hD : ∀ k ∈ D, k ∉ rs := fun k hk q => ((h.r k).mp q).2.2.1 hk
  have hP : ∀ k ∈ P, k ∉ rs := fun k hk q => ((h.r k).mp q).2.2.2.1 hk
  refine ⟨G.same i1 i2, fun k hk => (i4 k (hD k hk)).trans (h.d k hk), fun k hk => ?_, fun k h1 h2 h3 h4 => ?_, fun k => ?_, List.nodup_nil, ?_, fun k hk => ?_, fun k hk => ?_⟩
  · by_cases e : k ∈ rs
    · exact i3 k e
    · rcases List.mem_append.mp hk with q | q
      · exact (i4 k e).trans (h.p k q)
      · exact absurd q e
  · have e : k ∉ rs := fun q => h4 (List.mem_append_right _ q)
    rw [i4 k e]
    exact h.u k h1 h2 h3 fun q => h4 (List.mem_append_left _ q)
  · constructor
    · intro q; cases q
    · rintro ⟨h1, h2, h3, h4, h5⟩
      exact absurd (List.mem_append_right _ ((h.r k).mpr ⟨h1, h2, h3, fun q => h4 (List.mem_append_left _ q), h5⟩)) h4
  · rw [← List.append_assoc]
    refine List.nodup_append.mpr ⟨h.nd, h.rnd, fun a ha b hb e => ?_⟩
    subst e
    rcases List.mem_append.mp ha with q | q
    · exact hD a q hb
    · exact hP a q hb
  · rw [← List.append_assoc] at hk
    rcases List.mem_append.mp hk with q | q
    · exact h.rng k q
    · exact ⟨((h.r k).mp q).1, ((h.r k).mp q).2.1⟩
  · rw [← List.append_assoc] at hk
    rcases List.mem_append.mp hk with q | q
    · exact h.nds k q
    · exact ((h.r k).mp q).2.2.2.2
/-- done of one job -/
theorem Dyn.done1 {n : Nat} {needs : Int → List Int} {A : List (Int × Int × List Int)} {rs D P : List Int} {d : Int} (G : GOK n needs A) (h : Dyn n needs A rs D (d :: P)) :
    GOK n needs (doneA (A, rs) d).1 ∧ Dyn n needs (doneA (A, rs) d).1 (doneA (A, rs) d).2 (d :: D) P ∧ (∀ k ∈ (doneA (A, rs) d).2, k ∈ rs ∨ d ∈ needs k) := by
  have hdin := h.rng d (List.mem_append_right _ (.head _))
  have hdk : d ∈ A.map (·.1) := (G.keys d).mpr hdin
  have nd := List.nodup_append.mp h.nd
  have hdD : d ∉ D := fun q => nd.2.2 d q d (.head _) rfl
  have hdP : d ∉ P := (List.nodup_cons.mp nd.2.1).1
  have hnP : P.Nodup := (List.nodup_cons.mp nd.2.1).2
  have npd : ∀ j, j ≠ d → npA (modA d (fun x => (-2, x.2)) A) j = npA A j := fun j hj => np_mod_ne hj
  have npdd : npA (modA d (fun x => (-2, x.2)) A) d = -2 := np_mod_eq (F := fun _ => -2) hdk fun _ => rfl
  have hrd : d ∉ rs := fun q => ((h.r d).mp q).2.2.2.1 (.head _)
  obtain ⟨i1, i2, i3, i4, i5⟩ := steps_facts (sucA A d) (modA d (fun x => (-2, x.2)) A) rs (fun k hk => by rw [keys_mod]; exact (G.keys k).mpr (G.sin d k hk)) h.rnd (fun k hk => by
    have hk' := (h.r k).mp hk
    rw [npd k (fun e => hrd (e ▸ hk)), h.u k hk'.1 hk'.2.1 hk'.2.2.1 hk'.2.2.2.1, flt_zero.mpr hk'.2.2.2.2]
    exact Int.le_refl _)
  have eD : doneA (A, rs) d = (sucA A d).foldl doneStep (modA d (fun x => (-2, x.2)) A, rs) := rfl
  rw [eD]
  have G' : GOK n needs ((sucA A d).foldl doneStep (modA d (fun x => (-2, x.2)) A, rs)).1 := G.same (i1.trans keys_mod) fun j => (i2 j).trans (suc_mod fun _ => rfl)
  have np' : ∀ j : Int, 0 ≤ j → j < n → npA ((sucA A d).foldl doneStep (modA d (fun x => (-2, x.2)) A, rs)).1 j = npA (modA d (fun x => (-2, x.2)) A) j - (needs j).count d := fun j h1 h2 => by
    rw [i3 j (by rw [keys_mod]; exact (G.keys j).mpr ⟨h1, h2⟩), G.cnt d j hdin.1 hdin.2 h1 h2]
  have c0 : ∀ k : Int, (∀ a ∈ needs k, a ∈ D) → (needs k).count d = 0 := fun k hk => List.count_eq_zero.mpr fun q => hdD (hk d q)
  have dpos : ∀ k : Int, 0 ≤ k → k < n → k ∉ D → k ∉ d :: P → npA (modA d (fun x => (-2, x.2)) A) k = ((needs k).filter fun a => decide (a ∉ d :: D)).length + (needs k).count d := fun k h1 h2 h3 h4 => by
    rw [npd k fun e => h4 (e ▸ .head _), h.u k h1 h2 h3 h4, flt_count d D hdD (needs k)]
    simp
  refine ⟨G', ⟨fun k hk => ?_, fun k hk => ?_, fun k h1 h2 h3 h4 => ?_, fun k => ?_, i5, ?_, ?_, fun k hk => ?_⟩, fun k hk => ?_⟩
  · rcases List.mem_cons.mp hk with e | hk
    · subst e
      rw [np' k hdin.1 hdin.2, npdd, c0 k (h.nds k (List.mem_append_right _ (.head _)))]; rfl
    · have hr := h.rng k (List.mem_append_left _ hk)
      rw [np' k hr.1 hr.2, npd k (fun e => hdD (e ▸ hk)), h.d k hk, c0 k (h.nds k (List.mem_append_left _ hk))]; rfl
  · have hr := h.rng k (List.mem_append_right _ (.tail _ hk))
    rw [np' k hr.1 hr.2, npd k (fun e => hdP (e ▸ hk)), h.p k (.tail _ hk), c0 k (h.nds k (List.mem_append_right _ (.tail _ hk)))]; rfl
  · have hkd : k ≠ d := fun e => h3 (e ▸ .head _)
    have h3' : k ∉ D := fun q => h3 (.tail _ q)
    have h4' : k ∉ d :: P := fun q => by
      rcases List.mem_cons.mp q with e | q
      · exact hkd e
      · exact h4 q
    rw [np' k h1 h2, dpos k h1 h2 h3' h4']
    omega
  · rw [i4 k]
    constructor
    · rintro (q | ⟨q1, q2, q3⟩)
      · have hk := (h.r k).mp q
        refine ⟨hk.1, hk.2.1, fun e => ?_, fun e => hk.2.2.2.1 (.tail _ e), fun a ha => .tail _ (hk.2.2.2.2 a ha)⟩
        rcases List.mem_cons.mp e with e | e
        · exact hk.2.2.2.1 (e ▸ .head _)
        · exact hk.2.2.1 e
      · have hr := G.sin d k q1
        have hkd : k ≠ d := fun e => by rw [e, npdd] at q2; omega
        have h3 : k ∉ D := fun e => by rw [npd k hkd, h.d k e] at q2; omega
        have h4 : k ∉ d :: P := fun e => by rw [npd k hkd, h.p k e] at q2; omega
        refine ⟨hr.1, hr.2, fun e => ?_, fun e => h4 (.tail _ e), ?_⟩
        · rcases List.mem_cons.mp e with e | e
          · exact hkd e
          · exact h3 e
        · rw [dpos k hr.1 hr.2 h3 h4, G.cnt d k hdin.1 hdin.2 hr.1 hr.2] at q3
          exact flt_zero.mp (by omega)
    · rintro ⟨h1, h2, h3, h4, h5⟩
      have hkd : k ≠ d := fun e => h3 (e ▸ .head _)
      have h3' : k ∉ D := fun q => h3 (.tail _ q)
      have h4' : k ∉ d :: P := fun q => by
        rcases List.mem_cons.mp q with e | q
        · exact hkd e
        · exact h4 q
      have hz := flt_zero.mpr h5
      by_cases hc : d ∈ needs k
      · have hcp : 0 < (needs k).count d := List.count_pos_iff.mpr hc
        refine .inr ⟨?_, ?_, ?_⟩
        · exact List.count_pos_iff.mp (by rw [G.cnt d k hdin.1 hdin.2 h1 h2]; exact hcp)
        · rw [dpos k h1 h2 h3' h4', hz]; omega
        · rw [dpos k h1 h2 h3' h4', hz, G.cnt d k hdin.1 hdin.2 h1 h2]; omega
      · refine .inl ((h.r k).mpr ⟨h1, h2, h3', h4', fun a ha => ?_⟩)
        rcases List.mem_cons.mp (h5 a ha) with e | q
        · exact absurd (e ▸ ha) hc
        · exact q
  · exact (List.perm_middle.nodup_iff.mp h.nd)
  · intro k hk
    exact h.rng k (List.perm_middle.mem_iff.mpr hk)
  · have := h.nds k (List.perm_middle.mem_iff.mpr hk)
    exact fun a ha => .tail _ (this a ha)
  · rcases (i4 k).mp hk with q | ⟨q, _, _⟩
    · exact .inl q
    · have hr := G.sin d k q
      refine .inr (List.count_pos_iff.mp ?_)
      rw [← G.cnt d k hdin.1 hdin.2 hr.1 hr.2]
      exact List.count_pos_iff.mpr q
theorem len_rng {n : Nat} {l : List Int} (hn : l.Nodup) (h : ∀ x ∈ l, 0 ≤ x ∧ x < n) : l.length ≤ n := by
  have hs := len_sub (r := (List.range n).map (fun i : Nat => (i : Int))) hn (fun x hx => by
    have hx' := h x hx
    exact List.mem_map.mpr ⟨x.toNat, List.mem_range.mpr (by omega), by omega⟩)
  simpa using hs
/-- done of several jobs -/
theorem Dyn.done {n : Nat} {needs : Int → List Int} : ∀ (ds : List Int) {A : List (Int × Int × List Int)} {rs D P : List Int}, GOK n needs A → Dyn n needs A rs D (ds ++ P) →
    (∀ i d, ds[i]? = some d → npA ((ds.take i).foldl doneA (A, rs)).1 d = -1) ∧ GOK n needs (ds.foldl doneA (A, rs)).1 ∧ Dyn n needs (ds.foldl doneA (A, rs)).1 (ds.foldl doneA (A, rs)).2 (ds.reverse ++ D) P ∧
      (∀ k ∈ (ds.foldl doneA (A, rs)).2, k ∈ rs ∨ ∃ d ∈ ds, d ∈ needs k) ∧ ∀ i, ((ds.take i).foldl doneA (A, rs)).2.length ≤ n
  | [], A, rs, D, P, G, h => ⟨(fun _ _ h => by simp at h), G, h, fun k hk => .inl hk, fun i => by
      rw [List.take_nil]
      exact len_rng h.rnd fun x hx => ⟨((h.r x).mp hx).1, ((h.r x).mp hx).2.1⟩⟩
  | d :: ds, A, rs, D, P, G, h => by
    obtain ⟨g1, g2, g3⟩ := Dyn.done1 (P := ds ++ P) G h
    obtain ⟨i1, i2, i3, i4, i5⟩ := Dyn.done ds g1 g2
    refine ⟨fun i e hi => ?_, i2, ?_, fun k hk => ?_, fun i => ?_⟩
    · cases i with
      | zero =>
        have : d = e := by simpa using hi
        subst this
        exact h.p d (.head _)
      | succ i =>
        rw [List.take_succ_cons, List.foldl_cons]
        exact i1 i e (by simpa using hi)
    · rw [List.reverse_cons, List.append_assoc]
      exact i3
    · rcases i4 k hk with q | ⟨x, hx, hn⟩
      · rcases g3 k q with q | q
        · exact .inl q
        · exact .inr ⟨d, .head _, q⟩
      · exact .inr ⟨x, .tail _ hx, hn⟩
    · cases i with
      | zero =>
        exact len_rng h.rnd fun x hx => ⟨((h.r x).mp hx).1, ((h.r x).mp hx).2.1⟩
      | succ i => rw [List.take_succ_cons, List.foldl_cons]; exact i5 i
/-! part P3 -/
set_option maxHeartbeats 1000000
set_option maxHeartbeats 1000000
theorem gI_set {l : List Int} {k j v : Int} (hk : 0 ≤ k) (hj : 0 ≤ j) (hl : k < l.length) : gI (l.set k.toNat v) j = if j = k then v else gI l j := by
  unfold gI
  rw [List.getD_eq_getElem?_getD, List.getD_eq_getElem?_getD, List.getElem?_set]
  by_cases e : j = k
  · subst e
    rw [if_pos rfl, if_pos rfl, if_pos (by omega)]; rfl
  · rw [if_neg (by omega), if_neg e]
theorem fold_len (v : Int) : ∀ (ts l : List Int), (ts.foldl (fun l t => l.set t.toNat v) l).length = l.length
  | [], _ => rfl
  | t :: ts, l => by rw [List.foldl_cons, fold_len v ts, List.length_set]
theorem gI_fold (v : Int) : ∀ (ts l : List Int), (∀ t ∈ ts, 0 ≤ t ∧ t < l.length) → ∀ j : Int, 0 ≤ j → gI (ts.foldl (fun l t => l.set t.toNat v) l) j = if j ∈ ts then v else gI l j
  | [], _, _, _, _ => by simp
  | t :: ts, l, h, j, hj => by
    have ht := h t (.head _)
    rw [List.foldl_cons, gI_fold v ts (l.set t.toNat v) (fun x hx => by rw [List.length_set]; exact h x (.tail _ hx)) j hj, gI_set ht.1 hj ht.2]
    by_cases e : j = t
    · subst e; simp
    · simp [e]
def runL (bs hs l : List Int) (t : Int) : Nat := (l.filter fun i => decide (gI bs i ≤ t ∧ t < gI bs i + gI hs i)).length
theorem runL_append (bs hs l r : List Int) (t : Int) : runL bs hs (l ++ r) t = runL bs hs l t + runL bs hs r t := by unfold runL; rw [List.filter_append, List.length_append]
theorem runL_perm {bs hs l r : List Int} {t : Int} (h : l.Perm r) : runL bs hs l t = runL bs hs r t := (h.filter _).length_eq
theorem runL_congr {bs bs' hs l : List Int} {t : Int} (h : ∀ i ∈ l, gI bs' i = gI bs i) : runL bs' hs l t = runL bs hs l t := by
  unfold runL
  rw [List.filter_congr (q := fun i => decide (gI bs i ≤ t ∧ t < gI bs i + gI hs i))]
  intro i hi
  rw [h i hi]
theorem runL_all {bs hs l : List Int} {t : Int} (h : ∀ i ∈ l, gI bs i ≤ t ∧ t < gI bs i + gI hs i) : runL bs hs l t = l.length := by
  unfold runL
  rw [List.filter_eq_self.mpr fun i hi => by simpa using h i hi]
/-- the state of the clock's run, at the head of a turn -/
structure SI (n : Nat) (needs : Int → List Int) (hs : List Int) (W : Int) (bs ys ws D rs : List Int) (ck : Int) : Prop where
  len : bs.length = n
  ck0 : 0 ≤ ck
  bd : ∀ j ∈ D ++ ys, 0 ≤ gI bs j ∧ gI bs j ≤ ck
  dE : ∀ j ∈ D, gI bs j + gI hs j ≤ ck
  yE : ∀ j ∈ ys, ck ≤ gI bs j + gI hs j
  p1 : ∀ j ∈ D ++ ys, ∀ a ∈ needs j, gI bs a + gI hs a ≤ gI bs j
  cs : ∀ j ∈ D ++ ys, ∀ t, 0 ≤ t → (∀ a ∈ needs j, gI bs a + gI hs a ≤ t) → t < gI bs j → W ≤ runL bs hs (D ++ ys) t
  cw : ∀ j ∈ ws, ∀ t, 0 ≤ t → (∀ a ∈ needs j, gI bs a + gI hs a ≤ t) → t < ck → W ≤ runL bs hs (D ++ ys) t
  rd : ∀ j ∈ rs, ∀ t, 0 ≤ t → (∀ a ∈ needs j, gI bs a + gI hs a ≤ t) → ck ≤ t
  fl : (ys.length : Int) ≤ W
/-- those who are free have taken jobs -/
theorem SI.start {n : Nat} {needs : Int → List Int} {hs : List Int} {W : Int} {bs ys ws D rs gs : List Int} {ck : Int} {A : List (Int × Int × List Int)} (S : SI n needs hs W bs ys ws D rs ck) (dy : Dyn n needs A rs D (ys ++ ws)) (hg : gs.Perm rs) (hh : ∀ j : Int, 0 ≤ gI hs j) :
    SI n needs hs W (((ws ++ gs).take (W - ys.length).toNat).foldl (fun l t => l.set t.toNat ck) bs) (ys ++ (ws ++ gs).take (W - ys.length).toNat) ((ws ++ gs).drop (W - ys.length).toNat) D [] ck ∧
      ((ws ++ gs).drop (W - ys.length).toNat ≠ [] → ((ys ++ (ws ++ gs).take (W - ys.length).toNat).length : Int) = W) := by
  have hfl := S.fl
  generalize hk : (W - ys.length).toNat = k
  have hsp : (ws ++ gs).take k ++ (ws ++ gs).drop k = ws ++ gs := List.take_append_drop _ _
  generalize hts : (ws ++ gs).take k = ts at *
  generalize hw2 : (ws ++ gs).drop k = w2 at *
  have nd := List.nodup_append.mp dy.nd
  have nd2 := List.nodup_append.mp nd.2.1
  have hm : ∀ j, j ∈ ts ∨ j ∈ w2 → j ∈ ws ∨ j ∈ rs := fun j hj => by
    have : j ∈ ws ++ gs := by rw [← hsp, List.mem_append]; exact hj
    rcases List.mem_append.mp this with q | q
    · exact .inl q
    · exact .inr (hg.mem_iff.mp q)
  have hrng : ∀ j, j ∈ ws ∨ j ∈ rs → 0 ≤ j ∧ j < n := fun j hj => by
    rcases hj with q | q
    · exact dy.rng j (List.mem_append_right _ (List.mem_append_right _ q))
    · exact ⟨((dy.r j).mp q).1, ((dy.r j).mp q).2.1⟩
  have hnd : ∀ j, j ∈ ws ∨ j ∈ rs → ∀ a ∈ needs j, a ∈ D := fun j hj => by
    rcases hj with q | q
    · exact dy.nds j (List.mem_append_right _ (List.mem_append_right _ q))
    · exact ((dy.r j).mp q).2.2.2.2
  have hDt : ∀ j ∈ D, j ∉ ts := fun j hj q => by
    rcases hm j (.inl q) with q | q
    · exact nd.2.2 j hj j (List.mem_append_right _ q) rfl
    · exact ((dy.r j).mp q).2.2.1 hj
  have hyt : ∀ j ∈ ys, j ∉ ts := fun j hj q => by
    rcases hm j (.inl q) with q | q
    · exact nd2.2.2 j hj j q rfl
    · exact ((dy.r j).mp q).2.2.2.1 (List.mem_append_left _ hj)
  have hDr : ∀ j ∈ D, 0 ≤ j := fun j hj => (dy.rng j (List.mem_append_left _ hj)).1
  have hyr : ∀ j ∈ ys, 0 ≤ j := fun j hj => (dy.rng j (List.mem_append_right _ (List.mem_append_left _ hj))).1
  have htin : ∀ t ∈ ts, 0 ≤ t ∧ t < bs.length := fun t ht => by rw [S.len]; exact hrng t (hm t (.inl ht))
  have hb : ∀ j : Int, 0 ≤ j → gI (ts.foldl (fun l t => l.set t.toNat ck) bs) j = if j ∈ ts then ck else gI bs j := gI_fold ck ts bs htin
  generalize hbs : ts.foldl (fun l t => l.set t.toNat ck) bs = bs' at *
  have hbD : ∀ j ∈ D, gI bs' j = gI bs j := fun j hj => by rw [hb j (hDr j hj), if_neg (hDt j hj)]
  have hby : ∀ j ∈ ys, gI bs' j = gI bs j := fun j hj => by rw [hb j (hyr j hj), if_neg (hyt j hj)]
  have hbt : ∀ j ∈ ts, gI bs' j = ck := fun j hj => by rw [hb j (htin j hj).1, if_pos hj]
  have hbo : ∀ j ∈ D ++ ys, gI bs' j = gI bs j := fun j hj => (List.mem_append.mp hj).elim (hbD j) (hby j)
  have hrun : ∀ t, runL bs hs (D ++ ys) t ≤ runL bs' hs (D ++ (ys ++ ts)) t := fun t => by
    have e := runL_append bs' hs (D ++ ys) ts t
    rw [List.append_assoc, runL_congr hbo] at e
    omega
  have hneed : ∀ j, (j ∈ D ++ ys ∨ j ∈ ws ∨ j ∈ rs) → ∀ a ∈ needs j, gI bs' a = gI bs a := fun j hj a ha => by
    rcases hj with q | q
    · refine hbD a ?_
      rcases List.mem_append.mp q with q | q
      · exact dy.nds j (List.mem_append_left _ q) a ha
      · exact dy.nds j (List.mem_append_right _ (List.mem_append_left _ q)) a ha
    · exact hbD a (hnd j q a ha)
  have hcov : ∀ j, (j ∈ ws ∨ j ∈ rs) → ∀ t, 0 ≤ t → (∀ a ∈ needs j, gI bs' a + gI hs a ≤ t) → t < ck → W ≤ runL bs' hs (D ++ (ys ++ ts)) t := fun j hj t h0 hn ht => by
    have hn' : ∀ a ∈ needs j, gI bs a + gI hs a ≤ t := fun a ha => by rw [← hneed j (.inr hj) a ha]; exact hn a ha
    have hr := hrun t
    rcases hj with q | q
    · have := S.cw j q t h0 hn' ht
      omega
    · have := S.rd j q t h0 hn'
      omega
  refine ⟨⟨?_, S.ck0, fun j hj => ?_, fun j hj => ?_, fun j hj => ?_, fun j hj a ha => ?_, fun j hj t h0 hn ht => ?_, fun j hj t h0 hn ht => ?_, (fun j hj => nomatch hj), ?_⟩, fun hne => ?_⟩
  · rw [← hbs, fold_len]; exact S.len
  · rw [← List.append_assoc] at hj
    rcases List.mem_append.mp hj with q | q
    · rw [hbo j q]; exact S.bd j q
    · rw [hbt j q]; exact ⟨S.ck0, Int.le_refl _⟩
  · rw [hbD j hj]; exact S.dE j hj
  · rcases List.mem_append.mp hj with q | q
    · rw [hby j q]; exact S.yE j q
    · rw [hbt j q]; have := hh j; omega
  · rw [← List.append_assoc] at hj
    rcases List.mem_append.mp hj with q | q
    · rw [hbo j q, hneed j (.inl q) a ha]; exact S.p1 j q a ha
    · have hw := hm j (.inl q)
      rw [hbt j q, hneed j (.inr hw) a ha]
      exact S.dE a (hnd j hw a ha)
  · rw [← List.append_assoc] at hj
    rcases List.mem_append.mp hj with q | q
    · rw [hbo j q] at ht
      have := S.cs j q t h0 (fun a ha => by rw [← hneed j (.inl q) a ha]; exact hn a ha) ht
      have hr := hrun t
      omega
    · rw [hbt j q] at ht
      exact hcov j (hm j (.inl q)) t h0 hn ht
  · exact hcov j (hm j (.inr hj)) t h0 hn ht
  · rw [List.length_append]
    have : ts.length ≤ k := by rw [← hts]; exact List.length_take_le _ _
    omega
  · rw [List.length_append]
    have hw : 0 < w2.length := List.length_pos_iff.mpr hne
    rw [← hw2, List.length_drop] at hw
    have : ts.length = k := by rw [← hts, List.length_take]; omega
    omega
/-- the clock goes on to the next end -/
theorem SI.tick {n : Nat} {needs : Int → List Int} {hs : List Int} {W : Int} {bs ys ws D rs : List Int} {ck M : Int} (S : SI n needs hs W bs ys ws D [] ck) (hfull : ws ≠ [] → (ys.length : Int) = W) (hM : M ∈ ys.map fun j => gI bs j + gI hs j) (hmin : ∀ x ∈ ys.map fun j => gI bs j + gI hs j, M ≤ x)
    (hr : ∀ k ∈ rs, ∃ d ∈ ys.filter (fun j => decide (gI bs j + gI hs j = M)), d ∈ needs k) :
    SI n needs hs W bs (ys.filter fun j => decide (gI bs j + gI hs j ≠ M)) ws ((ys.filter fun j => decide (gI bs j + gI hs j = M)).reverse ++ D) rs M := by
  have hmin' : ∀ j ∈ ys, M ≤ gI bs j + gI hs j := fun j hj => hmin _ (List.mem_map.mpr ⟨j, hj, rfl⟩)
  have hck : ck ≤ M := by
    obtain ⟨j, hj, e⟩ := List.mem_map.mp hM
    rw [← e]; exact S.yE j hj
  have hsub : ∀ j ∈ (((ys.filter fun j => decide (gI bs j + gI hs j = M)).reverse ++ D) ++ ys.filter fun j => decide (gI bs j + gI hs j ≠ M)), j ∈ D ++ ys := fun j hj => by
    rcases List.mem_append.mp hj with q | q
    · rcases List.mem_append.mp q with q | q
      · exact List.mem_append_right _ (List.mem_filter.mp (List.mem_reverse.mp q)).1
      · exact List.mem_append_left _ q
    · exact List.mem_append_right _ (List.mem_filter.mp q).1
  have hperm : (((ys.filter fun j => decide (gI bs j + gI hs j = M)).reverse ++ D) ++ ys.filter fun j => decide (gI bs j + gI hs j ≠ M)).Perm (D ++ ys) := by
    have e : (ys.filter fun j => decide (gI bs j + gI hs j ≠ M)) = ys.filter fun j => !decide (gI bs j + gI hs j = M) := List.filter_congr fun j _ => by simp
    rw [e]
    refine List.Perm.trans (List.Perm.append_right _ (List.Perm.append_right _ (List.reverse_perm _))) ?_
    refine List.Perm.trans (List.Perm.append_right _ List.perm_append_comm) ?_
    rw [List.append_assoc]
    exact List.Perm.append_left _ (List.filter_append_perm _ _)
  have hrun : ∀ t, runL bs hs (((ys.filter fun j => decide (gI bs j + gI hs j = M)).reverse ++ D) ++ ys.filter fun j => decide (gI bs j + gI hs j ≠ M)) t = runL bs hs (D ++ ys) t := fun t => runL_perm hperm
  refine ⟨S.len, Int.le_trans S.ck0 hck, fun j hj => ?_, fun j hj => ?_, fun j hj => ?_, fun j hj => S.p1 j (hsub j hj), fun j hj t h0 hn ht => ?_, fun j hj t h0 hn ht => ?_, fun k hk t h0 hn => ?_, ?_⟩
  · have := S.bd j (hsub j hj)
    exact ⟨this.1, Int.le_trans this.2 hck⟩
  · rcases List.mem_append.mp hj with q | q
    · have := (List.mem_filter.mp (List.mem_reverse.mp q)).2
      exact Int.le_of_eq (by simpa using this)
    · exact Int.le_trans (S.dE j q) hck
  · exact hmin' j (List.mem_filter.mp hj).1
  · rw [hrun]; exact S.cs j (hsub j hj) t h0 hn ht
  · rw [hrun]
    by_cases e : t < ck
    · exact S.cw j hj t h0 hn e
    · have hW := hfull (List.ne_nil_of_mem hj)
      rw [runL_append, runL_all (l := ys)]
      · omega
      · intro i hi
        have h1 := S.bd i (List.mem_append_right _ hi)
        have h2 := hmin' i hi
        exact ⟨by omega, by omega⟩
  · obtain ⟨d, hd, hdn⟩ := hr k hk
    have h1 := hn d hdn
    have h2 := (List.mem_filter.mp hd).2
    have h3 : gI bs d + gI hs d = M := by simpa using h2
    omega
  · have : (ys.filter fun j => decide (gI bs j + gI hs j ≠ M)).length ≤ ys.length := List.length_filter_le _ _
    have := S.fl
    omega
def jobsI (n : Nat) : List Int := (List.range n).map fun i : Nat => (i : Int)
theorem mem_jobsI {n : Nat} {j : Int} : j ∈ jobsI n ↔ 0 ≤ j ∧ j < n := by
  unfold jobsI
  rw [List.mem_map]
  constructor
  · rintro ⟨i, hi, rfl⟩
    have := List.mem_range.mp hi
    omega
  · rintro ⟨h1, h2⟩
    exact ⟨j.toNat, List.mem_range.mpr (by omega), by omega⟩
theorem nodup_jobsI (n : Nat) : (jobsI n).Nodup := by
  unfold jobsI
  refine List.Pairwise.map _ (fun a b h e => h ?_) List.nodup_range
  omega
/-- what the run of the clock leaves -/
structure Good (n : Nat) (needs : Int → List Int) (hs : List Int) (W : Int) (bs : List Int) : Prop where
  len : bs.length = n
  nn : ∀ j : Int, 0 ≤ j → j < n → 0 ≤ gI bs j
  p1 : ∀ j : Int, 0 ≤ j → j < n → ∀ a ∈ needs j, gI bs a + gI hs a ≤ gI bs j
  cs : ∀ j : Int, 0 ≤ j → j < n → ∀ t, 0 ≤ t → (∀ a ∈ needs j, gI bs a + gI hs a ≤ t) → t < gI bs j → W ≤ runL bs hs (jobsI n) t
theorem all_done {n : Nat} {needs : Int → List Int} {A : List (Int × Int × List Int)} {D : List Int} (G : GOK n needs A) (dy : Dyn n needs A [] D []) : ∀ (k : Nat) (j : Int), 0 ≤ j → j < n → j < k → j ∈ D
  | 0, j, h1, _, h2 => by omega
  | k + 1, j, h1, h2, h3 => by
    by_cases e : j ∈ D
    · exact e
    · refine nomatch (dy.r j).mpr ⟨h1, h2, e, (fun q => nomatch q), fun a ha => ?_⟩
      have := G.low j h1 h2 a ha
      exact all_done G dy k a this.1 (by omega) (by omega)
theorem SI.good {n : Nat} {needs : Int → List Int} {hs : List Int} {W : Int} {bs D : List Int} {ck : Int} {A : List (Int × Int × List Int)} (S : SI n needs hs W bs [] [] D [] ck) (G : GOK n needs A) (dy : Dyn n needs A [] D []) : Good n needs hs W bs := by
  have hD : ∀ j : Int, 0 ≤ j → j < n → j ∈ D := fun j h1 h2 => all_done G dy (j.toNat + 1) j h1 h2 (by omega)
  have hm : ∀ j : Int, 0 ≤ j → j < n → j ∈ D ++ [] := fun j h1 h2 => List.mem_append_left _ (hD j h1 h2)
  have hp : (D ++ []).Perm (jobsI n) := by
    have nd : (D ++ ([] : List Int)).Nodup := dy.nd
    refine (List.perm_ext_iff_of_nodup nd (nodup_jobsI n)).mpr fun j => ?_
    rw [mem_jobsI]
    exact ⟨fun h => dy.rng j h, fun h => hm j h.1 h.2⟩
  refine ⟨S.len, fun j h1 h2 => (S.bd j (hm j h1 h2)).1, fun j h1 h2 => S.p1 j (hm j h1 h2), fun j h1 h2 t h0 hn ht => ?_⟩
  rw [← runL_perm hp]
  exact S.cs j (hm j h1 h2) t h0 hn ht
/-! part P4 -/
set_option maxHeartbeats 1000000
set_option maxHeartbeats 1000000
structure Inv (n : Nat) (needs : Int → List Int) (hs : List Int) (W : Int) (i : Nat) (A : List (Int × Int × List Int)) (rs : List Int) (np nf : Int) (bs ys ws D : List Int) (ck : Int) : Prop where
  G : GOK n needs A
  dy : Dyn n needs A rs D (ys ++ ws)
  si : SI n needs hs W bs ys ws D rs ck
  cn : np = nf + ys.length + ws.length
  pr : i ≤ D.length
theorem ND.sub {l r : List (Addr × Obj)} (h : ND r) (s : l.Sublist r) : ND l := List.Nodup.sublist (s.map _) h
theorem SL_cut {w : World} {c : Sx} {r : Value} {np nf : Int} {tp tf : Nat} {od : Obj} (l z rest : List (Addr × Obj)) : SL w c r np nf tp tf od (l ++ (z ++ rest)) = SL w c r np nf tp tf od (l ++ z) ++ rest :=
  congrArg (fun t => _ :: _ :: _ :: t) (List.append_assoc l z rest).symm
theorem SL_perm {w : World} {c : Sx} {r : Value} {np nf : Int} {tp tf : Nat} {od : Obj} {l rest pre : List (Addr × Obj)} {x : Addr × Obj} : (pre ++ SL w c r np nf tp tf od (l ++ x :: rest)).Perm (SL w c r np nf tp tf od (l ++ x :: (pre ++ rest))) := by
  have e1 : SL w c r np nf tp tf od (l ++ x :: rest) = SL w c r np nf tp tf od (l ++ [x]) ++ rest := SL_cut l [x] rest
  have e2 : SL w c r np nf tp tf od (l ++ x :: (pre ++ rest)) = SL w c r np nf tp tf od (l ++ [x]) ++ (pre ++ rest) := SL_cut l [x] (pre ++ rest)
  rw [e1, e2]
  exact List.perm_append_comm_assoc _ _ _
theorem SL_pre {w : World} {c : Sx} {r : Value} {np nf : Int} {tp tf : Nat} {od : Obj} {l rest pre : List (Addr × Obj)} {x p : Addr × Obj} : p ∈ pre ++ SL w c r np nf tp tf od (l ++ x :: rest) ↔ p ∈ SL w c r np nf tp tf od (l ++ x :: (pre ++ rest)) := SL_perm.mem_iff
theorem SOK.mk' {w : World} {c : Sx} {od : Obj} {nodes : List Nd} {rest : List (Addr × Obj)} {r : Value} {np nf : Int} {tp tf : Nat} (h : ND (SL w c r np nf tp tf od (NN nodes ++ rest))) (hd : od.IsDictOf (intKind PR w) (kvsOf nodes)) (lo : (c.d == sysModules) = false) : SOK w c od nodes rest :=
  ⟨fun r np nf tp tf => h.same rfl, hd, lo⟩
theorem map_take_fst (l : List (Int × Tok)) (k : Nat) : (l.take k).map (·.1) = (l.map (·.1)).take k := List.map_take
theorem map_drop_fst (l : List (Int × Tok)) (k : Nat) : (l.drop k).map (·.1) = (l.map (·.1)).drop k := List.map_drop
theorem filter_fst (l : List (Int × Tok)) (q : Int → Bool) : (l.filter fun p => q p.1).map (·.1) = (l.map (·.1)).filter q := by rw [List.filter_map]; rfl
theorem foldl_fst (l : List (Int × Tok)) (v : Int) (b : List Int) : l.foldl (fun l p => l.set p.1.toNat v) b = (l.map (·.1)).foldl (fun l t => l.set t.toNat v) b := by rw [List.foldl_map]
theorem act_eq {nf np : Int} {rs ys ws : List (Int × Tok)} (h : np = nf + ys.length + ws.length) : (decide (nf < np) || decide (rs ≠ [])) = (decide (rs ≠ []) || decide (ws ++ ys ≠ [])) := by
  have : decide (nf < np) = decide (ws ++ ys ≠ []) := by
    apply Bool.eq_iff_iff.mpr
    rw [decide_eq_true_iff, decide_eq_true_iff]
    constructor
    · intro q e
      have := List.append_eq_nil_iff.mp e
      rw [this.1, this.2] at h
      simp at h
      omega
    · intro q
      have : 0 < (ws ++ ys).length := List.length_pos_iff.mpr q
      rw [List.length_append] at this
      omega
  rw [this, Bool.or_comm]
theorem sk_adr {l l2 : List Nd} (h : sk l2 = sk l) : (NN l2).map (·.1) = (NN l).map (·.1) := by
  have e : ∀ l : List Nd, (NN l).map (·.1) = (NN (sk l)).map (·.1) := fun l => by
    induction l with
    | nil => rfl
    | cons x l ih =>
      show (x.objs ++ NN l).map (·.1) = (x.bare.objs ++ NN (sk l)).map (·.1)
      rw [List.map_append, List.map_append, ih]; rfl
  rw [e, h, ← e]
theorem SL_adr {w : World} {c : Sx} {r r' : Value} {np nf np' nf' : Int} {tp tf tp' tf' : Nat} {od : Obj} {l l2 : List Nd} {x x' : Addr × Obj} {rest : List (Addr × Obj)} (h : sk l2 = sk l) (hx : x'.1 = x.1) : (SL w c r' np' nf' tp' tf' od (NN l2 ++ x' :: rest)).map (·.1) = (SL w c r np nf tp tf od (NN l ++ x :: rest)).map (·.1) := by
  simp only [List.map_cons, List.map_append, sk_adr h, hx]
theorem SOK.dict_sk {w : World} {c : Sx} {od : Obj} {nodes nodes' : List Nd} {rest rest' : List (Addr × Obj)} (K : SOK w c od nodes rest) (h : sk nodes' = sk nodes) : od.IsDictOf (intKind PR w) (kvsOf nodes') := by
  have e : ∀ l : List Nd, kvsOf l = kvsOf (sk l) := fun l => by unfold kvsOf sk; rw [List.map_map]; rfl
  rw [e, h, ← e]; exact K.dict
theorem SL_perm2 {w : World} {c : Sx} {r : Value} {np nf : Int} {tp tf : Nat} {od : Obj} {l rest pre : List (Addr × Obj)} {x y : Addr × Obj} : (pre ++ SL w c r np nf tp tf od (l ++ x :: y :: rest)).Perm (SL w c r np nf tp tf od (l ++ x :: y :: (pre ++ rest))) := by
  have e1 : SL w c r np nf tp tf od (l ++ x :: y :: rest) = SL w c r np nf tp tf od (l ++ [x, y]) ++ rest := SL_cut l [x, y] rest
  have e2 : SL w c r np nf tp tf od (l ++ x :: y :: (pre ++ rest)) = SL w c r np nf tp tf od (l ++ [x, y]) ++ (pre ++ rest) := SL_cut l [x, y] (pre ++ rest)
  rw [e1, e2]
  exact List.perm_append_comm_assoc _ _ _
theorem SL_ins {w : World} {c : Sx} {r : Value} {np nf : Int} {tp tf : Nat} {od : Obj} {l rest : List (Addr × Obj)} {x y p : Addr × Obj} (h : p ∈ SL w c r np nf tp tf od (l ++ x :: rest)) : p ∈ SL w c r np nf tp tf od (l ++ x :: y :: rest) :=
  (List.Sublist.append_left (.cons_cons x (.cons y (List.Sublist.refl rest))) (_ :: _ :: _ :: l)).subset h
theorem same_job {a b : Str → Option Value} (h : Same ["job"] a b) : Same ["active", "given", "free", "job", "waiting", "over", "busy"] a b := fun z hz => h z (by
  simp only [List.contains_cons, List.contains_nil, Bool.or_false, Bool.or_eq_false_iff] at hz ⊢
  simp [hz])
theorem filt_len (l : List (Int × Tok)) (q : Int → Prop) [DecidablePred q] : (l.filter fun p => decide (q p.1)).length + (l.filter fun p => decide (¬ q p.1)).length = l.length := by
  have h := (List.filter_append_perm (fun p : Int × Tok => decide (q p.1)) l).length_eq
  rw [List.length_append] at h
  have e : (l.filter fun p => decide (¬ q p.1)) = l.filter fun p => !decide (q p.1) := List.filter_congr fun p _ => by simp
  rw [e]; exact h
/-! part C6 -/
set_option maxHeartbeats 1000000
set_option maxHeartbeats 1000000
theorem ins_perm {w : World} {c : Sx} {r : Value} {np nf : Int} {tp tf : Nat} {od : Obj} {l a z : List (Addr × Obj)} {x y : Addr × Obj} : (a ++ SL w c r np nf tp tf od (l ++ x :: y :: z)).Perm (y :: (a ++ SL w c r np nf tp tf od (l ++ x :: z))) := by
  have e : ∀ z, a ++ SL w c r np nf tp tf od (l ++ x :: z) = (a ++ SL w c r np nf tp tf od (l ++ [x])) ++ z := fun z => (congrArg (a ++ ·) (SL_cut l [x] z)).trans (List.append_assoc _ _ _).symm
  rw [e (y :: z), e z]
  exact List.perm_middle
section
variable {w : World} {A : Around} {g : Heap} {Lf : Addr} {m : Str → Option Value} {s : Shared} {Q : Flow → Shared → Prop} {o1 o2 o3 o4 : Obj} {bA yA wA hA : Addr} {bs ys ws hs : List (Int × Tok)} {e1 e2 e3 e4 : Nat} {ck W : Int} {tck tW : Tok}
  {A₀ : Around} {base : Heap} {outer : List Env} {p : Program} {loose : List Str} {mean : ExcName → Option Value} {mg mb : Str → Option Value}
  {c : Sx} {ra : Addr} {np nf : Int} {tp tf rn : Nat} {od : Obj} {nodes : List Nd} {rs : List (Int × Tok)} {rest : List (Addr × Obj)} {n i : Nat} {needs : Int → List Int} {D : List Int}
theorem bTurn (bx : Bx w p loose mean mg mb A₀ base outer A g Lf) (F : Fr g Lf s.heap m) (N : News g Lf s.heap (BLg Lf o1 o2 o3 o4 bA yA wA bs ys ws e1 e2 e3 (SL w c (.ref ra) np nf tp tf od (NN nodes ++ (ra, listOf (vals rs).toArray rn) :: rest))))
    (K : SOK w c od nodes ((ra, listOf (vals rs).toArray rn) :: (BLg Lf o1 o2 o3 o4 bA yA wA bs ys ws e1 e2 e3 [] ++ rest)))
    (d2 : o2.data = .cell (some (.ref hA))) (d3 : o3.data = .cell (some (.ref bA))) (d4 : o4.data = .cell (some (.int ck tck))) (iH : (hA, listOf (vals hs).toArray e4) ∈ rest)
    (ms : m (Str.ofString "sorter") = some (.ref c.sx)) (mW : m (Str.ofString "workers") = some (.int W tW)) (my : m (Str.ofString "busy") = some (.ref yA)) (mw : m (Str.ofString "waiting") = some (.ref wA))
    (iv : Inv n needs (hs.map (·.1)) W i (absN nodes) (rs.map (·.1)) np nf (bs.map (·.1)) (ys.map (·.1)) (ws.map (·.1)) D ck) (hn : n ≤ 12) (hhs : hs.length = n) (hW : 1 ≤ W) (hW2 : W ≤ 12) (hh0 : ∀ j : Int, 0 ≤ gI (hs.map (·.1)) j)
    (hB : BA 1000 (absN nodes)) (hsuc : ∀ nd ∈ nodes, ∀ p ∈ nd.si, p.1 ∈ nodes.map (·.k))
    (hbrk : ∀ h' tk m' bs', Fr g Lf h' m' → News g Lf h' ((Lf + 3, o3) :: (bA, listOf (vals bs').toArray e1) :: rest) → Good n needs (hs.map (·.1)) W (bs'.map (·.1)) → Q .brk { s with heap := h', toks := tk })
    (hnext : ∀ h' tk m' o4' yA' wA' bs' ys' ws' e2' e3' np' nf' tp' tf' nodes' rs' rn' D' ck' tck', Same ["active", "given", "free", "job", "waiting", "over", "busy"] m' m → m' (Str.ofString "busy") = some (.ref yA') → m' (Str.ofString "waiting") = some (.ref wA') → Fr g Lf h' m' →
      News g Lf h' (BLg Lf o1 o2 o3 o4' bA yA' wA' bs' ys' ws' e1 e2' e3' (SL w c (.ref ra) np' nf' tp' tf' od (NN nodes' ++ (ra, listOf (vals rs').toArray rn') :: rest))) → SOK w c od nodes' ((ra, listOf (vals rs').toArray rn') :: (BLg Lf o1 o2 o3 o4' bA yA' wA' bs' ys' ws' e1 e2' e3' [] ++ rest)) →
      o4'.data = .cell (some (.int ck' tck')) → Inv n needs (hs.map (·.1)) W (i + 1) (absN nodes') (rs'.map (·.1)) np' nf' (bs'.map (·.1)) (ys'.map (·.1)) (ws'.map (·.1)) D' ck' → sk nodes' = sk nodes → Q .next { s with heap := h', toks := tk }) :
    wpAny (model PR w) A (execs [bT 0, bT 1, bT 2, bT 3, bT 4, bT 5, bT 6, bT 7, bT 8, bT 9, bT 10, bT 11] (bEnv Lf)) Q (fun _ _ => False) s := by
  have hz1 : (ys ++ ws).length ≤ 12 := by
    have := len_rng (List.nodup_append.mp iv.dy.nd).2.1 (fun x hx => iv.dy.rng x (List.mem_append_right _ hx))
    rw [List.length_append, List.length_map, List.length_map] at this
    rw [List.length_append]; omega
  have hz2 : rs.length ≤ 12 := by
    have := len_rng iv.dy.rnd (fun x hx => ⟨((iv.dy.r x).mp hx).1, ((iv.dy.r x).mp hx).2.1⟩)
    rw [List.length_map] at this; omega
  rw [List.length_append] at hz1
  have hbl : bs.length = n := by have := iv.si.len; rwa [List.length_map] at this
  have hkk : ∀ k ∈ rs.map (·.1), k ∈ nodes.map (·.k) := fun k hk => by
    rw [← keys_abs]; exact (iv.G.keys k).mpr ⟨((iv.dy.r k).mp hk).1, ((iv.dy.r k).mp hk).2.1⟩
  -- active, given
  have N0 : News g Lf s.heap (SL w c (.ref ra) np nf tp tf od (NN nodes ++ (ra, listOf (vals rs).toArray rn) :: (BLg Lf o1 o2 o3 o4 bA yA wA bs ys ws e1 e2 e3 [] ++ rest))) := News.sub N fun p hp => SL_pre.mpr hp
  have ND0 := K.nd (.ref ra) np nf tp tf
  clear N
  generalize hPre : BLg Lf o1 o2 o3 o4 bA yA wA bs ys ws e1 e2 e3 [] = pre at *
  refine wpAny_execs_cons (bT0 bx F N0 ms (by omega) fun h1 tk1 F1 N1 => ?_)
  clear F N0
  refine wpAny_execs_cons (bT1 bx F1 N1 K ((if_neg (by decide)).trans ms) (by omega) (fun p hp => hkk _ (List.mem_map_of_mem hp)) fun h2 tk2 nodes1 T tp1 rn1 F2 N2 K2 hltT hsk1 hab1 => ?_)
  clear F1 N1
  have offT : ∀ q ∈ SL w c (.ref ra) (np + rs.length) nf tp1 tf od (NN nodes1 ++ (ra, listOf (vals []).toArray rn1) :: (pre ++ rest)), q.1 ≠ T := off_same (fun q hq => Nat.ne_of_lt (hltT q hq)) (SL_adr hsk1 rfl)
  have K3 : SOK w c od nodes1 ((ra, listOf (vals []).toArray rn1) :: (T, tupOf (vals rs)) :: (pre ++ rest)) := SOK.perm (SOK.moreOff (o := tupOf (vals rs)) K2 offT) (List.Perm.swap _ _ _)
  refine wpAny_execs_cons (bT2 (gs := rs) (ws := ws) (ys := ys) (e2 := e2) (e3 := e3) bx F2 (News.sub N2 SL_in2) K3 ((if_neg (by decide)).trans ((if_neg (by decide)).trans ms)) (if_pos rfl) ((if_neg (by decide)).trans (if_pos rfl)) ((if_neg (by decide)).trans ((if_neg (by decide)).trans mw)) ((if_neg (by decide)).trans ((if_neg (by decide)).trans my))
    (.head _) (.tail _ (List.mem_append_left _ (by rw [← hPre]; ((repeat (first | exact List.Mem.head _ | refine List.Mem.tail _ ?_)))))) (.tail _ (List.mem_append_left _ (by rw [← hPre]; ((repeat (first | exact List.Mem.head _ | refine List.Mem.tail _ ?_)))))) (by omega) (by omega) (act_eq (by have := iv.cn; rwa [List.length_map, List.length_map] at this)) fun h3 tk3 nodes2 tp2 rn2 F3 N3 K4 hsk2 hab2 => ?_)
  clear F2 N2
  generalize hTT : SL w c (.ref ra) (np + rs.length) nf tp2 tf od (NN nodes2 ++ (ra, listOf (vals []).toArray rn2) :: (T, tupOf (vals rs)) :: rest) = TT
  have iT : (T, tupOf (vals rs)) ∈ TT := by rw [← hTT]; exact .tail _ (.tail _ (.tail _ (List.mem_append_right _ (.tail _ (.head _)))))
  have iHT : (hA, listOf (vals hs).toArray e4) ∈ TT := by rw [← hTT]; exact .tail _ (.tail _ (.tail _ (List.mem_append_right _ (.tail _ (.tail _ iH)))))
  have nd4 : ND (pre ++ TT) := by rw [← hTT]; exact (K4.nd (.ref ra) (np + rs.length) nf tp2 tf).perm SL_perm2
  have N4 : News g Lf h3 (pre ++ TT) := by rw [← hTT]; exact News.sub N3 fun p hp => SL_perm2.mem_iff.mp hp
  subst hPre
  clear N3
  have hgi : ∀ q ∈ rs, 0 ≤ q.1 ∧ q.1 < n := fun q hq => by
    have := (iv.dy.r q.1).mp (List.mem_map_of_mem hq)
    exact ⟨this.1, this.2.1⟩
  have hwi : ∀ q ∈ ws, 0 ≤ q.1 ∧ q.1 < n := fun q hq => iv.dy.rng q.1 (List.mem_append_right _ (List.mem_append_right _ (List.mem_map_of_mem hq)))
  have hyi : ∀ q ∈ ys, 0 ≤ q.1 ∧ q.1 < n := fun q hq => iv.dy.rng q.1 (List.mem_append_right _ (List.mem_append_left _ (List.mem_map_of_mem hq)))
  have hfl := iv.si.fl
  rw [List.length_map] at hfl
  refine wpAny_execs_cons (bT3 (gs := rs) (TT := TT) bx F3 N4 nd4 (by ((repeat (first | exact if_pos rfl | refine Eq.trans (if_neg (by decide)) ?_ | assumption)))) (by ((repeat (first | exact if_pos rfl | refine Eq.trans (if_neg (by decide)) ?_ | assumption)))) iT (by omega) (by omega) fun h4 tk4 gs' e3' F4 N5 hgp => ?_)
  clear F3 N4
  have hgl : gs'.length = rs.length := by have := hgp.length_eq; simpa using this
  have hgi' : ∀ q ∈ gs', 0 ≤ q.1 ∧ q.1 < n := fun q hq => by
    obtain ⟨q', hq', e⟩ := List.mem_map.mp (hgp.mem_iff.mp (List.mem_map_of_mem hq))
    have := hgi q' hq'
    rw [e] at this; exact this
  refine wpAny_execs_cons (bT4 bx F4 N5 (by ((repeat (first | exact if_pos rfl | refine Eq.trans (if_neg (by decide)) ?_ | assumption)))) (by ((repeat (first | exact if_pos rfl | refine Eq.trans (if_neg (by decide)) ?_ | assumption)))) (by omega) fun h5 tk5 t5 F5 N6 => ?_)
  clear F4 N5
  refine wpAny_execs_cons (bT5 bx.hh bx.G F5 N6 (nd4.same rfl) d3 d4 (by ((repeat (first | exact if_pos rfl | refine Eq.trans (if_neg (by decide)) ?_ | assumption)))) (by ((repeat (first | exact if_pos rfl | refine Eq.trans (if_neg (by decide)) ?_ | assumption)))) (by ((repeat (first | exact if_pos rfl | refine Eq.trans (if_neg (by decide)) ?_ | assumption)))) (by omega) (fun q hq => ?_) (by omega) (by omega) (by rw [List.length_append]; omega) fun h6 tk6 m6 bs1 ys1 e2' S6 F6 N7 hbs1 hys1 => ?_)
  · rw [hbl]
    rcases List.mem_append.mp hq with q' | q'
    · exact hwi q q'
    · exact hgi' q q'
  clear F5 N6
  refine wpAny_execs_cons (bT6 bx F6 N7 (S6.get (by ((repeat (first | exact if_pos rfl | refine Eq.trans (if_neg (by decide)) ?_ | assumption))))) (S6.get (by ((repeat (first | exact if_pos rfl | refine Eq.trans (if_neg (by decide)) ?_ | assumption))))) (by omega) (by rw [List.length_append]; omega) fun h7 tk7 D6 F7 N8 off7 => ?_)
  clear F6 N7
  generalize hws2 : (ws ++ gs').drop (W - ys.length).toNat = ws2 at *
  have hsl : ([(Lf + 1, o1), (Lf + 2, o2), (Lf + 3, o3), (Lf + 4, o4), (bA, listOf (vals bs1).toArray e1), (yA, listOf (vals ys1).toArray e2')] ++ TT).Sublist (BLg Lf o1 o2 o3 o4 bA yA wA bs1 ys1 (ws ++ gs') e1 e2' e3' TT) :=
    .cons_cons _ (.cons_cons _ (.cons_cons _ (.cons_cons _ (.cons_cons _ (.cons_cons _ (.cons _ (List.Sublist.refl _)))))))
  have hpl : (BLg Lf o1 o2 o3 o4 bA yA D6 bs1 ys1 ws2 e1 e2' 0 TT).Perm ((D6, listOf (vals ws2).toArray 0) :: ([(Lf + 1, o1), (Lf + 2, o2), (Lf + 3, o3), (Lf + 4, o4), (bA, listOf (vals bs1).toArray e1), (yA, listOf (vals ys1).toArray e2')] ++ TT)) := List.perm_middle (l₁ := [_, _, _, _, _, _])
  have nd9 : ND (BLg Lf o1 o2 o3 o4 bA yA D6 bs1 ys1 ws2 e1 e2' 0 TT) := ND.perm (ND.cons (p := (D6, listOf (vals ws2).toArray 0)) (ND.sub (r := BLg Lf o1 o2 o3 o4 bA yA wA bs1 ys1 (ws ++ gs') e1 e2' e3' TT) (nd4.same rfl) hsl) fun q hq => off7 q (hsl.subset hq)) hpl
  have N9 : News g Lf h7 (BLg Lf o1 o2 o3 o4 bA yA D6 bs1 ys1 ws2 e1 e2' 0 TT) := News.sub N8 fun p hp => by
    rcases List.mem_cons.mp (hpl.mem_iff.mp hp) with rfl | hq
    · exact .head _
    · exact .tail _ (hsl.subset hq)
  clear hsl hpl
  clear N8 off7
  -- plain
  have hst := iv.si.start iv.dy hgp hh0
  rw [List.length_map] at hst
  rw [foldl_fst, map_take_fst, List.map_append] at hbs1
  rw [map_take_fst, List.map_append] at hys1
  have hw2' : ws2.map (·.1) = (ws.map (·.1) ++ gs'.map (·.1)).drop (W - ys.length).toNat := by rw [← hws2, map_drop_fst, List.map_append]
  have hdo := iv.dy.out iv.G
  have hA2 : absN nodes2 = outA (rs.map (·.1)) (absN nodes) := hab2.trans hab1
  rw [← hA2] at hdo
  have hpm : (ys1.map (·.1) ++ ws2.map (·.1)).Perm ((ys.map (·.1) ++ ws.map (·.1)) ++ rs.map (·.1)) := by
    rw [hys1, hw2', List.append_assoc, List.take_append_drop, List.append_assoc]
    exact List.Perm.append_left _ (List.Perm.append_left _ hgp)
  have dy2 := hdo.2.perm hpm
  rw [← hbs1, ← hys1, ← hw2'] at hst
  obtain ⟨S1, hfull⟩ := hst
  have hy1l : ys1.length ≤ 12 := by have := S1.fl; rw [List.length_map] at this; omega
  have hb1l : bs1.length = n := by have := S1.len; rwa [List.length_map] at this
  have hy1i : ∀ q ∈ ys1, 0 ≤ q.1 ∧ q.1 < bs1.length := fun q hq => by
    rw [hb1l]; exact dy2.rng q.1 (List.mem_append_right _ (List.mem_append_left _ (List.mem_map_of_mem hq)))
  refine wpAny_execs_cons (bT7 bx F7 N9 (by refine Eq.trans (if_neg (by decide)) ?_; exact S6.get (by ((repeat (first | exact if_pos rfl | refine Eq.trans (if_neg (by decide)) ?_ | assumption))))) (fun h8 tk8 hz F8 N10 => ?_) fun h8 tk8 hz F8 N10 => ?_)
  · subst hz
    have hw : ws2.map (·.1) = [] := by
      apply Classical.byContradiction
      intro q
      have := hfull q
      rw [List.map_nil, List.length_nil] at this
      omega
    rw [hw, List.map_nil] at S1 dy2
    refine hbrk _ _ _ bs1 F8 (News.sub N10 fun q hq => ?_) (S1.good hdo.1 dy2)
    rcases List.mem_cons.mp hq with rfl | hq
    · ((repeat (first | exact List.Mem.head _ | refine List.Mem.tail _ ?_)))
    rcases List.mem_cons.mp hq with rfl | hq
    · ((repeat (first | exact List.Mem.head _ | refine List.Mem.tail _ ?_)))
    · refine .tail _ (.tail _ (.tail _ (.tail _ (.tail _ (.tail _ (.tail _ ?_))))))
      rw [← hTT]; exact .tail _ (.tail _ (.tail _ (List.mem_append_right _ (.tail _ (.tail _ hq)))))
  clear F7 N9
  refine wpAny_execs_cons (bT8 bx F8 N10 nd9 d2 d3 d4 (by refine Eq.trans (if_neg (by decide)) ?_; exact S6.get (by ((repeat (first | exact if_pos rfl | refine Eq.trans (if_neg (by decide)) ?_ | assumption))))) iHT hy1i (by rw [hhs, hb1l]) (by omega) (by omega) hz fun h9 tk9 o4' M tM F9 N11 d4' hM hmin => ?_)
  clear F8 N10
  refine wpAny_execs_cons (bT9 (X0 := []) bx F9 N11 d2 d3 d4' (by refine Eq.trans (if_neg (by decide)) ?_; exact S6.get (by ((repeat (first | exact if_pos rfl | refine Eq.trans (if_neg (by decide)) ?_ | assumption))))) iHT hy1i (by rw [hhs, hb1l]) (by omega) (by omega) fun h10 tk10 V k10 F10 N12 off10 => ?_)
  clear F9 N11
  refine wpAny_execs_cons (bT10 (X0 := [(V, _)]) bx F10 N12 d2 d3 d4' (by refine Eq.trans (if_neg (by decide)) (Eq.trans (if_neg (by decide)) ?_); exact S6.get (by ((repeat (first | exact if_pos rfl | refine Eq.trans (if_neg (by decide)) ?_ | assumption))))) iHT hy1i (by rw [hhs, hb1l]) (by omega) (by omega) fun h11 tk11 Y k11 F11 N13 off11 => ?_)
  clear F10 N12
  generalize hov : (ys1.filter fun p => decide (gI (bs1.map (·.1)) p.1 + gI (hs.map (·.1)) p.1 = M)) = ov at *
  generalize hy2 : (ys1.filter fun p => decide (gI (bs1.map (·.1)) p.1 + gI (hs.map (·.1)) p.1 ≠ M)) = y2 at *
  have hovI : ov.map (·.1) = (ys1.map (·.1)).filter fun j => decide (gI (bs1.map (·.1)) j + gI (hs.map (·.1)) j = M) := by rw [← hov]; exact filter_fst ys1 (fun j => decide (gI (bs1.map (·.1)) j + gI (hs.map (·.1)) j = M))
  have hy2I : y2.map (·.1) = (ys1.map (·.1)).filter fun j => decide (gI (bs1.map (·.1)) j + gI (hs.map (·.1)) j ≠ M) := by rw [← hy2]; exact filter_fst ys1 (fun j => decide (gI (bs1.map (·.1)) j + gI (hs.map (·.1)) j ≠ M))
  have hlen2 : ov.length + y2.length = ys1.length := by
    rw [← hov, ← hy2]
    exact filt_len ys1 (fun j => gI (bs1.map (·.1)) j + gI (hs.map (·.1)) j = M)
  have hp3 : (ov.map (·.1) ++ (y2.map (·.1) ++ ws2.map (·.1))).Perm (ys1.map (·.1) ++ ws2.map (·.1)) := by
    rw [← List.append_assoc]
    refine List.Perm.append_right _ ?_
    rw [hovI, hy2I]
    have e : ((ys1.map (·.1)).filter fun j => decide (gI (bs1.map (·.1)) j + gI (hs.map (·.1)) j ≠ M)) = (ys1.map (·.1)).filter fun j => !decide (gI (bs1.map (·.1)) j + gI (hs.map (·.1)) j = M) := List.filter_congr fun j _ => by simp
    rw [e]
    exact List.filter_append_perm _ _
  obtain ⟨hout, G3, dy3, hr3, hl3⟩ := Dyn.done (ov.map (·.1)) hdo.1 (dy2.perm hp3)
  have hM' : M ∈ (ys1.map (·.1)).map fun j => gI (bs1.map (·.1)) j + gI (hs.map (·.1)) j := by rw [List.map_map]; exact hM
  have hmin' : ∀ x ∈ (ys1.map (·.1)).map fun j => gI (bs1.map (·.1)) j + gI (hs.map (·.1)) j, M ≤ x := by rw [List.map_map]; exact hmin
  have hskt := hsk2.trans hsk1
  have ndY : ND ((Y, listOf (vals y2).toArray k11) :: (V, listOf (vals ov).toArray k10) :: BLg Lf o1 o2 o3 o4' bA yA D6 bs1 ys1 ws2 e1 e2' 0 TT) := ND.cons (ND.cons (nd9.same rfl) off10) off11
  have hL : ([(Y, listOf (vals y2).toArray k11), (V, listOf (vals ov).toArray k10), (Lf + 1, o1), (Lf + 2, o2), (Lf + 3, o3), (Lf + 4, o4'), (bA, listOf (vals bs1).toArray e1), (D6, listOf (vals ws2).toArray 0)] ++ SL w c (.ref ra) (np + rs.length) nf tp2 tf od (NN nodes2 ++ (ra, listOf (vals []).toArray rn2) :: rest)).Sublist
      ((Y, listOf (vals y2).toArray k11) :: (V, listOf (vals ov).toArray k10) :: BLg Lf o1 o2 o3 o4' bA yA D6 bs1 ys1 ws2 e1 e2' 0 (SL w c (.ref ra) (np + rs.length) nf tp2 tf od (NN nodes2 ++ (ra, listOf (vals []).toArray rn2) :: (T, tupOf (vals rs)) :: rest))) :=
    .cons_cons _ (.cons_cons _ (.cons_cons _ (.cons_cons _ (.cons_cons _ (.cons_cons _ (.cons_cons _ (.cons _ (.cons_cons _ (.cons_cons _ (.cons_cons _ (.cons_cons _ (List.Sublist.append (List.Sublist.refl _) (.cons_cons _ (.cons _ (List.Sublist.refl _)))))))))))))))
  have hP : (BLg Lf o1 o2 o3 o4' bA Y D6 bs1 y2 ws2 e1 k11 0 [] ++ SL w c (.ref ra) (np + rs.length) nf tp2 tf od (NN nodes2 ++ (ra, listOf (vals []).toArray rn2) :: (V, listOf (vals ov).toArray k10) :: rest)).Perm
      ([(Y, listOf (vals y2).toArray k11), (V, listOf (vals ov).toArray k10), (Lf + 1, o1), (Lf + 2, o2), (Lf + 3, o3), (Lf + 4, o4'), (bA, listOf (vals bs1).toArray e1), (D6, listOf (vals ws2).toArray 0)] ++ SL w c (.ref ra) (np + rs.length) nf tp2 tf od (NN nodes2 ++ (ra, listOf (vals []).toArray rn2) :: rest)) :=
    List.Perm.trans (List.perm_middle (l₁ := [_, _, _, _, _])) (List.Perm.cons _ (ins_perm (a := [_, _, _, _, _, _])))
  rw [hTT] at hL
  have nd14 := ND.perm (ND.sub ndY hL) hP
  have K14 : SOK w c od nodes2 ((ra, listOf (vals []).toArray rn2) :: (V, listOf (vals ov).toArray k10) :: (BLg Lf o1 o2 o3 o4' bA Y D6 bs1 y2 ws2 e1 k11 0 [] ++ rest)) := SOK.mk' (nd14.perm SL_perm2.symm) K4.dict K4.lo
  have N14 : News g Lf h11 (SL w c (.ref ra) (np + rs.length) nf tp2 tf od (NN nodes2 ++ (ra, listOf (vals []).toArray rn2) :: (V, listOf (vals ov).toArray k10) :: (BLg Lf o1 o2 o3 o4' bA Y D6 bs1 y2 ws2 e1 k11 0 [] ++ rest))) := News.sub N13 fun p hp => hL.subset (hP.mem_iff.mp (SL_perm2.mem_iff.mpr hp))
  clear hL hP
  clear N13
  have hgk : ∀ q ∈ ov, q.1 ∈ nodes2.map (·.k) := fun q hq => by
    rw [← keys_abs]
    refine (hdo.1.keys q.1).mpr (dy2.rng q.1 (List.mem_append_right _ (List.mem_append_left _ ?_)))
    rw [← hov] at hq
    exact List.mem_map_of_mem (List.mem_filter.mp hq).1
  refine wpAny_execs_cons (bT11 (rs := []) (ds := ov) bx F11 N14 K14 (by refine Eq.trans (if_neg (by decide)) (Eq.trans (if_neg (by decide)) (Eq.trans (if_neg (by decide)) ?_)); exact S6.get (by ((repeat (first | exact if_pos rfl | refine Eq.trans (if_neg (by decide)) ?_ | assumption))))) (by ((repeat (first | exact if_pos rfl | refine Eq.trans (if_neg (by decide)) ?_ | assumption))))
    (.tail _ (List.mem_append_left _ (by ((repeat (first | exact List.Mem.head _ | refine List.Mem.tail _ ?_)))))) d4' (.head _) (by omega) hgk (BA_sk hskt hB) (suc_sk hskt hsuc) hout (fun i => Nat.le_trans (hl3 i) (by omega)) fun h12 tk12 m12 nodes3 rs3 rn3 tf3 S12 F12 N15 K15 hsk3 hab3 => ?_)
  refine wpAny_execs_nil ?_
  have hA3 : absN nodes3 = ((ov.map (·.1)).foldl doneA (absN nodes2, [])).1 := congrArg Prod.fst hab3
  have hR3 : rs3.map (·.1) = ((ov.map (·.1)).foldl doneA (absN nodes2, [])).2 := congrArg Prod.snd hab3
  rw [← hA3] at G3 dy3
  rw [← hR3] at dy3 hr3
  refine hnext h12 tk12 m12 o4' Y D6 bs1 y2 ws2 k11 0 (np + rs.length) (nf + ov.length) tp2 tf3 nodes3 rs3 rn3 ((ov.map (·.1)).reverse ++ D) M tM ?_ (S12.get (by ((repeat (first | exact if_pos rfl | refine Eq.trans (if_neg (by decide)) ?_ | assumption))))) (S12.get (by ((repeat (first | exact if_pos rfl | refine Eq.trans (if_neg (by decide)) ?_ | assumption))))) F12 (News.sub N15 fun p hp => SL_ins (SL_pre.mp hp)) (K15.perm (List.Perm.swap _ _ _)).less d4' ⟨G3, dy3, ?_, ?_, ?_⟩ (hsk3.trans hskt)
  · exact (same_job S12).trans (Same.put' (Same.put' (Same.put' ((same_job S6).trans (Same.put' (Same.put' (Same.put' (Same.refl _ _))))))))
  · have hr : ∀ k ∈ rs3.map (·.1), ∃ d ∈ (ys1.map (·.1)).filter (fun j => decide (gI (bs1.map (·.1)) j + gI (hs.map (·.1)) j = M)), d ∈ needs k := fun k hk => by
      rcases hr3 k hk with q | q
      · cases q
      · rw [← hovI]; exact q
    have := S1.tick hfull hM' hmin' hr
    rw [← hovI, ← hy2I] at this
    exact this
  · have h1 := iv.cn
    have h2 := hpm.length_eq
    simp only [List.length_append, List.length_map] at h1 h2 ⊢
    omega
  · have h1 := iv.pr
    have h2 : 0 < ov.length := by
      obtain ⟨q, hq, e⟩ := List.mem_map.mp hM
      rw [← hov]
      exact List.length_pos_of_mem (List.mem_filter.mpr ⟨hq, by simpa using e⟩)
    rw [List.length_append, List.length_reverse, List.length_map]
    omega
end
/-! part C7 -/
set_option maxHeartbeats 1000000
set_option maxHeartbeats 1000000
theorem BLI {Lf : Addr} {o1 o2 o3 o4 : Obj} {bA yA wA : Addr} {bs ys ws : List (Int × Tok)} {e1 e2 e3 : Nat} {w : World} {c : Sx} {r : Value} {np nf : Int} {tp tf : Nat} {od : Obj} {l rest : List (Addr × Obj)} {x y : Addr × Obj} : (BLg Lf o1 o2 o3 o4 bA yA wA bs ys ws e1 e2 e3 (SL w c r np nf tp tf od (l ++ x :: y :: rest))).Perm (y :: BLg Lf o1 o2 o3 o4 bA yA wA bs ys ws e1 e2 e3 (SL w c r np nf tp tf od (l ++ x :: rest))) := by
  have e : ∀ z, BLg Lf o1 o2 o3 o4 bA yA wA bs ys ws e1 e2 e3 (SL w c r np nf tp tf od (l ++ x :: z)) = BLg Lf o1 o2 o3 o4 bA yA wA bs ys ws e1 e2 e3 (SL w c r np nf tp tf od (l ++ [x])) ++ z := fun z => congrArg (fun t => _ :: _ :: _ :: _ :: _ :: _ :: _ :: t) (SL_cut l [x] z)
  rw [e (y :: rest), e rest]
  exact List.perm_middle
abbrev bNames : List Str := ["turn", "active", "given", "free", "job", "waiting", "over", "busy"]
theorem same_turn {a b : Str → Option Value} (h : Same ["active", "given", "free", "job", "waiting", "over", "busy"] a b) : Same bNames a b := fun z hz => h z (by
  simp only [List.contains_cons, List.contains_nil, Bool.or_false, Bool.or_eq_false_iff] at hz ⊢
  simp [hz])
/-- the ledger of the long loop -/
inductive JB (w : World) (c : Sx) (ra : Addr) (od : Obj) (Lf : Addr) (o1 o2 o3 : Obj) (bA : Addr) (e1 : Nat) (rest : List (Addr × Obj)) (n : Nat) (needs : Int → List Int) (hs : List Int) (W : Int) (skn : List Nd) (i : Nat) (m : Str → Option Value) : List (Addr × Obj) → Prop
  | mk (o4 : Obj) (yA wA : Addr) (bs ys ws : List (Int × Tok)) (e2 e3 : Nat) (np nf : Int) (tp tf : Nat) (nodes : List Nd) (rs : List (Int × Tok)) (rn : Nat) (D : List Int) (ck : Int) (tck : Tok)
    (K : SOK w c od nodes ((ra, listOf (vals rs).toArray rn) :: (BLg Lf o1 o2 o3 o4 bA yA wA bs ys ws e1 e2 e3 [] ++ rest))) (my : m (Str.ofString "busy") = some (.ref yA)) (mw : m (Str.ofString "waiting") = some (.ref wA)) (d4 : o4.data = .cell (some (.int ck tck)))
    (iv : Inv n needs hs W i (absN nodes) (rs.map (·.1)) np nf (bs.map (·.1)) (ys.map (·.1)) (ws.map (·.1)) D ck) (hk : sk nodes = skn) :
    JB w c ra od Lf o1 o2 o3 bA e1 rest n needs hs W skn i m (BLg Lf o1 o2 o3 o4 bA yA wA bs ys ws e1 e2 e3 (SL w c (.ref ra) np nf tp tf od (NN nodes ++ (ra, listOf (vals rs).toArray rn) :: rest)))
section
variable {w : World} {A : Around} {g : Heap} {Lf : Addr} {m : Str → Option Value} {s : Shared} {Q : Flow → Shared → Prop} {o1 o2 o3 o4 : Obj} {bA yA wA hA nA : Addr} {bs ys ws hs : List (Int × Tok)} {e1 e2 e3 e4 e6 : Nat} {ck W : Int} {tck tW : Tok} {nv : List Value}
  {A₀ : Around} {base : Heap} {outer : List Env} {p : Program} {loose : List Str} {mean : ExcName → Option Value} {mg mb : Str → Option Value}
  {c : Sx} {ra : Addr} {np nf : Int} {tp tf rn : Nat} {od : Obj} {nodes : List Nd} {rs : List (Int × Tok)} {rest : List (Addr × Obj)} {n i : Nat} {needs : Int → List Int} {D : List Int}
theorem bLoop (bx : Bx w p loose mean mg mb A₀ base outer A g Lf) (F : Fr g Lf s.heap m) (N : News g Lf s.heap (BLg Lf o1 o2 o3 o4 bA yA wA bs ys ws e1 e2 e3 (SL w c (.ref ra) np nf tp tf od (NN nodes ++ (ra, listOf (vals rs).toArray rn) :: rest))))
    (K : SOK w c od nodes ((ra, listOf (vals rs).toArray rn) :: (BLg Lf o1 o2 o3 o4 bA yA wA bs ys ws e1 e2 e3 [] ++ rest)))
    (d1 : o1.data = .cell (some (.ref nA))) (d2 : o2.data = .cell (some (.ref hA))) (d3 : o3.data = .cell (some (.ref bA))) (d4 : o4.data = .cell (some (.int ck tck))) (iH : (hA, listOf (vals hs).toArray e4) ∈ rest) (iN : (nA, listOf nv.toArray e6) ∈ rest) (hnv : nv.length = n)
    (ms : m (Str.ofString "sorter") = some (.ref c.sx)) (mW : m (Str.ofString "workers") = some (.int W tW)) (my : m (Str.ofString "busy") = some (.ref yA)) (mw : m (Str.ofString "waiting") = some (.ref wA))
    (iv : Inv n needs (hs.map (·.1)) W 0 (absN nodes) (rs.map (·.1)) np nf (bs.map (·.1)) (ys.map (·.1)) (ws.map (·.1)) D ck) (hn : n ≤ 12) (hhs : hs.length = n) (hW : 1 ≤ W) (hW2 : W ≤ 12) (hh0 : ∀ j : Int, 0 ≤ gI (hs.map (·.1)) j)
    (hB : BA 1000 (absN nodes)) (hsuc : ∀ nd ∈ nodes, ∀ p ∈ nd.si, p.1 ∈ nodes.map (·.k))
    (h : ∀ h' tk m' bs', Fr g Lf h' m' → News g Lf h' ((Lf + 3, o3) :: (bA, listOf (vals bs').toArray e1) :: rest) → Good n needs (hs.map (·.1)) W (bs'.map (·.1)) → Q .next { s with heap := h', toks := tk }) :
    wpAny (model PR w) A (exec (bS 7) (bEnv Lf)) Q (fun _ _ => False) s := by
  show wpAny _ _ (exec (.For _ _ _ _ _) _) _ _ _
  have X := bx.G.X
  have B := bx.G.B
  have TP := bx.G.T
  have hh := bx.hh
  have iNN := List.mem_append_right (BLg Lf o1 o2 o3 o4 bA yA wA bs ys ws e1 e2 e3 []) (.tail _ (.tail _ (.tail _ (List.mem_append_right (NN nodes) (.tail (ra, listOf (vals rs).toArray rn) iN)))) : (nA, listOf nv.toArray e6) ∈ SL w c (.ref ra) np nf tp tf od (NN nodes ++ (ra, listOf (vals rs).toArray rn) :: rest))
  refine for_rule ?_
  (repeat' ((fail_if_success (with_reducible first | (refine at1 ?_ ?_; constructor) | (refine at3 ?_ ?_; constructor) | show @ite Prop _ _ _ _ | (refine at4 ?_ ?_; constructor) )); (first | ((with_reducible first | refine' b_clock ?N ?m ?d ?_ | refine' b_begun ?N ?m ?d ?_ | refine' b_hours ?N ?m ?d ?_ | refine' b_needs ?N ?m ?d ?_ ); (case N => assumption); (case m => first | assumption | (repeat (first | exact List.Mem.head _ | refine List.Mem.tail _ ?_))); (case d => assumption)) | ((with_reducible show wpAny _ _ (eval (Expr.Name _ _) (bEnv _)) _ _ _); refine' b_local ?F ?v ?_; (case F => assumption); (case v => (repeat (first | exact if_pos rfl | refine Eq.trans (if_neg (by decide)) ?_))))  | (k_unfold; (try dsimp only)) | (k_end; wrow_close) | walk1 | (dsimp only; walk1) | (leave1; walk_say "STEP leave1"; try dsimp only) | fail "no step")))
  refine len_list (items := nv.toArray) (News.isList N iNN) (by rw [List.size_toArray]; omega) ?_
  rw [List.size_toArray, hnv]
  (repeat' ((fail_if_success (with_reducible first | (refine at1 ?_ ?_; constructor) | (refine at3 ?_ ?_; constructor) | show @ite Prop _ _ _ _ | (refine at4 ?_ ?_; constructor) )); (first | ((with_reducible first | refine' b_clock ?N ?m ?d ?_ | refine' b_begun ?N ?m ?d ?_ | refine' b_hours ?N ?m ?d ?_ | refine' b_needs ?N ?m ?d ?_ ); (case N => assumption); (case m => first | assumption | (repeat (first | exact List.Mem.head _ | refine List.Mem.tail _ ?_))); (case d => assumption)) | ((with_reducible show wpAny _ _ (eval (Expr.Name _ _) (bEnv _)) _ _ _); refine' b_local ?F ?v ?_; (case F => assumption); (case v => (repeat (first | exact if_pos rfl | refine Eq.trans (if_neg (by decide)) ?_))))  | (k_unfold; (try dsimp only)) | (k_end; wrow_close) | walk1 | (dsimp only; walk1) | (leave1; walk_say "STEP leave1"; try dsimp only) | fail "no step")))
  refine for_range (n := n + 1) bNames (fun i m' nx => JB w c ra od Lf o1 o2 o3 bA e1 rest n needs (hs.map (·.1)) W (sk nodes) i m' nx) hh (by omega) (fun _ _ => rfl) F N ⟨o4, yA, wA, bs, ys, ws, e2, e3, np, nf, tp, tf, nodes, rs, rn, D, ck, tck, K, my, mw, d4, iv, rfl⟩ ?_ ?_
  · rintro i tv mu nx h2 tk2 I io Qt hQt hi ⟨o4', yA', wA', bs', ys', ws', e2', e3', np', nf', tp', tf', nodes', rs', rn', D', ck', tck', K', my', mw', d4', iv', hsk'⟩ hnI F2 N2
    clear F N
    have K2 : SOK w c od nodes' ((ra, listOf (vals rs').toArray rn') :: (BLg Lf o1 o2 o3 o4' bA yA' wA' bs' ys' ws' e1 e2' e3' [] ++ (I, io) :: rest)) :=
      (SOK.moreOff (o := io) K' (r := .ref ra) (np := np') (nf := nf') (tp := tp') (tf := tf') fun p hp => hnI p (SL_pre.mpr hp)).perm (List.perm_middle (l₁ := (ra, listOf (vals rs').toArray rn') :: BLg Lf o1 o2 o3 o4' bA yA' wA' bs' ys' ws' e1 e2' e3' []))
    refine wpAny_assign_Name (storeX_L F2 N2 fun h3 F3 N3 => ?_)
    clear F2 N2
    show wpAny _ _ (execs [bT 0, bT 1, bT 2, bT 3, bT 4, bT 5, bT 6, bT 7, bT 8, bT 9, bT 10, bT 11] (bEnv Lf)) _ _ _
    have msr : mm bNames mu m (Str.ofString "sorter") = some (.ref c.sx) := Eq.trans (if_neg (by decide)) ms
    have mWr : mm bNames mu m (Str.ofString "workers") = some (.int W tW) := Eq.trans (if_neg (by decide)) mW
    refine bTurn (rest := (I, io) :: rest) bx F3 (News.sub N3 fun p hp => BLI.mem_iff.mp hp) K2 d2 d3 d4' (.tail _ iH) (Eq.trans (if_neg (by decide)) msr) (Eq.trans (if_neg (by decide)) mWr) (Eq.trans (if_neg (by decide)) my') (Eq.trans (if_neg (by decide)) mw') iv' hn hhs hW hW2 hh0 (BA_sk hsk' hB) (suc_sk hsk' hsuc) ?_ ?_
    · intro h4 tk4 m4 bs4 F4 N4 hg
      refine hQt .brk _ ?_
      show Q .next _
      refine h _ _ m4 bs4 F4 (News.sub N4 fun p hp => ?_) hg
      rcases List.mem_cons.mp hp with rfl | hp
      · exact .head _
      rcases List.mem_cons.mp hp with rfl | hp
      · exact .tail _ (.head _)
      · exact .tail _ (.tail _ (.tail _ hp))
    · intro h4 tk4 m4 o44 yA4 wA4 bs4 ys4 ws4 e24 e34 np4 nf4 tp4 tf4 nodes4 rs4 rn4 D4 ck4 tck4 S4 my4 mw4 F4 N4 K4 d44 iv4 hsk4
      have K5 := (K4.perm (List.perm_middle (l₁ := (ra, listOf (vals rs4).toArray rn4) :: BLg Lf o1 o2 o3 o44 bA yA4 wA4 bs4 ys4 ws4 e1 e24 e34 [])).symm)
      refine hQt _ _ (TurnP.next F4 N4 (fun p hp => BLI.mem_iff.mpr hp) (fun p hp => ?_) ⟨(same_turn S4).trans (Same.put' same_of_mm), o44, yA4, wA4, bs4, ys4, ws4, e24, e34, np4, nf4, tp4, tf4, nodes4, rs4, rn4, D4, ck4, tck4, K5.less, my4, mw4, d44, iv4, hsk4.trans hsk'⟩)
      exact K5.off p (SL_pre.mp hp)
  · rintro mu nx h2 tk2 ⟨o4', yA', wA', bs', ys', ws', e2', e3', np', nf', tp', tf', nodes', rs', rn', D', ck', tck', K', my', mw', d4', iv', hsk'⟩ F2 N2
    have h1 := iv'.pr
    have h2 := len_rng (List.nodup_append.mp iv'.dy.nd).1 (fun x hx => iv'.dy.rng x (List.mem_append_left _ hx))
    omega
end
/-! part L12 -/
set_option maxHeartbeats 1000000
set_option maxHeartbeats 4000000
section
variable {prog : Program} {w : World} {A : Around} {R : Result → Shared → Prop} {s : Shared} {knd : KeyKind prog w Int}
theorem stored_key {kvs : List (Int × Value)} {k : Int} {v : Value} (h : k ∉ kvs.map (·.1)) : stored kvs k v = kvs ++ [(k, v)] := stored_new h
/-- a dict comprehension whose values are new lists: the loop -/
inductive DL (prog : Program) (w : World) (knd : KeyKind prog w Int) (s : Shared) (D C : Addr) (wr : List Addr) (n : Nat) (St : Nat → Heap → Prop) (κ : Nat → Int) (ρ : Nat → List (Int × Tok)) (k : Nat) : Shared → Prop
  | mk (h' : Heap) (tk : Nat) (m' : Str → Option Value) (Gs : List Gr) (st : St Gs.length h') (ac : h'.DictOf knd D (gkvs Gs)) (ns : h'.Ns C m') (g1 : ∀ (j : Nat) g, Gs[j]? = some g → g.k = κ j ∧ g.ps = ρ j)
    (g2 : ∀ g ∈ Gs, h'.get? g.a = some (listOf (vals g.ps).toArray g.n)) (g3 : ∀ g ∈ Gs, g.a ≠ D ∧ g.a ≠ C ∧ g.a ∉ wr ∧ ∀ o, g.a ∉ wr → s.heap.get? g.a = some o → False) (nd : (Gs.map (·.a)).Nodup) (le : Gs.length ≤ n) (hk : k = n + 1 - Gs.length)
    (kp : ∀ b o, b ≠ C → b ∉ wr → b ≠ D → s.heap.get? b = some o → h'.get? b = some o) : DL prog w knd s D C wr n St κ ρ k { s with heap := h', toks := tk }
theorem dc_loop {kx vx iter : PySem.Expr} {x : Str} {px : Pos} {scope : Scope} {pos : Pos} {I D : Addr} {fp wr : List Addr} {n : Nat} {P : Nat → Value → Prop} {St : Nat → Heap → Prop}
    {cenv : Env} {m : Str → Option Value} (W : Walks prog w A I fp wr n P St) (κ : Nat → Int) (ρ : Nat → List (Int × Tok)) (hκ : ∀ i j, i < n → j < n → κ i = κ j → i = j)
    (hx : cenv.kindOf x = some .local) (hp : (cenv.scope.kind == .class || (cenv.scope.kind == .module && cenv.locals != cenv.globals)) = false)
    (hDC : D ≠ cenv.locals) (hDf : D ∉ fp) (hCf : cenv.locals ∉ fp)
    (hst : St 0 s.heap) (hacc : s.heap.DictOf knd D []) (hn : s.heap.Ns cenv.locals m)
    (hkey : ∀ i v s₂ m₂, i < n → P i v → s₂.heap.Ns cenv.locals m₂ → m₂ x = some v → (∀ b o, b ≠ cenv.locals → b ∉ wr → b ≠ D → s.heap.get? b = some o → s₂.heap.get? b = some o) →
      wpAny (model prog w) A (eval kx cenv) (fun key s₃ => knd.is (κ i) key = true ∧ ∃ tk, s₃ = { s₂ with toks := tk }) (notedBy (model prog w) A cenv fun e s' => R (.error e) s') s₂)
    (hval : ∀ i v s₂ m₂, i < n → P i v → s₂.heap.Ns cenv.locals m₂ → m₂ x = some v → (∀ b o, b ≠ cenv.locals → b ∉ wr → b ≠ D → s.heap.get? b = some o → s₂.heap.get? b = some o) →
      wpAny (model prog w) A (eval vx cenv) (fun y s₃ => ∃ h' tk a ν, s₃ = { s₂ with heap := h', toks := tk } ∧ (∀ b o, s₂.heap.get? b = some o → h'.get? b = some o) ∧ y = .ref a ∧ s₂.heap.get? a = none ∧ h'.get? a = some (listOf (vals (ρ i)).toArray ν)) (notedBy (model prog w) A cenv fun e s' => R (.error e) s') s₂)
    (hR : ∀ h' tk m' (Gs : List Gr), h'.Ns cenv.locals m' → h'.DictOf knd D (gkvs Gs) → Gs.length = n → (∀ (j : Nat) g, Gs[j]? = some g → g.k = κ j ∧ g.ps = ρ j) → (∀ g ∈ Gs, h'.get? g.a = some (listOf (vals g.ps).toArray g.n)) → (∀ g ∈ Gs, g.a ≠ D ∧ g.a ≠ cenv.locals ∧ ∀ o, g.a ∉ wr → s.heap.get? g.a = some o → False) → (Gs.map (·.a)).Nodup →
      (∀ b o, b ≠ cenv.locals → b ∉ wr → b ≠ D → s.heap.get? b = some o → h'.get? b = some o) → R (.ok .next) { s with heap := h', toks := tk })
    (hlive : ∀ i h, St i h → ∀ b ∈ wr, ∃ o, h.get? b = some o) (hsz : n ≤ sizeLine) :
    codeAny (model prog w) A (.compLoop (.DictComp kx vx [⟨.Name x px, iter, [], 0⟩] scope pos) 0 (.ref I) (.ref D) cenv) R s := by
  refine codeAny_compLoop_testsD
    (DL prog w knd s D cenv.locals wr n St κ ρ) ?_ (n + 1)
    ⟨s.heap, s.toks, m, [], hst, hacc, hn, (by intro j g h; simp at h), (fun _ h => nomatch h), (fun _ h => nomatch h), List.nodup_nil, Nat.zero_le _, rfl, fun _ _ _ _ _ e => e⟩
  rintro k s' ⟨H, tk, m', Gs, hst', hacc', hn', hG, hGo, hGf, hGn, hi, hk0, hk⟩
  have hCw : cenv.locals ∉ wr := fun h => hCf (W.sub _ h)
  have hDw : D ∉ wr := fun h => hDf (W.sub _ h)
  by_cases hlt : Gs.length < n
  · refine W.item Gs.length _ _ _ hlt hst' fun v h₁ tk₁ hPv hst₁ hk₁ => ?_
    refine wpAny_assign_Name (wpAny_storeName_local hx (hn'.at' fun o e => hk₁ _ o hCw e) (fun h₂ hn₂ hs₂ => ?_) hp)
    have up₂ : ∀ b o, b ≠ cenv.locals → b ∉ wr → H.get? b = some o → h₂.get? b = some o := fun b o hbC hbf e => hs₂.extBut b o hbC (hk₁ b o hbf e)
    have hst₂ : St (Gs.length + 1) h₂ := W.frame _ _ _ hst₁ fun b hb o e => hs₂.extBut b o (fun h => hCf (h ▸ hb)) e
    refine tests_nil ?_
    simp only [if_true]
    have keep₂ : ∀ b o, b ≠ cenv.locals → b ∉ wr → b ≠ D → s.heap.get? b = some o → h₂.get? b = some o := fun b o hbC hbf hbD e => up₂ b o hbC hbf (hk b o hbC hbf hbD e)
    refine wpAny_mono (hkey Gs.length v _ _ hlt hPv hn₂ (by simp) keep₂) (fun key s₄ h₄ => ?_) fun _ _ e => e
    obtain ⟨hkk, tk₄, rfl⟩ := h₄
    refine wpAny_mono (hval Gs.length v _ _ hlt hPv hn₂ (by simp) keep₂) (fun y s₅ h₅ => ?_) fun _ _ e => e
    obtain ⟨h₅, tk₅, a, ν, rfl, hk₅, rfl, ha0, ha⟩ := h₅
    dsimp only at ha0 hk₅
    have hacc₅ : h₅.DictOf knd D (gkvs Gs) := hacc'.at fun o e => hk₅ _ o (up₂ D o hDC hDw e)
    have hlen : (gkvs Gs).length = Gs.length := by unfold gkvs; rw [List.length_map]
    refine wpAny_dictSet_pairs (hsz := by rw [hlen]; omega) hkk hacc₅ fun h₆ hl₆ hs₆ => ?_
    have hkn : κ Gs.length ∉ (gkvs Gs).map (·.1) := fun q => by
      unfold gkvs at q
      rw [List.map_map] at q
      obtain ⟨g, hg, e⟩ := List.mem_map.mp q
      obtain ⟨j, hj⟩ := List.mem_iff_getElem?.mp hg
      have hjl : j < Gs.length := (List.getElem?_eq_some_iff.mp hj).1
      have e' : g.k = κ Gs.length := e
      rw [(hG j g hj).1] at e'
      have := hκ j Gs.length (by omega) hlt e'
      omega
    have haD : a ≠ D := fun e => by
      obtain ⟨o, ho, _⟩ := Heap.dictOf_iff.mp (hacc'.at fun o e => up₂ D o hDC hDw e)
      rw [e, ho] at ha0; cases ha0
    have haC : a ≠ cenv.locals := fun e => by
      obtain ⟨o, _, _, ho, _⟩ := hn₂
      rw [e, ho] at ha0; cases ha0
    have haw : a ∉ wr := fun e => by
      obtain ⟨o, ho⟩ := hlive _ _ hst₂ a e
      rw [ho] at ha0; cases ha0
    have old₆ : ∀ b o, b ≠ D → h₂.get? b = some o → h₆.get? b = some o := fun b o hb e => hs₆.extBut b o hb (hk₅ b o e)
    refine ⟨n + 1 - (Gs.length + 1), lt_dec hlt hk0, h₆, _, _, Gs ++ [⟨κ Gs.length, a, ρ Gs.length, ν⟩], ?_, ?_, (hn₂.keeps hk₅).sameBut hs₆ (Ne.symm hDC), ?_, ?_, ?_, ?_, (by rw [List.length_append, List.length_singleton]; exact hlt), (by rw [List.length_append, List.length_singleton]), ?_⟩
    · have := W.frame _ _ h₆ hst₂ fun b hb o e => hs₆.extBut b o (fun h => hDf (h ▸ hb)) (hk₅ b o e)
      simpa using this
    · rw [stored_key hkn] at hl₆
      unfold gkvs at hl₆ ⊢
      rw [List.map_append]
      exact hl₆
    · intro j g hj
      rcases Nat.lt_trichotomy j Gs.length with h | h | h
      · exact hG j g (by rwa [List.getElem?_append_left h] at hj)
      · subst h; simp at hj; subst hj; exact ⟨rfl, rfl⟩
      · have hnone : (Gs ++ [⟨κ Gs.length, a, ρ Gs.length, ν⟩])[j]? = none := List.getElem?_eq_none (by rw [List.length_append, List.length_singleton]; omega)
        rw [hnone] at hj; cases hj
    · intro g hg
      rcases List.mem_append.mp hg with q | q
      · have hf := hGf g q
        exact old₆ _ _ hf.1 (up₂ _ _ hf.2.1 hf.2.2.1 (hGo g q))
      · rw [List.mem_singleton.mp q]
        exact hs₆.extBut _ _ haD ha
    · intro g hg
      rcases List.mem_append.mp hg with q | q
      · exact hGf g q
      · rw [List.mem_singleton.mp q]
        refine ⟨haD, haC, haw, fun o _ e => ?_⟩
        have := keep₂ a o haC haw haD e
        rw [ha0] at this; cases this
    · rw [List.map_append, List.map_cons, List.map_nil]
      refine List.nodup_append.mpr ⟨hGn, by simp, fun x hx y hy e => ?_⟩
      obtain ⟨g, hg, rfl⟩ := List.mem_map.mp hx
      have hf := hGf g hg
      have h2 := up₂ _ _ hf.2.1 hf.2.2.1 (hGo g hg)
      rw [e, List.mem_singleton.mp hy, ha0] at h2; cases h2
    · exact fun b o hbC hbf hbD e => old₆ b o hbD (keep₂ b o hbC hbf hbD e)
  · have hin : Gs.length = n := eq_top hlt hi
    refine W.done _ _ _ (hin ▸ hst') fun h₁ tk₁ hk₁ => ?_
    exact hR h₁ tk₁ m' Gs (hn'.at' fun o e => hk₁ _ o hCw e) (hacc'.at fun o e => hk₁ _ o hDw e) hin hG (fun g hg => hk₁ _ _ (hGf g hg).2.2.1 (hGo g hg)) (fun g hg => ⟨(hGf g hg).1, (hGf g hg).2.1, (hGf g hg).2.2.2⟩) hGn fun b o hbC hbf hbD e => hk₁ b o hbf (hk b o hbC hbf hbD e)
end
section
variable {prog : Program} {w : World} {knd : KeyKind prog w Int} {A : Around} {E : Value → Shared → Prop} {env : Env}
/-- key and value of a dict comprehension -/
structure DcQ (prog : Program) (w : World) (knd : KeyKind prog w Int) (A : Around) (env : Env) (scope : Scope) (cl : List (Str × Addr)) (x : Str) (kx vx : PySem.Expr) (wr : List Addr) (n : Nat) (P : Nat → Value → Prop) (κ : Nat → Int) (ρ : Nat → List (Int × Tok)) (s₂ : Shared) : Prop where
  key : ∀ C i v s₃ m₃ E', s₂.heap.get? C = none → i < n → P i v → s₃.heap.Ns C m₃ → m₃ x = some v → (∀ b o, b ∉ wr → s₂.heap.get? b = some o → s₃.heap.get? b = some o) →
    wpAny (model prog w) A (eval kx (compEnvC scope cl C env)) (fun key s₄ => knd.is (κ i) key = true ∧ ∃ tk, s₄ = { s₃ with toks := tk }) E' s₃
  val : ∀ C i v s₃ m₃ E', s₂.heap.get? C = none → i < n → P i v → s₃.heap.Ns C m₃ → m₃ x = some v → (∀ b o, b ∉ wr → s₂.heap.get? b = some o → s₃.heap.get? b = some o) →
    wpAny (model prog w) A (eval vx (compEnvC scope cl C env)) (fun y s₄ => ∃ h' tk a ν, s₄ = { s₃ with heap := h', toks := tk } ∧ (∀ b o, s₃.heap.get? b = some o → h'.get? b = some o) ∧ y = .ref a ∧ s₃.heap.get? a = none ∧ h'.get? a = some (listOf (vals (ρ i)).toArray ν)) E' s₃
def DcX (prog : Program) (w : World) (knd : KeyKind prog w Int) (A : Around) (env : Env) (scope : Scope) (cl : List (Str × Addr)) (x : Str) (kx vx : PySem.Expr) (κ : Nat → Int) (ρ : Nat → List (Int × Tok)) (Q : Value → Shared → Prop) (it : Value) (s₂ : Shared) : Prop :=
  ∃ I fp wr n P St, it = .ref I ∧ Walks prog w A I fp wr n P St ∧ (∀ i h, St i h → ∀ b ∈ wr, ∃ o, h.get? b = some o) ∧ n ≤ sizeLine ∧ (∀ i j, i < n → j < n → κ i = κ j → i = j) ∧ St 0 s₂.heap ∧ (∀ b ∈ fp, b < s₂.heap.objs.size) ∧ DcQ prog w knd A env scope cl x kx vx wr n P κ ρ s₂ ∧
    (∀ D h' tk (Gs : List Gr), s₂.heap.objs.size ≤ D → s₂.heap.get? D = none → h'.DictOf knd D (gkvs Gs) → Gs.length = n → (∀ (j : Nat) g, Gs[j]? = some g → g.k = κ j ∧ g.ps = ρ j) → (∀ g ∈ Gs, h'.get? g.a = some (listOf (vals g.ps).toArray g.n)) → (∀ g ∈ Gs, g.a ≠ D ∧ (g.a ∉ wr → s₂.heap.get? g.a = none)) → (Gs.map (·.a)).Nodup →
      (∀ b o, b ∉ wr → s₂.heap.get? b = some o → h'.get? b = some o) → Q (.ref D) { s₂ with heap := h', toks := tk })
theorem dc_block {kx vx iter : PySem.Expr} {x : Str} {px : Pos} {scope : Scope} {cl : List (Str × Addr)} {pos : Pos} {s₂ : Shared} {I : Addr} {fp wr : List Addr} {n : Nat} {P : Nat → Value → Prop}
    {St : Nat → Heap → Prop} (W : Walks prog w A I fp wr n P St) (hlive : ∀ i h, St i h → ∀ b ∈ wr, ∃ o, h.get? b = some o) (hsz : n ≤ sizeLine) (κ : Nat → Int) (ρ : Nat → List (Int × Tok)) (hκ : ∀ i j, i < n → j < n → κ i = κ j → i = j) {RR : Value → Addr → Result → Shared → Prop}
    (hcell : ∀ y ∈ scope.names, y.2 ≠ .cell) (hkind : scope.kind = .function) (hx : scope.names.lookup x = some .local) (hst : St 0 s₂.heap) (hfp : ∀ b ∈ fp, b < s₂.heap.objs.size)
    (hq : DcQ prog w knd A env scope cl x kx vx wr n P κ ρ s₂)
    (hRR : ∀ D C h' tk m' (Gs : List Gr), s₂.heap.objs.size ≤ D → s₂.heap.get? D = none → s₂.heap.get? C = none → D ≠ C → h'.Ns C m' → h'.DictOf knd D (gkvs Gs) → Gs.length = n → (∀ (j : Nat) g, Gs[j]? = some g → g.k = κ j ∧ g.ps = ρ j) → (∀ g ∈ Gs, h'.get? g.a = some (listOf (vals g.ps).toArray g.n)) → (∀ g ∈ Gs, g.a ≠ D ∧ g.a ≠ C ∧ (g.a ∉ wr → s₂.heap.get? g.a = none)) → (Gs.map (·.a)).Nodup →
      (∀ b o, b ∉ wr → s₂.heap.get? b = some o → h'.get? b = some o) → RR (.ref D) C (.ok .next) { s₂ with heap := h', toks := tk }) :
    wpAny (model prog w) A newDict (fun acc s₃ => wpAny (model prog w) A (newFunctionEnv scope env.globals cl [] env.qual none .none (some env)) (fun cenv s₄ =>
      codeAny (model prog w) A (.compStart (.DictComp kx vx [⟨.Name x px, iter, [], 0⟩] scope pos) 0 (.ref I) acc { cenv with scope := relabel scope env }) (RR acc cenv.locals) s₄) E s₃) E s₂ := by
  refine wpAny_newObj_type (wpAny_newFunctionEnv hcell (by intro y hy; simp at hy) (fun h₁ hns₁ hsb₁ => ?_) hkind)
  dsimp only at hns₁ hsb₁ ⊢
  have hnew : (s₂.heap.push { cls := .type "dict", dict := none, data := .dict #[] }).DictOf knd s₂.heap.objs.size [] := Heap.DictOf.new s₂.heap
  generalize hH2 : s₂.heap.push { cls := .type "dict", dict := none, data := .dict #[] } = H2 at hns₁ hsb₁ hnew ⊢
  have hC : H2.objs.size = s₂.heap.objs.size + 1 := by rw [← hH2, Heap.size_push]
  have hDC : s₂.heap.objs.size ≠ H2.objs.size := by rw [hC]; exact Nat.ne_of_lt (Nat.lt_succ_self _)
  have below : ∀ b, b < s₂.heap.objs.size → b ≠ H2.objs.size ∧ b ≠ s₂.heap.objs.size := fun b hb => ⟨by rw [hC]; exact Nat.ne_of_lt (Nat.lt_succ_of_lt hb), Nat.ne_of_lt hb⟩
  have hDf : s₂.heap.objs.size ∉ fp := fun hm => Nat.lt_irrefl _ (hfp _ hm)
  have hCf : H2.objs.size ∉ fp := fun hm => by have := hfp _ hm; rw [hC] at this; exact Nat.lt_irrefl _ (Nat.lt_of_succ_lt this)
  have old : ∀ b o, s₂.heap.get? b = some o → h₁.get? b = some o := fun b o e => hsb₁.extBut b o (below b (Heap.lt_size e)).1 (Heap.get?_push_of_some _ (hH2 ▸ Heap.get?_push_of_some _ e))
  have hacc : h₁.DictOf knd s₂.heap.objs.size [] := hnew.at fun o e => hsb₁.extBut _ _ hDC (Heap.get?_push_of_some _ e)
  have hst₁ : St 0 h₁ := W.frame _ _ _ hst fun b _ o e => old b o e
  have fresh : ∀ a, s₂.heap.objs.size ≤ a → s₂.heap.get? a = none := fun a ha => by
    cases e : s₂.heap.get? a with
    | none => rfl
    | some o' => exact absurd (Heap.lt_size e) (Nat.not_lt.mpr ha)
  have hC0 : s₂.heap.get? H2.objs.size = none := fresh _ (by rw [hC]; exact Nat.le_succ _)
  have loop : ∀ s₃ : Shared, s₃ = { s₂ with heap := h₁, toks := s₂.toks + ([] : List (Str × Value)).length } →
      codeAny (model prog w) A (.compLoop (.DictComp kx vx [⟨.Name x px, iter, [], 0⟩] scope pos) 0 (.ref I) (.ref s₂.heap.objs.size) (compEnvC scope cl H2.objs.size env))
        (RR (.ref s₂.heap.objs.size) H2.objs.size) s₃ := by
    rintro s₃ rfl
    refine dc_loop (hsz := hsz) (knd := knd) (cenv := compEnvC scope cl H2.objs.size env) W κ ρ hκ (lookup_relabel_local hx) (by simp [compEnvC, relabel, hkind]) hDC hDf hCf hst₁ hacc hns₁
      (fun i v s₃ m₃ hi hv hn hm hk => hq.key _ i v s₃ m₃ _ hC0 hi hv hn hm fun b o hbf e => hk b o (below b (Heap.lt_size e)).1 hbf (below b (Heap.lt_size e)).2 (old b o e))
      (fun i v s₃ m₃ hi hv hn hm hk => hq.val _ i v s₃ m₃ _ hC0 hi hv hn hm fun b o hbf e => hk b o (below b (Heap.lt_size e)).1 hbf (below b (Heap.lt_size e)).2 (old b o e)) (fun h' tk m' Gs hn ha hlen hG hGo hGf hGn hk => ?_) hlive
    refine hRR _ _ h' tk m' Gs (Nat.le_refl _) (fresh _ (Nat.le_refl _)) hC0 hDC hn ha hlen hG hGo (fun g hg => ⟨(hGf g hg).1, (hGf g hg).2.1, fun hw => ?_⟩) hGn fun b o hbf e =>
      hk b o (below b (Heap.lt_size e)).1 hbf (below b (Heap.lt_size e)).2 (old b o e)
    cases e : s₂.heap.get? g.a with
    | none => rfl
    | some o => exact ((hGf g hg).2.2 o hw (old _ _ e)).elim
  exact codeAny_compStart_dict (loop _ rfl) (W.self 0 _ _ _ hst₁ (loop _ rfl))
theorem eval_dictcomp {s : Shared} {kx vx iter : PySem.Expr} {x : Str} {px : Pos} {scope : Scope} {cl : List (Str × Addr)} {pos : Pos} {Q : Value → Shared → Prop} (knd : KeyKind prog w Int) (κ : Nat → Int) (ρ : Nat → List (Int × Tok))
    (hclos : closureFor scope env = pure cl) (hcell : ∀ y ∈ scope.names, y.2 ≠ .cell) (hkind : scope.kind = .function)
    (hnames : ∀ y ∈ scope.names, y.2 = .local → scope.names.lookup y.1 = some .local) (hx : scope.names.lookup x = some .local)
    (h : wpAny (model prog w) A (eval iter env) (fun xv s₁ => wpAny (model prog w) A (pyIter xv) (DcX prog w knd A env scope cl x kx vx κ ρ Q) E s₁) E s)
    (hs : ∀ x, foldedSetIterable iter env x = pure x := by intro _; rfl) :
    wpAny (model prog w) A (eval (.DictComp kx vx [⟨.Name x px, iter, [], 0⟩] scope pos) env) Q E s := by
  rw [arm_eval_DictComp]
  refine wpAny_comprehension_free (use := none) rfl hs hclos hkind hnames (wpAny_mono h (fun xv s₁ h₁ => wpAny_mono h₁ (fun it s₂ h₂ => ?_) fun _ _ e => e) fun _ _ e => e)
  obtain ⟨I, fp, wr, n, P, St, rfl, W, hlive, hsz, hκ, hst, hfp, hq, hQ⟩ := h₂
  refine dc_block (knd := knd) (RR := fun acc C => compPost (model prog w) A E none Q acc C) W hlive hsz κ ρ hκ hcell hkind hx hst hfp hq ?_
  intro D C h' tk m' Gs hle hD hC hDC hn hl hlen hG hGo hGf hGn hk
  exact ⟨m', hn, fun h'' hs'' => hQ D h'' tk Gs hle hD (hl.extBut hs''.extBut hDC) hlen hG (fun g hg => hs''.extBut _ _ (hGf g hg).2.1 (hGo g hg)) (fun g hg => ⟨(hGf g hg).1, (hGf g hg).2.2⟩) hGn fun b o hbf e => hs''.extBut b o (by rintro rfl; rw [hC] at e; cases e) (hk b o hbf e)⟩
variable {h₀ : Heap} {L : Addr} {m : Str → Option Value} {news : List (Addr × Obj)}
theorem dcx_range {s : Shared} {kx vx : PySem.Expr} {x : Str} {scope : Scope} {cl : List (Str × Addr)} {Q : Value → Shared → Prop} {κ : Nat → Int} {ρ : Nat → List (Int × Tok)} {r : Addr} {a b c : Int} {t u v : Tok} {n : Nat} (hh : A.handled = none) (hr : IsRange s.heap r a b c t u v) (hsm : Builtin.Range.small a b c = true) (hn : Builtin.Range.rangeSize a b c = (n : Int)) (hκ : ∀ i j, i < n → j < n → κ i = κ j → i = j)
    (F : Fr h₀ L s.heap m) (N : News h₀ L s.heap news) (hz : n ≤ sizeLine)
    (q : ∀ C i t' s₃ m₃ E', i < n → CompAt h₀ news C x (.int (a + i * c) t') s₃ m₃ →
      wpAny (model prog w) A (eval kx (compEnvC scope cl C env)) (fun key s₄ => knd.is (κ i) key = true ∧ ∃ tk, s₄ = { s₃ with toks := tk }) E' s₃ ∧
      wpAny (model prog w) A (eval vx (compEnvC scope cl C env)) (fun y s₄ => ∃ h' tk a ν, s₄ = { s₃ with heap := h', toks := tk } ∧ (∀ b o, s₃.heap.get? b = some o → h'.get? b = some o) ∧ y = .ref a ∧ s₃.heap.get? a = none ∧ h'.get? a = some (listOf (vals (ρ i)).toArray ν)) E' s₃)
    (hQ : ∀ D h' tk od (Gs : List Gr), L < D → Fr h₀ L h' m → News h₀ L h' ((D, od) :: (gobjs Gs ++ news)) → od.IsDictOf knd (gkvs Gs) → ND ((D, od) :: (gobjs Gs)) → (∀ p ∈ (D, od) :: gobjs Gs, ∀ q ∈ news, q.1 ≠ p.1) → Gs.length = n → (∀ (j : Nat) g, Gs[j]? = some g → g.k = κ j ∧ g.ps = ρ j) → Q (.ref D) { s with heap := h', toks := tk }) :
    wpAny (model prog w) A (pyIter (.ref r)) (DcX prog w knd A env scope cl x kx vx κ ρ Q) E s := by
  refine wpAny_pyIter_range hr hsm ?_
  have W := Walks.range (prog := prog) (w := w) hh s.heap.objs.size a c n
  generalize hI : s.heap.objs.size = I at *
  generalize hIo : ({ cls := .type "range_iterator", data := .fields #[rawInt a, rawInt (Builtin.Range.rangeSize a b c), rawInt c] } : Obj) = iobj at *
  have hI0 : h₀.get? I = none := hI ▸ fresh_of F
  have F1 := F.push iobj
  have N1 : News h₀ L (s.heap.push iobj) news := fun p hp => ⟨Heap.get?_push_of_some _ (N p hp).1, (N p hp).2⟩
  have hnI : ∀ p ∈ news, p.1 ≠ I := fun p hp => hI ▸ Nat.ne_of_lt (news_lt N p hp)
  have hLI : L ≠ I := fun e => absurd F.ns.lt (by rw [e, hI]; exact Nat.lt_irrefl _)
  have mk : ∀ C v (s₃ : Shared) m₃, (s.heap.push iobj).get? C = none → s₃.heap.Ns C m₃ → m₃ x = some v → (∀ b o, b ∉ [I] → (s.heap.push iobj).get? b = some o → s₃.heap.get? b = some o) → CompAt h₀ news C x v s₃ m₃ := fun C v s₃ m₃ hC hn hm hk =>
    ⟨hn, hm, fun b o e => hk b o (fun h => by rw [List.mem_singleton.mp h, hI0] at e; cases e) (F1.keep b o e), fun q hq => hk _ _ (fun h => hnI q hq (List.mem_singleton.mp h)) (N1 q hq).1, (by
      cases e : h₀.get? C with
      | none => rfl
      | some o => have := F1.keep _ _ e; rw [hC] at this; cases this), fun q hq e => by have := (N1 q hq).1; rw [e, hC] at this; cases this⟩
  refine ⟨I, [I], [I], n, _, _, rfl, W, fun i h st b hb => by rw [List.mem_singleton.mp hb]; exact ⟨_, st⟩, hz, hκ, ?_, ?_, ⟨fun C i v s₃ m₃ E' hC hi hP hn hm hk => ?_, fun C i v s₃ m₃ E' hC hi hP hn hm hk => ?_⟩, ?_⟩
  · have e := Heap.get?_push_size s.heap (o := iobj) (by rw [← hIo]; rfl)
    show (s.heap.push iobj).get? I = _
    rw [← hI, e, ← hIo, hn]
    simp [rawInt]
  · intro b hb
    show b < (s.heap.push iobj).objs.size
    rw [Heap.size_push, List.mem_singleton.mp hb, hI]
    exact Nat.lt_succ_self _
  · obtain ⟨t', rfl⟩ := hP
    exact (q C i t' s₃ m₃ E' hi (mk C _ s₃ m₃ hC hn hm hk)).1
  · obtain ⟨t', rfl⟩ := hP
    exact (q C i t' s₃ m₃ E' hi (mk C _ s₃ m₃ hC hn hm hk)).2
  · intro D h' tk Gs hle hD hDo hlen hG hGo hGf hGn hk
    obtain ⟨od, hod, hdo⟩ := Heap.dictOf_iff.mp hDo
    have hDI : D ≠ I := fun e => by
      have := Heap.get?_push_size s.heap (o := iobj) (by rw [← hIo]; rfl)
      rw [hI, ← e, hD] at this; cases this
    have hgI : ∀ g ∈ Gs, g.a ∉ [I] ∨ g.a = I := fun g _ => by
      by_cases e : g.a = I
      · exact .inr e
      · exact .inl fun h => e (List.mem_singleton.mp h)
    have key : ∀ b : Addr, (b ∉ [I] → (s.heap.push iobj).get? b = none) → (∀ q ∈ news, q.1 ≠ b) ∧ b ≠ L ∧ h₀.get? b = none := fun b hb => by
      by_cases e : b = I
      · subst e; exact ⟨hnI, hLI.symm, hI0⟩
      · have h0 := hb fun h => e (List.mem_singleton.mp h)
        refine ⟨fun q hq e' => ?_, fun e' => ?_, ?_⟩
        · have := (N1 q hq).1; rw [e', h0] at this; cases this
        · obtain ⟨o, _, _, ho, _⟩ := F1.ns; rw [← e', h0] at ho; cases ho
        · cases e' : h₀.get? b with
          | none => rfl
          | some o => have := F1.keep _ _ e'; rw [h0] at this; cases this
    have kD := key D fun _ => hD
    refine hQ D h' tk od Gs (Nat.lt_of_lt_of_le F1.ns.lt hle) ⟨F1.ns.at' fun o e => hk _ o (fun h => hLI (List.mem_singleton.mp h)) e, fun b o e => hk b o (fun h => by rw [List.mem_singleton.mp h, hI0] at e; cases e) (F1.keep b o e), F1.above⟩ ?_ hdo ?_ ?_ hlen hG
    · intro p hp
      rcases List.mem_cons.mp hp with rfl | hp
      · exact ⟨hod, kD.2⟩
      rcases List.mem_append.mp hp with hp | hp
      · obtain ⟨g, hg, rfl⟩ := List.mem_map.mp hp
        exact ⟨hGo g hg, (key g.a (hGf g hg).2).2⟩
      · exact ⟨hk _ _ (fun h => hnI p hp (List.mem_singleton.mp h)) (N1 p hp).1, (N p hp).2⟩
    · refine ND.cons ?_ fun p hp => ?_
      · unfold ND gobjs
        rw [List.map_map]
        exact hGn
      · obtain ⟨g, hg, rfl⟩ := List.mem_map.mp hp
        exact (hGf g hg).1
    · intro p hp q' hq'
      rcases List.mem_cons.mp hp with rfl | hp
      · exact kD.1 q' hq'
      · obtain ⟨g, hg, rfl⟩ := List.mem_map.mp hp
        exact (key g.a (hGf g hg).2).1 q' hq'
end
section
variable {prog : Program} {w : World} {A : Around} {E : Value → Shared → Prop} {s : Shared} {value slice : PySem.Expr} {l : Addr} {items : Array Value} {zs : List Value} {vl vu : Value} {lo hi : Option Int} {Q : Value → Shared → Prop} {h₀ : Heap} {L : Addr} {m : Str → Option Value} {news : List (Addr × Obj)}
theorem slice_at (hl : s.heap.IsList l items) (pl : IsPart vl lo) (pu : IsPart vu hi) (e : kms_pick items.toList lo hi = zs)
    (h : Q (.ref (s.heap.objs.size + 1)) { s with heap := (s.heap.push { cls := .type "slice", data := .fields #[vl, vu, .none] }).push (listOf zs.toArray 0) })
    (hs : subscripted slice false (.ref l) (.ref s.heap.objs.size) = operate [.ref s.heap.objs.size, .ref l] (getItem (.ref l) (.ref s.heap.objs.size))) (hz : items.size ≤ sizeLine) :
    wpAny (model prog w) A (subscriptTail value slice (.ref l) (.ref s.heap.objs.size)) Q E { s with heap := s.heap.push { cls := .type "slice", data := .fields #[vl, vu, .none] } } := by
  refine tail_any (Heap.IsList.typeIs (s := { s with heap := s.heap.push { cls := .type "slice", data := .fields #[vl, vu, .none] } }) (hl.push _)) list_getitem_lookup (wpAny_getItem_list_slice (hl.push _) (Heap.IsSliceOf.new ..) pl pu .none (by simp) ?_ hz) hs
  show Q (.ref (s.heap.push _).objs.size) _
  rw [Heap.size_push, kms_pick_eq, e]
  exact h
theorem slice_KA (F : Fr h₀ L s.heap m) (N : News h₀ L s.heap news) (hl : s.heap.IsList l items) (pl : IsPart vl lo) (pu : IsPart vu hi) (e : kms_pick items.toList lo hi = zs)
    (h : ∀ D h', Fr h₀ L h' m → News h₀ L h' ((D, listOf zs.toArray 0) :: news) → (∀ p ∈ news, p.1 < D) → Q (.ref D) { s with heap := h' })
    (hs : subscripted slice false (.ref l) (.ref s.heap.objs.size) = operate [.ref s.heap.objs.size, .ref l] (getItem (.ref l) (.ref s.heap.objs.size))) (hz : items.size ≤ sizeLine) :
    wpAny (model prog w) A (subscriptTail value slice (.ref l) (.ref s.heap.objs.size)) Q E { s with heap := s.heap.push { cls := .type "slice", data := .fields #[vl, vu, .none] } } := by
  refine slice_at hl pl pu e ?_ hs hz
  have N1 := News.push (F.push { cls := .type "slice", data := .fields #[vl, vu, .none] }) (N.grown fun _ _ e => Heap.get?_push_of_some _ e) (listOf zs.toArray 0)
  rw [Heap.size_push] at N1
  exact h _ _ ((F.push _).push _) N1 fun p hp => Nat.lt_succ_of_lt (Heap.lt_size (N p hp).1)
theorem fresh_push {h : Heap} {o : Obj} : h.get? (h.objs.size + 1) = none := Heap.get?_none_of_le (Nat.le_succ _)
end
/-! part C8 -/
set_option maxHeartbeats 1000000
set_option maxHeartbeats 1000000
section
variable {w : World} {A : Around} {g : Heap} {Lf : Addr} {m : Str → Option Value} {s : Shared} {Q : Flow → Shared → Prop} {o1 o2 o3 o4 : Obj} {nA : Addr} {e6 : Nat} {NL : List Gr}
  {A₀ : Around} {base : Heap} {outer : List Env} {p : Program} {loose : List Str} {mean : ExcName → Option Value} {mg mb : Str → Option Value} {rest : List (Addr × Obj)} {n : Nat}
abbrev refsN (NL : List Gr) : List Value := NL.map fun g => Value.ref g.a
theorem refs_get {NL : List Gr} {i : Nat} {g : Gr} (h : NL[i]? = some g) : (refsN NL)[i]? = some (.ref g.a) := by
  unfold refsN; rw [List.getElem?_map, h]; rfl
def psAt (NL : List Gr) (j : Nat) : List (Int × Tok) := ((NL[j]?).map (·.ps)).getD []
theorem bS0 (bx : Bx w p loose mean mg mb A₀ base outer A g Lf) (F : Fr g Lf s.heap m) (N : News g Lf s.heap ((Lf + 1, o1) :: (Lf + 2, o2) :: (Lf + 3, o3) :: (Lf + 4, o4) :: rest)) (nd : ND ((Lf + 1, o1) :: (Lf + 2, o2) :: (Lf + 3, o3) :: (Lf + 4, o4) :: rest))
    (d1 : o1.data = .cell (some (.ref nA))) (iN : (nA, listOf (refsN NL).toArray e6) ∈ rest) (hNL : NL.length = n) (hn : n ≤ 12) (iG : ∀ q ∈ gobjs NL, q ∈ rest) (hps : ∀ q ∈ NL, q.ps.length ≤ 50)
    (h : ∀ h' tk c od nodes tp tf gd go Gs, Fr g Lf h' (putm (Str.ofString "sorter") (.ref c.sx) m) → News g Lf h' (SL w c .none 0 0 tp tf od (NN nodes ++ (gd, go) :: (gobjs Gs ++ (Lf + 1, o1) :: (Lf + 2, o2) :: (Lf + 3, o3) :: (Lf + 4, o4) :: rest))) →
      SOK w c od nodes ((gd, go) :: (gobjs Gs ++ (Lf + 1, o1) :: (Lf + 2, o2) :: (Lf + 3, o3) :: (Lf + 4, o4) :: rest)) → absN nodes = Gs.foldl (fun l g => addA g.k (g.ps.map (·.1)) l) [] → Gs.length = n → (∀ (j : Nat) x, Gs[j]? = some x → x.k = (n : Int) - 1 - j ∧ ∃ y, NL[n - 1 - j]? = some y ∧ x.ps = y.ps.dropLast) → Q .next { s with heap := h', toks := tk }) :
    wpAny (model PR w) A (exec (bS 0) (bEnv Lf)) Q (fun _ _ => False) s := by
  show wpAny _ _ (exec (.Assign _ _ _) _) _ _ _
  have X := bx.G.X
  have B := bx.G.B
  have TP := bx.G.T
  have hh := bx.hh
  refine abs_post fun Q1 hQ1 => ?_
  (repeat' ((fail_if_success (with_reducible first | (refine at1 ?_ ?_; constructor) | (refine at3 ?_ ?_; constructor) | show @ite Prop _ _ _ _ | (refine at4 ?_ ?_; constructor) )); (first | ((with_reducible first | refine' b_clock ?N ?m ?d ?_ | refine' b_begun ?N ?m ?d ?_ | refine' b_hours ?N ?m ?d ?_ | refine' b_needs ?N ?m ?d ?_ ); (case N => assumption); (case m => first | assumption | (repeat (first | exact List.Mem.head _ | refine List.Mem.tail _ ?_))); (case d => assumption)) | ((with_reducible show wpAny _ _ (eval (Expr.Name _ _) (bEnv _)) _ _ _); refine' b_local ?F ?v ?_; (case F => assumption); (case v => (repeat (first | exact if_pos rfl | refine Eq.trans (if_neg (by decide)) ?_))))  | (k_unfold; (try dsimp only)) | (k_end; wrow_close) | walk1 | (dsimp only; walk1) | (leave1; walk_say "STEP leave1"; try dsimp only) | fail "no step")))
  refine eval_dictcomp (cl := [(Str.ofString "needs", Lf + 1)]) (intKind PR w) (fun i => (n : Int) - 1 + i * (-1)) (fun i => (psAt NL (n - 1 - i)).dropLast) rfl (by decide) rfl (by decide) rfl ?_
  (repeat' ((fail_if_success (with_reducible first | (refine at1 ?_ ?_; constructor) | (refine at3 ?_ ?_; constructor) | show @ite Prop _ _ _ _ | (refine at4 ?_ ?_; constructor) )); (first | ((with_reducible first | refine' b_clock ?N ?m ?d ?_ | refine' b_begun ?N ?m ?d ?_ | refine' b_hours ?N ?m ?d ?_ | refine' b_needs ?N ?m ?d ?_ ); (case N => assumption); (case m => first | assumption | (repeat (first | exact List.Mem.head _ | refine List.Mem.tail _ ?_))); (case d => assumption)) | ((with_reducible show wpAny _ _ (eval (Expr.Name _ _) (bEnv _)) _ _ _); refine' b_local ?F ?v ?_; (case F => assumption); (case v => (repeat (first | exact if_pos rfl | refine Eq.trans (if_neg (by decide)) ?_))))  | (k_unfold; (try dsimp only)) | (k_end; wrow_close) | walk1 | (dsimp only; walk1) | (leave1; walk_say "STEP leave1"; try dsimp only) | fail "no step")))
  refine len_list (items := (refsN NL).toArray) (News.isList N (.tail _ (.tail _ (.tail _ (.tail _ iN))))) (by rw [List.size_toArray, List.length_map]; omega) ?_
  rw [List.size_toArray, List.length_map, hNL]
  (repeat' ((fail_if_success (with_reducible first | (refine at1 ?_ ?_; constructor) | (refine at3 ?_ ?_; constructor) | show @ite Prop _ _ _ _ | (refine at4 ?_ ?_; constructor) )); (first | ((with_reducible first | refine' b_clock ?N ?m ?d ?_ | refine' b_begun ?N ?m ?d ?_ | refine' b_hours ?N ?m ?d ?_ | refine' b_needs ?N ?m ?d ?_ ); (case N => assumption); (case m => first | assumption | (repeat (first | exact List.Mem.head _ | refine List.Mem.tail _ ?_))); (case d => assumption)) | ((with_reducible show wpAny _ _ (eval (Expr.Name _ _) (bEnv _)) _ _ _); refine' b_local ?F ?v ?_; (case F => assumption); (case v => (repeat (first | exact if_pos rfl | refine Eq.trans (if_neg (by decide)) ?_))))  | (k_unfold; (try dsimp only)) | (k_end; wrow_close) | walk1 | (dsimp only; walk1) | (leave1; walk_say "STEP leave1"; try dsimp only) | fail "no step")))
  refine call_range_3 (by decide) ?_
  have hnd1 : ∀ j < n, ∃ y, NL[j]? = some y ∧ psAt NL j = y.ps := fun j hj => by
    have : NL[j]? = some (NL[j]'(by omega)) := List.getElem?_eq_getElem (by omega)
    exact ⟨_, this, by unfold psAt; rw [this]; rfl⟩
  refine dcx_range (n := n) (h₀ := g) (L := Lf) (m := m) (news := (Lf + 1, o1) :: (Lf + 2, o2) :: (Lf + 3, o3) :: (Lf + 4, o4) :: rest) hh (Heap.get?_push_size _ rfl) (small_down (by omega) (by omega) (by omega) (by omega)) (by rw [rangeSize_downNat]; omega) (fun i j h1 h2 e => by omega) (F.push _) (fun p hp => ⟨Heap.get?_push_of_some _ (N p hp).1, (N p hp).2⟩) (by rw [sizeLine_eq]; omega) ?_ ?_
  · intro C i t' s₃ m₃ E' hi hc
    clear F N
    have hns := hc.ns
    have hvr := hc.var
    have hc1 := hc.led (Lf + 1, o1) (.head _)
    dsimp only at hc1
    obtain ⟨y, hy, hpy⟩ := hnd1 (n - 1 - i) (by omega)
    have hlN : s₃.heap.IsList nA (refsN NL).toArray := ⟨_, hc.led (nA, _) (.tail _ (.tail _ (.tail _ (.tail _ iN)))), rfl, ⟨_, rfl⟩⟩
    have hlY : s₃.heap.IsList y.a (vals y.ps).toArray := ⟨_, hc.led (y.a, _) (.tail _ (.tail _ (.tail _ (.tail _ (iG _ (mem_gobjs (List.mem_of_getElem? hy))))))), rfl, ⟨_, rfl⟩⟩
    have eidx : ((n : Int) - 1 + (i : Int) * (-1)).toNat = n - 1 - i := by omega
    have hyl := hps y (List.mem_of_getElem? hy)
    refine ⟨?_, ?_⟩
    · refine comp_var hns hvr ⟨intKind_is _ _ _ _, _, rfl⟩
    · (repeat' ((fail_if_success (with_reducible first | (refine at1 ?_ ?_; constructor) | (refine at3 ?_ ?_; constructor) | show @ite Prop _ _ _ _ | (refine at4 ?_ ?_; constructor) )); (first | ((with_reducible show wpAny _ _ (eval (Expr.Name _ _) (compEnvC _ _ _ _)) _ _ _); first | (refine' comp_var ?k1 ?k2 ?_ ?k3 ?k4 ?k5; (case k2 => with_reducible assumption); (case k1 => with_reducible assumption); (case k3 => exact rfl); (case k4 => exact rfl); (case k5 => decide)) | (refine' comp_free ?k1 ?k2 ?_ ?k3 ?k4 ?k5 ?k6; (case k3 => exact rfl); (case k1 => with_reducible assumption); (case k2 => with_reducible assumption); (case k4 => exact rfl); (case k5 => exact rfl); (case k6 => decide))) | (k_unfold; (try dsimp only)) | (k_end; wrow_close) | walk1 | (dsimp only; walk1) | (leave1; walk_say "STEP leave1"; try dsimp only) | fail "no step")))
      refine item_litK hlN (by omega) (by omega) (by rw [eidx]; exact refs_get hy) ?_
      (repeat' ((fail_if_success (with_reducible first | (refine at1 ?_ ?_; constructor) | (refine at3 ?_ ?_; constructor) | show @ite Prop _ _ _ _ | (refine at4 ?_ ?_; constructor) )); (first | ((with_reducible show wpAny _ _ (eval (Expr.Name _ _) (compEnvC _ _ _ _)) _ _ _); first | (refine' comp_var ?k1 ?k2 ?_ ?k3 ?k4 ?k5; (case k2 => with_reducible assumption); (case k1 => with_reducible assumption); (case k3 => exact rfl); (case k4 => exact rfl); (case k5 => decide)) | (refine' comp_free ?k1 ?k2 ?_ ?k3 ?k4 ?k5 ?k6; (case k3 => exact rfl); (case k1 => with_reducible assumption); (case k2 => with_reducible assumption); (case k4 => exact rfl); (case k5 => exact rfl); (case k6 => decide))) | (k_unfold; (try dsimp only)) | (k_end; wrow_close) | walk1 | (dsimp only; walk1) | (leave1; walk_say "STEP leave1"; try dsimp only) | fail "no step")))
      refine slice_at (items := (vals y.ps).toArray) (zs := vals y.ps.dropLast) hlY (.none) (.int _ _) pick_init ?_ (by with_unfolding_all rfl) (by rw [List.size_toArray, vals_len, sizeLine_eq]; omega)
      refine ⟨_, _, _, 0, rfl, fun b o e => Heap.get?_push_of_some _ (Heap.get?_push_of_some _ e), rfl, Heap.get?_none_of_le (Nat.le_succ _), ?_⟩
      rw [hpy]
      exact (by rw [← Heap.size_push]; exact Heap.get?_push_size _ rfl)
  · intro D h1 tk1 od1 Gs hLD F1 N1 hdo ndD offD hlen hG
    clear F N
    (repeat' ((fail_if_success (with_reducible first | (refine at1 ?_ ?_; constructor) | (refine at3 ?_ ?_; constructor) | show @ite Prop _ _ _ _ | (refine at4 ?_ ?_; constructor) )); (first | ((with_reducible first | refine' b_clock ?N ?m ?d ?_ | refine' b_begun ?N ?m ?d ?_ | refine' b_hours ?N ?m ?d ?_ | refine' b_needs ?N ?m ?d ?_ ); (case N => assumption); (case m => first | assumption | (repeat (first | exact List.Mem.head _ | refine List.Mem.tail _ ?_))); (case d => assumption)) | ((with_reducible show wpAny _ _ (eval (Expr.Name _ _) (bEnv _)) _ _ _); refine' b_local ?F ?v ?_; (case F => assumption); (case v => (repeat (first | exact if_pos rfl | refine Eq.trans (if_neg (by decide)) ?_))))  | (k_unfold; (try dsimp only)) | (k_end; wrow_close) | walk1 | (dsimp only; walk1) | (leave1; walk_say "STEP leave1"; try dsimp only) | fail "no step")))
    refine' call_cls F1 X N1 ?k4 ?k5 ?k6 ?_
    case k4 => k_is
    case k5 => k_is
    case k6 => k_is
    intro x dx h2 F2 N2 lx ldx
    clear F1 N1
    have ndA : ND ((D, od1) :: (gobjs Gs ++ (Lf + 1, o1) :: (Lf + 2, o2) :: (Lf + 3, o3) :: (Lf + 4, o4) :: rest)) := by
      have e : (D, od1) :: (gobjs Gs ++ (Lf + 1, o1) :: (Lf + 2, o2) :: (Lf + 3, o3) :: (Lf + 4, o4) :: rest) = ((D, od1) :: gobjs Gs) ++ (Lf + 1, o1) :: (Lf + 2, o2) :: (Lf + 3, o3) :: (Lf + 4, o4) :: rest := rfl
      rw [e]
      unfold ND at ndD nd ⊢
      rw [List.map_append]
      refine List.nodup_append.mpr ⟨ndD, nd, fun a ha b hb e' => ?_⟩
      obtain ⟨p1, hp1, rfl⟩ := List.mem_map.mp ha
      obtain ⟨p2, hp2, rfl⟩ := List.mem_map.mp hb
      exact offD p1 hp1 p2 hp2 e'.symm
    have hl1 : ∀ q ∈ gobjs Gs ++ (Lf + 1, o1) :: (Lf + 2, o2) :: (Lf + 3, o3) :: (Lf + 4, o4) :: rest, q.1 < dx := fun q hq => lx q (.tail _ hq)
    have hgs : ∀ q ∈ Gs, q.ps.length ≤ 100 := fun q hq => by
      obtain ⟨j, hj⟩ := List.mem_iff_getElem?.mp hq
      have hjn : j < n := by have := (List.getElem?_eq_some_iff.mp hj).1; omega
      obtain ⟨y, hy, hpy⟩ := hnd1 (n - 1 - j) (by omega)
      have := hps y (List.mem_of_getElem? hy)
      rw [(hG j q hj).2, hpy, List.length_dropLast]
      omega
    obtain ⟨hd', dep, fr, gu, un⟩ := A
    have bfr := bx.fr
    have bgu := bx.gu
    have bdep := bx.dep
    have bun := bx.un
    dsimp only at hh bfr bgu bdep bun
    subst hh bfr bgu
    refine c_init (gd := D) (go := od1) (G := Gs) (rest := gobjs Gs ++ (Lf + 1, o1) :: (Lf + 2, o2) :: (Lf + 3, o3) :: (Lf + 4, o4) :: rest) ⟨A₀, base, outer, bEnv Lf, p, loose, mean, mg, mb, B, X, TP, rfl, rfl, rfl, rfl, rfl, ?_, ?_⟩ F2 N2 (Nat.ne_of_gt ldx) (Nat.ne_of_lt (Nat.lt_trans (lx _ (.head _)) ldx)) (Nat.ne_of_lt (lx _ (.head _))) (fun q hq => Nat.ne_of_lt (Nat.lt_trans (hl1 q hq) ldx)) (fun q hq => Nat.ne_of_lt (hl1 q hq)) ndA hdo (by
        have : D ≠ sysModules := by
          have h1 := F2.above
          have h2 : mainGlobals < g.objs.size := TP.g.lt
          intro e
          rw [e] at hLD
          have h3 : @LT.lt Nat _ Lf 1 := hLD
          have h4 : @LT.lt Nat _ mainGlobals Lf := Nat.lt_of_lt_of_le h2 h1
          omega
        simpa using this) (fun q hq => List.mem_append_left _ hq) hgs (by omega) fun h3 t3 c od nodes tp tf F3 N3 K3 ex ed hab => ?_
    · rw [depth_under_make]
      show dep + 1 + 5 * 5 < 900
      omega
    · simp [Around.under, Code.cUnits, Code.frames, Code.isFrame]
      omega
    clear F2 N2
    refine ⟨rfl, ?_⟩
    subst ex
    (repeat' ((fail_if_success (with_reducible first | (refine at1 ?_ ?_; constructor) | (refine at3 ?_ ?_; constructor) | show @ite Prop _ _ _ _ | (refine at4 ?_ ?_; constructor) )); (first | ((with_reducible first | refine' b_clock ?N ?m ?d ?_ | refine' b_begun ?N ?m ?d ?_ | refine' b_hours ?N ?m ?d ?_ | refine' b_needs ?N ?m ?d ?_ ); (case N => assumption); (case m => first | assumption | (repeat (first | exact List.Mem.head _ | refine List.Mem.tail _ ?_))); (case d => assumption)) | ((with_reducible show wpAny _ _ (eval (Expr.Name _ _) (bEnv _)) _ _ _); refine' b_local ?F ?v ?_; (case F => assumption); (case v => (repeat (first | exact if_pos rfl | refine Eq.trans (if_neg (by decide)) ?_))))  | (k_unfold; (try dsimp only)) | (k_end; wrow_close) | walk1 | (dsimp only; walk1) | (leave1; walk_say "STEP leave1"; try dsimp only) | fail "no step")))
    rename Fr _ _ _ _ => F4
    rename News _ _ _ _ => N4
    refine hQ1 _ _ ?_
    refine h _ _ c od nodes tp tf D od1 Gs F4 N4 K3 hab hlen fun j x hx => ?_
    have hjn : j < n := by have := (List.getElem?_eq_some_iff.mp hx).1; omega
    obtain ⟨y, hy, hpy⟩ := hnd1 (n - 1 - j) (by omega)
    obtain ⟨g1, g2⟩ := hG j x hx
    exact ⟨by rw [g1]; omega, y, hy, by rw [g2, hpy]⟩
end
/-! part C9 -/
set_option maxHeartbeats 1000000
set_option maxHeartbeats 1000000
def lastOf (NL : List Gr) (j : Nat) : List (Int × Tok) := (psAt NL j).drop ((psAt NL j).length - 1)
theorem BA.lasts {NL : List Gr} {b : Nat} {A : List (Int × Int × List Int)} (hB : BA b A) : ∀ i : Nat, BA (b + i) ((List.range i).foldl (fun l (j : Nat) => addA (j : Int) ((lastOf NL j).map (·.1)) l) A)
  | 0 => hB
  | i + 1 => by
    rw [List.range_succ, List.foldl_append]
    intro x hx
    have h1 := BA.add (BA.lasts hB i) x hx
    have h2 : (lastOf NL i).length ≤ 1 := by unfold lastOf; rw [List.length_drop]; omega
    rw [List.length_map] at h1
    omega
section
variable {w : World} {A : Around} {g : Heap} {Lf : Addr} {m : Str → Option Value} {s : Shared} {Q : Flow → Shared → Prop} {o1 : Obj} {nA : Addr} {e6 : Nat} {NL : List Gr}
  {A₀ : Around} {base : Heap} {outer : List Env} {p : Program} {loose : List Str} {mean : ExcName → Option Value} {mg mb : Str → Option Value} {rest : List (Addr × Obj)} {n : Nat}
  {c : Sx} {tp tf : Nat} {od : Obj} {nodes : List Nd}
theorem bS1 (bx : Bx w p loose mean mg mb A₀ base outer A g Lf) (F : Fr g Lf s.heap m) (N : News g Lf s.heap (SL w c .none 0 0 tp tf od (NN nodes ++ rest))) (K : SOK w c od nodes rest) (ms : m (Str.ofString "sorter") = some (.ref c.sx))
    (ic : (Lf + 1, o1) ∈ rest) (d1 : o1.data = .cell (some (.ref nA))) (iN : (nA, listOf (refsN NL).toArray e6) ∈ rest) (hNL : NL.length = n) (hn : n ≤ 12) (iG : ∀ q ∈ gobjs NL, q ∈ rest) (hps : ∀ q ∈ NL, q.ps.length ≤ 50) {b : Nat} (hB : BA b (absN nodes)) (hb : b ≤ 2000) (hz : nodes.length ≤ 2000)
    (h : ∀ h' tk m' od' nodes', Same ["job"] m' m → Fr g Lf h' m' → News g Lf h' (SL w c .none 0 0 tp tf od' (NN nodes' ++ rest)) → SOK w c od' nodes' rest → absN nodes' = (List.range n).foldl (fun l (j : Nat) => addA (j : Int) ((lastOf NL j).map (·.1)) l) (absN nodes) → nodes'.length ≤ 2100 → BA (b + n) (absN nodes') → Q .next { s with heap := h', toks := tk }) :
    wpAny (model PR w) A (exec (bS 1) (bEnv Lf)) Q (fun _ _ => False) s := by
  show wpAny _ _ (exec (.For _ _ _ _ _) _) _ _ _
  have X := bx.G.X
  have B := bx.G.B
  have TP := bx.G.T
  have hh := bx.hh
  have em := fix_name ms
  rw [em] at F
  have mR : ∀ (nodes : List Nd) od q, q ∈ rest → q ∈ SL w c .none 0 0 tp tf od (NN nodes ++ rest) := fun nodes od q hq => .tail _ (.tail _ (.tail _ (List.mem_append_right _ hq)))
  have jc := mR nodes od _ ic
  have hnd1 : ∀ j < n, ∃ y, NL[j]? = some y ∧ psAt NL j = y.ps := fun j hj => by
    have : NL[j]? = some (NL[j]'(by omega)) := List.getElem?_eq_getElem (by omega)
    exact ⟨_, this, by unfold psAt; rw [this]; rfl⟩
  refine for_rule ?_
  (repeat' ((fail_if_success (with_reducible first | (refine at1 ?_ ?_; constructor) | (refine at3 ?_ ?_; constructor) | show @ite Prop _ _ _ _ | (refine at4 ?_ ?_; constructor) )); (first | ((with_reducible first | refine' b_clock ?N ?m ?d ?_ | refine' b_begun ?N ?m ?d ?_ | refine' b_hours ?N ?m ?d ?_ | refine' b_needs ?N ?m ?d ?_ ); (case N => assumption); (case m => first | assumption | (repeat (first | exact List.Mem.head _ | refine List.Mem.tail _ ?_))); (case d => assumption)) | ((with_reducible show wpAny _ _ (eval (Expr.Name _ _) (bEnv _)) _ _ _); refine' b_local ?F ?v ?_; (case F => assumption); (case v => (repeat (first | exact if_pos rfl | refine Eq.trans (if_neg (by decide)) ?_))))  | (k_unfold; (try dsimp only)) | (k_end; wrow_close) | (ks_star; (with_reducible show wpAny _ _ (eval (Expr.Call (Expr.Attribute _ _ _) _ [] _) _) _ _ _); refine methodCall_star ?_) | (ks_star; (with_reducible show wpAny _ _ (callWith _ (Value.ref _) _ _ _) _ _ _); (with_reducible rename News _ _ _ _ => nN'); k_dflt (first | refine' callWith_MS ?k0 (methIn nN' ?k1) ?k2 ?_ | refine' callWith_MS2 ?k0 (methIn nN' ?k1) ?k2 ?_); (case k0 => k_asm); (case k1 => k_mem); (case k2 => k_is)) | ((with_reducible show StarOf _ _ _ (Value.ref _) _ _); k_dflt (refine' star_seq ?k1 ?k2 ?m ?c ?d ?T ?e ?z ?_; (case k1 => k_asm); (case k2 => k_asm); (case m => k_mem); (case c => exact rfl); (case d => exact rfl); (case T => exact .inl rfl); (case e => exact rfl); (case z => assumption); k_whole); intro _ _ _; (try k_sweep); try dsimp only [List.nil_append, List.cons_append]) | walk1 | (dsimp only; walk1) | (leave1; walk_say "STEP leave1"; try dsimp only) | fail "no step")))
  refine len_list (items := (refsN NL).toArray) (News.isList N (mR _ _ _ iN)) (by rw [List.size_toArray, List.length_map]; omega) ?_
  rw [List.size_toArray, List.length_map, hNL]
  (repeat' ((fail_if_success (with_reducible first | (refine at1 ?_ ?_; constructor) | (refine at3 ?_ ?_; constructor) | show @ite Prop _ _ _ _ | (refine at4 ?_ ?_; constructor) )); (first | ((with_reducible first | refine' b_clock ?N ?m ?d ?_ | refine' b_begun ?N ?m ?d ?_ | refine' b_hours ?N ?m ?d ?_ | refine' b_needs ?N ?m ?d ?_ ); (case N => assumption); (case m => first | assumption | (repeat (first | exact List.Mem.head _ | refine List.Mem.tail _ ?_))); (case d => assumption)) | ((with_reducible show wpAny _ _ (eval (Expr.Name _ _) (bEnv _)) _ _ _); refine' b_local ?F ?v ?_; (case F => assumption); (case v => (repeat (first | exact if_pos rfl | refine Eq.trans (if_neg (by decide)) ?_))))  | (k_unfold; (try dsimp only)) | (k_end; wrow_close) | (ks_star; (with_reducible show wpAny _ _ (eval (Expr.Call (Expr.Attribute _ _ _) _ [] _) _) _ _ _); refine methodCall_star ?_) | (ks_star; (with_reducible show wpAny _ _ (callWith _ (Value.ref _) _ _ _) _ _ _); (with_reducible rename News _ _ _ _ => nN'); k_dflt (first | refine' callWith_MS ?k0 (methIn nN' ?k1) ?k2 ?_ | refine' callWith_MS2 ?k0 (methIn nN' ?k1) ?k2 ?_); (case k0 => k_asm); (case k1 => k_mem); (case k2 => k_is)) | ((with_reducible show StarOf _ _ _ (Value.ref _) _ _); k_dflt (refine' star_seq ?k1 ?k2 ?m ?c ?d ?T ?e ?z ?_; (case k1 => k_asm); (case k2 => k_asm); (case m => k_mem); (case c => exact rfl); (case d => exact rfl); (case T => exact .inl rfl); (case e => exact rfl); (case z => assumption); k_whole); intro _ _ _; (try k_sweep); try dsimp only [List.nil_append, List.cons_append]) | walk1 | (dsimp only; walk1) | (leave1; walk_say "STEP leave1"; try dsimp only) | fail "no step")))
  refine for_range (n := n) ["job"] (fun i m' nx => JS w c 0 0 tp tf rest ((List.range i).foldl (fun l (j : Nat) => addA (j : Int) ((lastOf NL j).map (·.1)) l) (absN nodes)) (2000 + 2 * i) nx) hh (by omega) (fun _ _ => rfl) F N ⟨od, nodes, K, rfl, by omega⟩ ?_ ?_
  · rintro i tv mu nx h2 tk2 I io Qt hQt hi ⟨od2, nodes2, K2, hab2, hz2⟩ hnI F2 N2
    clear F N jc
    obtain ⟨y, hy, hpy⟩ := hnd1 i hi
    have hyl := hps y (List.mem_of_getElem? hy)
    have jc : (Lf + 1, o1) ∈ (I, io) :: SL w c .none 0 0 tp tf od2 (NN nodes2 ++ rest) := .tail _ (mR _ _ _ ic)
    have hB2 : BA (b + i) (absN nodes2) := by rw [hab2]; exact BA.lasts hB i
    refine wpAny_assign_Name (storeX_L F2 N2 fun h3 F3 N3 => ?_)
    clear F2 N2
    (repeat' ((fail_if_success (with_reducible first | (refine at1 ?_ ?_; constructor) | (refine at3 ?_ ?_; constructor) | show @ite Prop _ _ _ _ | (refine at4 ?_ ?_; constructor) )); (first | ((with_reducible first | refine' b_clock ?N ?m ?d ?_ | refine' b_begun ?N ?m ?d ?_ | refine' b_hours ?N ?m ?d ?_ | refine' b_needs ?N ?m ?d ?_ ); (case N => assumption); (case m => first | assumption | (repeat (first | exact List.Mem.head _ | refine List.Mem.tail _ ?_))); (case d => assumption)) | ((with_reducible show wpAny _ _ (eval (Expr.Name _ _) (bEnv _)) _ _ _); refine' b_local ?F ?v ?_; (case F => assumption); (case v => (repeat (first | exact if_pos rfl | refine Eq.trans (if_neg (by decide)) ?_))))  | (k_unfold; (try dsimp only)) | (k_end; wrow_close) | (ks_star; (with_reducible show wpAny _ _ (eval (Expr.Call (Expr.Attribute _ _ _) _ [] _) _) _ _ _); refine methodCall_star ?_) | (ks_star; (with_reducible show wpAny _ _ (callWith _ (Value.ref _) _ _ _) _ _ _); (with_reducible rename News _ _ _ _ => nN'); k_dflt (first | refine' callWith_MS ?k0 (methIn nN' ?k1) ?k2 ?_ | refine' callWith_MS2 ?k0 (methIn nN' ?k1) ?k2 ?_); (case k0 => k_asm); (case k1 => k_mem); (case k2 => k_is)) | ((with_reducible show StarOf _ _ _ (Value.ref _) _ _); k_dflt (refine' star_seq ?k1 ?k2 ?m ?c ?d ?T ?e ?z ?_; (case k1 => k_asm); (case k2 => k_asm); (case m => k_mem); (case c => exact rfl); (case d => exact rfl); (case T => exact .inl rfl); (case e => exact rfl); (case z => assumption); k_whole); intro _ _ _; (try k_sweep); try dsimp only [List.nil_append, List.cons_append]) | walk1 | (dsimp only; walk1) | (leave1; walk_say "STEP leave1"; try dsimp only) | fail "no step")))
    rename Fr _ _ _ _ => F4
    rename News _ _ _ _ => N4
    refine item_litK (News.isList N4 (.tail _ (.tail _ (mR _ _ _ iN)))) (by omega) (by omega) (by rw [Int.toNat_natCast]; exact refs_get hy) ?_
    (repeat' ((fail_if_success (with_reducible first | (refine at1 ?_ ?_; constructor) | (refine at3 ?_ ?_; constructor) | show @ite Prop _ _ _ _ | (refine at4 ?_ ?_; constructor) )); (first | ((with_reducible first | refine' b_clock ?N ?m ?d ?_ | refine' b_begun ?N ?m ?d ?_ | refine' b_hours ?N ?m ?d ?_ | refine' b_needs ?N ?m ?d ?_ ); (case N => assumption); (case m => first | assumption | (repeat (first | exact List.Mem.head _ | refine List.Mem.tail _ ?_))); (case d => assumption)) | ((with_reducible show wpAny _ _ (eval (Expr.Name _ _) (bEnv _)) _ _ _); refine' b_local ?F ?v ?_; (case F => assumption); (case v => (repeat (first | exact if_pos rfl | refine Eq.trans (if_neg (by decide)) ?_))))  | (k_unfold; (try dsimp only)) | (k_end; wrow_close) | (ks_star; (with_reducible show wpAny _ _ (eval (Expr.Call (Expr.Attribute _ _ _) _ [] _) _) _ _ _); refine methodCall_star ?_) | (ks_star; (with_reducible show wpAny _ _ (callWith _ (Value.ref _) _ _ _) _ _ _); (with_reducible rename News _ _ _ _ => nN'); k_dflt (first | refine' callWith_MS ?k0 (methIn nN' ?k1) ?k2 ?_ | refine' callWith_MS2 ?k0 (methIn nN' ?k1) ?k2 ?_); (case k0 => k_asm); (case k1 => k_mem); (case k2 => k_is)) | ((with_reducible show StarOf _ _ _ (Value.ref _) _ _); k_dflt (refine' star_seq ?k1 ?k2 ?m ?c ?d ?T ?e ?z ?_; (case k1 => k_asm); (case k2 => k_asm); (case m => k_mem); (case c => exact rfl); (case d => exact rfl); (case T => exact .inl rfl); (case e => exact rfl); (case z => assumption); k_whole); intro _ _ _; (try k_sweep); try dsimp only [List.nil_append, List.cons_append]) | walk1 | (dsimp only; walk1) | (leave1; walk_say "STEP leave1"; try dsimp only) | fail "no step")))
    refine slice_KA (items := (vals y.ps).toArray) (zs := vals (y.ps.drop (y.ps.length - 1))) F4 N4 (News.isList N4 (.tail _ (.tail _ (mR _ _ _ (iG _ (mem_gobjs (List.mem_of_getElem? hy))))))) (.int _ _) (.none) pick_last ?_ (by with_unfolding_all rfl) (by rw [List.size_toArray, vals_len, sizeLine_eq]; omega)
    intro D5 h5 F5 N5 l5
    clear F4 N4
    have hl1 : (y.ps.drop (y.ps.length - 1)).length ≤ 1 := by rw [List.length_drop]; omega
    have hvz : (vals (y.ps.drop (y.ps.length - 1))).toArray.size ≤ sizeLine := by rw [List.size_toArray, vals_len, sizeLine_eq]; omega
    (repeat' ((fail_if_success (with_reducible first | (refine at1 ?_ ?_; constructor) | (refine at3 ?_ ?_; constructor) | show @ite Prop _ _ _ _ | (refine at4 ?_ ?_; constructor) )); (first | ((with_reducible first | refine' b_clock ?N ?m ?d ?_ | refine' b_begun ?N ?m ?d ?_ | refine' b_hours ?N ?m ?d ?_ | refine' b_needs ?N ?m ?d ?_ ); (case N => assumption); (case m => first | assumption | (repeat (first | exact List.Mem.head _ | refine List.Mem.tail _ ?_))); (case d => assumption)) | ((with_reducible show wpAny _ _ (eval (Expr.Name _ _) (bEnv _)) _ _ _); refine' b_local ?F ?v ?_; (case F => assumption); (case v => (repeat (first | exact if_pos rfl | refine Eq.trans (if_neg (by decide)) ?_))))  | (k_unfold; (try dsimp only)) | (k_end; wrow_close) | (ks_star; (with_reducible show wpAny _ _ (eval (Expr.Call (Expr.Attribute _ _ _) _ [] _) _) _ _ _); refine methodCall_star ?_) | (ks_star; (with_reducible show wpAny _ _ (callWith _ (Value.ref _) _ _ _) _ _ _); (with_reducible rename News _ _ _ _ => nN'); k_dflt (first | refine' callWith_MS ?k0 (methIn nN' ?k1) ?k2 ?_ | refine' callWith_MS2 ?k0 (methIn nN' ?k1) ?k2 ?_); (case k0 => k_asm); (case k1 => k_mem); (case k2 => k_is)) | ((with_reducible show StarOf _ _ _ (Value.ref _) _ _); k_dflt (refine' star_seq ?k1 ?k2 ?m ?c ?d ?T ?e ?z ?_; (case k1 => k_asm); (case k2 => k_asm); (case m => k_mem); (case c => exact rfl); (case d => exact rfl); (case T => exact .inl rfl); (case e => exact rfl); (case z => assumption); k_whole); intro _ _ _; (try k_sweep); try dsimp only [List.nil_append, List.cons_append]) | walk1 | (dsimp only; walk1) | (leave1; walk_say "STEP leave1"; try dsimp only) | fail "no step")))
    rename Fr _ _ _ _ => F6
    rename News _ _ _ _ => N6
    rw [List.append_nil]
    refine call_meth N6 (.tail _ (.head _)) ?_
    refine c_add (np := 0) (nf := 0) (tp := tp) (tf := tf) (od := od2) (nodes := nodes2) (rest := (I, io) :: rest) (ps := y.ps.drop (y.ps.length - 1)) (bx.cx (by decide) (by decide)) F6 (News.sub N6 fun p hp => .tail _ (.tail _ (SL_in p hp))) (K2.moreOff hnI) (by omega) (by omega) hB2 (by omega) fun h7 t7 od7 nodes7 F7 N7 K7 hab7 hl7 => ?_
    clear F6 N6
    (repeat' ((fail_if_success (with_reducible first | (refine at1 ?_ ?_; constructor) | (refine at3 ?_ ?_; constructor) | show @ite Prop _ _ _ _ | (refine at4 ?_ ?_; constructor) )); (first | ((with_reducible first | refine' b_clock ?N ?m ?d ?_ | refine' b_begun ?N ?m ?d ?_ | refine' b_hours ?N ?m ?d ?_ | refine' b_needs ?N ?m ?d ?_ ); (case N => assumption); (case m => first | assumption | (repeat (first | exact List.Mem.head _ | refine List.Mem.tail _ ?_))); (case d => assumption)) | ((with_reducible show wpAny _ _ (eval (Expr.Name _ _) (bEnv _)) _ _ _); refine' b_local ?F ?v ?_; (case F => assumption); (case v => (repeat (first | exact if_pos rfl | refine Eq.trans (if_neg (by decide)) ?_))))  | (k_unfold; (try dsimp only)) | (k_end; wrow_close) | (ks_star; (with_reducible show wpAny _ _ (eval (Expr.Call (Expr.Attribute _ _ _) _ [] _) _) _ _ _); refine methodCall_star ?_) | (ks_star; (with_reducible show wpAny _ _ (callWith _ (Value.ref _) _ _ _) _ _ _); (with_reducible rename News _ _ _ _ => nN'); k_dflt (first | refine' callWith_MS ?k0 (methIn nN' ?k1) ?k2 ?_ | refine' callWith_MS2 ?k0 (methIn nN' ?k1) ?k2 ?_); (case k0 => k_asm); (case k1 => k_mem); (case k2 => k_is)) | ((with_reducible show StarOf _ _ _ (Value.ref _) _ _); k_dflt (refine' star_seq ?k1 ?k2 ?m ?c ?d ?T ?e ?z ?_; (case k1 => k_asm); (case k2 => k_asm); (case m => k_mem); (case c => exact rfl); (case d => exact rfl); (case T => exact .inl rfl); (case e => exact rfl); (case z => assumption); k_whole); intro _ _ _; (try k_sweep); try dsimp only [List.nil_append, List.cons_append]) | walk1 | (dsimp only; walk1) | (leave1; walk_say "STEP leave1"; try dsimp only) | fail "no step")))
    have hlast : (lastOf NL i).map (·.1) = (y.ps.drop (y.ps.length - 1)).map (·.1) := by unfold lastOf; rw [hpy]
    refine hQt _ _ (TurnP.next F7 N7 SL_out K7.off ⟨Same.put' same_of_mm, od7, nodes7, K7.less, ?_, ?_⟩)
    · rw [hab7, hab2, List.range_succ, List.foldl_append, ← hlast]; rfl
    · omega
  · rintro mu nx h2 tk2 ⟨od2, nodes2, K2, hab2, hz2⟩ F2 N2
    have hB2 : BA (b + n) (absN nodes2) := by rw [hab2]; exact BA.lasts hB n
    exact h _ _ _ od2 nodes2 (same_of_mm.trans (Same.of_eq em.symm)) F2 N2 K2 hab2 (by omega) hB2
end
/-! part P5 -/
set_option maxHeartbeats 1000000
set_option maxHeartbeats 1000000
section
variable {A : List (Int × Int × List Int)} {k j : Int}
theorem fnd_app {l r : List (Int × Int × List Int)} : (l ++ r).find? (fun x => decide (x.1 = j)) = (l.find? fun x => decide (x.1 = j)).or (r.find? fun x => decide (x.1 = j)) := List.find?_append
theorem fnd_none (h : j ∉ A.map (·.1)) : A.find? (fun x => decide (x.1 = j)) = none := by
  rw [List.find?_eq_none]
  intro x hx
  simp only [decide_eq_true_eq]
  exact fun e => h (List.mem_map.mpr ⟨x, hx, e⟩)
theorem np_get : npA (getA k A) j = npA A j := by
  unfold getA
  split
  · rfl
  · rename_i hk
    unfold npA
    rw [fnd_app]
    by_cases e : j ∈ A.map (·.1)
    · obtain ⟨x, hx, _⟩ := fnd_key e
      rw [hx]; rfl
    · rw [fnd_none e]
      by_cases e2 : k = j
      · subst e2; simp
      · simp [e2]
theorem suc_get : sucA (getA k A) j = sucA A j := by
  unfold getA
  split
  · rfl
  · rename_i hk
    unfold sucA
    rw [fnd_app]
    by_cases e : j ∈ A.map (·.1)
    · obtain ⟨x, hx, _⟩ := fnd_key e
      rw [hx]; rfl
    · rw [fnd_none e]
      by_cases e2 : k = j
      · subst e2; simp
      · simp [e2]
theorem keys_get : j ∈ (getA k A).map (·.1) ↔ j ∈ A.map (·.1) ∨ j = k := by
  unfold getA
  split
  · rename_i hk
    constructor
    · exact .inl
    · rintro (h | rfl)
      · exact h
      · exact hk
  · rw [List.map_append, List.mem_append]
    simp
theorem nd_get (h : (A.map (·.1)).Nodup) : ((getA k A).map (·.1)).Nodup := by
  unfold getA
  split
  · exact h
  · rename_i hk
    rw [List.map_append]
    refine List.nodup_append.mpr ⟨h, by simp, fun a ha b hb e => ?_⟩
    simp at hb
    exact hk (by rw [← hb, ← e]; exact ha)
theorem suc_mod_eq {f : Int × List Int → Int × List Int} {F : List Int → List Int} (hk : k ∈ A.map (·.1)) (hF : ∀ x, (f x).2 = F x.2) : sucA (modA k f A) k = F (sucA A k) := by
  obtain ⟨x, hx, e⟩ := fnd_key hk
  unfold sucA
  rw [fnd_mod, hx, Option.map_some, if_pos e]
  exact hF _
theorem suc_mod_ne {f : Int × List Int → Int × List Int} (h : j ≠ k) : sucA (modA k f A) j = sucA A j := by
  unfold sucA
  rw [fnd_mod]
  cases hf : A.find? (fun x => decide (x.1 = j)) with
  | none => rfl
  | some x =>
    have := fnd_eq hf
    rw [Option.map_some, if_neg (by rw [this]; exact h)]
end
/-- what add does to counts and successors -/
structure SAddF (k : Int) (ps : List Int) (A r : List (Int × Int × List Int)) : Prop where
  i1 : (r.map (·.1)).Nodup
  i2 : ∀ j, j ∈ r.map (·.1) ↔ j ∈ A.map (·.1) ∨ j ∈ ps
  i3 : ∀ j, npA r j = npA A j
  i4 : ∀ a j, (sucA r a).count j = (sucA A a).count j + if j = k then ps.count a else 0
structure AddF (k : Int) (ps : List Int) (A r : List (Int × Int × List Int)) : Prop where
  i1 : (r.map (·.1)).Nodup
  i2 : ∀ j, j ∈ r.map (·.1) ↔ j ∈ A.map (·.1) ∨ j = k ∨ j ∈ ps
  i3 : ∀ j, npA r j = npA A j + if j = k then (ps.length : Int) else 0
  i4 : ∀ a j, (sucA r a).count j = (sucA A a).count j + if j = k then ps.count a else 0
structure AddsF (l : List (Int × List Int)) (A r : List (Int × Int × List Int)) : Prop where
  i1 : (r.map (·.1)).Nodup
  i2 : ∀ j, j ∈ r.map (·.1) ↔ j ∈ A.map (·.1) ∨ ∃ x ∈ l, j = x.1 ∨ j ∈ x.2
  i3 : ∀ x ∈ l, npA r x.1 = npA A x.1 + x.2.length ∧ ∀ a, (sucA r a).count x.1 = (sucA A a).count x.1 + x.2.count a
  i4 : ∀ j, j ∉ l.map (·.1) → npA r j = npA A j ∧ ∀ a, (sucA r a).count j = (sucA A a).count j
theorem steps_add (k : Int) : ∀ (ps : List Int) (A : List (Int × Int × List Int)), (A.map (·.1)).Nodup → SAddF k ps A (ps.foldl (addStep k) A)
  | [], A, hn => ⟨hn, fun j => by simp, fun j => rfl, fun a j => by simp⟩
  | p :: ps, A, hn => by
    have hk1 : p ∈ (getA p A).map (·.1) := keys_get.mpr (.inr rfl)
    obtain ⟨i1, i2, i3, i4⟩ := steps_add k ps (addStep k A p) (by unfold addStep; rw [keys_mod]; exact nd_get hn)
    rw [List.foldl_cons]
    refine ⟨i1, fun j => ?_, fun j => ?_, fun a j => ?_⟩
    · rw [i2 j]
      unfold addStep
      rw [keys_mod, keys_get, List.mem_cons, or_assoc]
    · rw [i3 j]
      unfold addStep
      by_cases e : j = p
      · subst e
        exact (np_mod_eq (f := fun x => (x.1, x.2 ++ [k])) (F := fun v => v) hk1 fun _ => rfl).trans np_get
      · rw [np_mod_ne e, np_get]
    · rw [i4 a j, List.count_cons]
      unfold addStep
      by_cases e : a = p
      · subst e
        rw [suc_mod_eq (F := fun v => v ++ [k]) hk1 (fun _ => rfl), suc_get, List.count_append]
        by_cases e2 : j = k
        · subst e2; simp; omega
        · simp [e2, Ne.symm e2]
      · rw [suc_mod_ne e, suc_get]
        by_cases e2 : j = k
        · simp [e2, Ne.symm e]
        · simp [e2]
theorem add_facts (k : Int) (ps : List Int) (A : List (Int × Int × List Int)) (hn : (A.map (·.1)).Nodup) : AddF k ps A (addA k ps A) := by
  have hk1 : k ∈ (getA k A).map (·.1) := keys_get.mpr (.inr rfl)
  obtain ⟨i1, i2, i3, i4⟩ := steps_add k ps (modA k (fun x => (x.1 + ps.length, x.2)) (getA k A)) (by rw [keys_mod]; exact nd_get hn)
  have e : addA k ps A = ps.foldl (addStep k) (modA k (fun x => (x.1 + ps.length, x.2)) (getA k A)) := rfl
  rw [e]
  refine ⟨i1, fun j => ?_, fun j => ?_, fun a j => ?_⟩
  · rw [i2 j, keys_mod, keys_get, or_assoc]
  · rw [i3 j]
    by_cases e : j = k
    · subst e
      rw [np_mod_eq (F := fun v => v + ps.length) hk1 fun _ => rfl, np_get, if_pos rfl]
    · rw [np_mod_ne e, np_get, if_neg e]; omega
  · rw [i4 a j]
    have e3 : sucA (modA k (fun x => (x.1 + ps.length, x.2)) (getA k A)) a = sucA (getA k A) a := suc_mod fun _ => rfl
    rw [e3, suc_get]
/-- several adds -/
def addsA (l : List (Int × List Int)) (A : List (Int × Int × List Int)) : List (Int × Int × List Int) := l.foldl (fun A x => addA x.1 x.2 A) A
theorem adds_facts : ∀ (l : List (Int × List Int)) (A : List (Int × Int × List Int)), (A.map (·.1)).Nodup → (l.map (·.1)).Nodup → AddsF l A (addsA l A)
  | [], A, hn, _ => ⟨hn, fun j => by simp [addsA], (fun _ h => nomatch h), fun j _ => ⟨rfl, fun _ => rfl⟩⟩
  | x :: l, A, hn, hl => by
    rw [List.map_cons, List.nodup_cons] at hl
    obtain ⟨f1, f2, f3, f4⟩ := add_facts x.1 x.2 A hn
    obtain ⟨i1, i2, i3, i4⟩ := adds_facts l (addA x.1 x.2 A) f1 hl.2
    have e : addsA (x :: l) A = addsA l (addA x.1 x.2 A) := rfl
    rw [e]
    refine ⟨i1, fun j => ?_, fun y hy => ?_, fun j hj => ?_⟩
    · rw [i2 j, f2 j]
      constructor
      · rintro ((h | h | h) | ⟨y, hy, h⟩)
        · exact .inl h
        · exact .inr ⟨x, .head _, .inl h⟩
        · exact .inr ⟨x, .head _, .inr h⟩
        · exact .inr ⟨y, .tail _ hy, h⟩
      · rintro (h | ⟨y, hy, h⟩)
        · exact .inl (.inl h)
        · rcases List.mem_cons.mp hy with rfl | hy
          · exact .inl (.inr h)
          · exact .inr ⟨y, hy, h⟩
    · rcases List.mem_cons.mp hy with rfl | hy
      · have := i4 y.1 hl.1
        refine ⟨by rw [this.1, f3, if_pos rfl], fun a => by rw [this.2 a, f4, if_pos rfl]⟩
      · have hne : y.1 ≠ x.1 := fun e => hl.1 (e ▸ List.mem_map_of_mem hy)
        obtain ⟨h1, h2⟩ := i3 y hy
        refine ⟨by rw [h1, f3, if_neg hne]; omega, fun a => by rw [h2 a, f4, if_neg hne]; omega⟩
    · have hne : j ≠ x.1 := fun e => hj (by rw [e]; exact .head _)
      obtain ⟨h1, h2⟩ := i4 j fun q => hj (.tail _ q)
      refine ⟨by rw [h1, f3, if_neg hne]; omega, fun a => by rw [h2 a, f4, if_neg hne]; omega⟩
theorem cut_last (l : List Int) : l.dropLast ++ l.drop (l.length - 1) = l := by
  rw [List.dropLast_eq_take]; exact List.take_append_drop _ _
/-- the graph of the plan, told in two rounds -/
theorem plan_graph {n : Nat} {needs : Int → List Int} {l1 l2 : List (Int × List Int)} (hlow : ∀ j : Int, 0 ≤ j → j < n → ∀ a ∈ needs j, 0 ≤ a ∧ a < j) (h1 : l1.map (·.1) = (jobsI n).reverse) (h1' : ∀ x ∈ l1, x.2 = (needs x.1).dropLast)
    (h2 : l2.map (·.1) = jobsI n) (h2' : ∀ x ∈ l2, x.2 = (needs x.1).drop ((needs x.1).length - 1)) :
    GOK n needs (addsA l2 (addsA l1 [])) ∧ (∀ j : Int, 0 ≤ j → j < n → npA (addsA l2 (addsA l1 [])) j = (needs j).length) ∧ ((addsA l2 (addsA l1 [])).map (·.1)).Nodup := by
  have nd1 : (l1.map (·.1)).Nodup := by rw [h1]; exact (List.reverse_perm _).nodup_iff.mpr (nodup_jobsI n)
  have nd2 : (l2.map (·.1)).Nodup := by rw [h2]; exact nodup_jobsI n
  obtain ⟨a1, a2, a3, a4⟩ := adds_facts l1 [] List.nodup_nil nd1
  obtain ⟨b1, b2, b3, b4⟩ := adds_facts l2 (addsA l1 []) a1 nd2
  have get1 : ∀ j : Int, 0 ≤ j → j < n → ∃ x ∈ l1, x.1 = j := fun j p q => by
    have : j ∈ l1.map (·.1) := by rw [h1, List.mem_reverse]; exact mem_jobsI.mpr ⟨p, q⟩
    obtain ⟨x, hx, e⟩ := List.mem_map.mp this
    exact ⟨x, hx, e⟩
  have get2 : ∀ j : Int, 0 ≤ j → j < n → ∃ x ∈ l2, x.1 = j := fun j p q => by
    have : j ∈ l2.map (·.1) := by rw [h2]; exact mem_jobsI.mpr ⟨p, q⟩
    obtain ⟨x, hx, e⟩ := List.mem_map.mp this
    exact ⟨x, hx, e⟩
  have in1 : ∀ x ∈ l1, 0 ≤ x.1 ∧ x.1 < n := fun x hx => by
    have : x.1 ∈ (jobsI n).reverse := by rw [← h1]; exact List.mem_map_of_mem hx
    exact mem_jobsI.mp (List.mem_reverse.mp this)
  have in2 : ∀ x ∈ l2, 0 ≤ x.1 ∧ x.1 < n := fun x hx => by
    have : x.1 ∈ jobsI n := by rw [← h2]; exact List.mem_map_of_mem hx
    exact mem_jobsI.mp this
  have cntE : ∀ a j : Int, 0 ≤ j → j < n → (sucA (addsA l2 (addsA l1 [])) a).count j = (needs j).count a := fun a j p q => by
    obtain ⟨x, hx, ex⟩ := get1 j p q
    obtain ⟨y, hy, ey⟩ := get2 j p q
    have e1 := (a3 x hx).2 a
    have e2 := (b3 y hy).2 a
    rw [ex] at e1
    rw [ey] at e2
    rw [e2, e1, h1' x hx, h2' y hy, ex, ey]
    have : (needs j).count a = ((needs j).dropLast ++ (needs j).drop ((needs j).length - 1)).count a := by rw [cut_last]
    rw [this, List.count_append]
    simp [sucA]
  have cntO : ∀ a j : Int, ¬ (0 ≤ j ∧ j < n) → (sucA (addsA l2 (addsA l1 [])) a).count j = 0 := fun a j hj => by
    rw [(b4 j (fun q => hj (mem_jobsI.mp (h2 ▸ q)))).2 a, (a4 j (fun q => hj (mem_jobsI.mp (List.mem_reverse.mp (h1 ▸ q))))).2 a]
    simp [sucA]
  refine ⟨⟨fun k => ?_, fun a j hj => ?_, fun a j _ _ p q => cntE a j p q, hlow⟩, fun j p q => ?_, b1⟩
  · rw [b2, a2]
    constructor
    · rintro ((h | ⟨x, hx, h⟩) | ⟨x, hx, h⟩)
      · cases h
      · have hi := in1 x hx
        rcases h with h | h
        · rw [h]; exact hi
        · rw [h1' x hx] at h
          have := hlow x.1 hi.1 hi.2 k (List.dropLast_subset _ h)
          exact ⟨this.1, by omega⟩
      · have hi := in2 x hx
        rcases h with h | h
        · rw [h]; exact hi
        · rw [h2' x hx] at h
          have := hlow x.1 hi.1 hi.2 k (List.mem_of_mem_drop h)
          exact ⟨this.1, by omega⟩
    · rintro ⟨p, q⟩
      obtain ⟨x, hx, ex⟩ := get2 k p q
      exact .inr ⟨x, hx, .inl ex.symm⟩
  · by_cases e : 0 ≤ j ∧ j < n
    · exact e
    · have := cntO a j e
      exact absurd hj (List.count_eq_zero.mp this)
  · obtain ⟨x, hx, ex⟩ := get1 j p q
    obtain ⟨y, hy, ey⟩ := get2 j p q
    have e1 := (a3 x hx).1
    have e2 := (b3 y hy).1
    rw [ex] at e1
    rw [ey] at e2
    rw [e2, e1, h1' x hx, h2' y hy, ex, ey]
    have hL := congrArg List.length (cut_last (needs j))
    rw [List.length_append] at hL
    have e0 : npA [] j = 0 := rfl
    rw [e0]
    omega
theorem plan_dyn {n : Nat} {needs : Int → List Int} {A : List (Int × Int × List Int)} {rs : List Int} (hnp : ∀ j : Int, 0 ≤ j → j < n → npA A j = (needs j).length) (hr : ∀ k : Int, k ∈ rs ↔ 0 ≤ k ∧ k < n ∧ npA A k = 0) (hn : rs.Nodup) : Dyn n needs A rs [] ([] ++ []) := by
  refine ⟨(fun _ h => nomatch h), (fun _ h => nomatch h), fun k p q _ _ => ?_, fun k => ?_, hn, List.nodup_nil, (fun _ h => nomatch h), (fun _ h => nomatch h)⟩
  · rw [hnp k p q, List.filter_eq_self.mpr (fun a _ => by simp)]
  · rw [hr k]
    constructor
    · rintro ⟨p, q, h0⟩
      rw [hnp k p q] at h0
      have : needs k = [] := List.length_eq_zero_iff.mp (by omega)
      exact ⟨p, q, by simp, by simp, by rw [this]; intro a ha; cases ha⟩
    · rintro ⟨p, q, _, _, h5⟩
      refine ⟨p, q, ?_⟩
      rw [hnp k p q]
      cases e : needs k with
      | nil => rfl
      | cons a l => exact nomatch (h5 a (by rw [e]; exact .head _))
theorem plan_si {n : Nat} {needs : Int → List Int} {hs : List Int} {W : Int} {bs rs : List Int} (hl : bs.length = n) (hW : 0 ≤ W) : SI n needs hs W bs [] [] [] rs 0 :=
  ⟨hl, Int.le_refl _, (fun _ h => nomatch h), (fun _ h => nomatch h), (fun _ h => nomatch h), (fun _ h => nomatch h), (fun _ h => nomatch h), (fun _ h => nomatch h), fun _ _ t h0 _ => h0, by simpa using hW⟩
/-! part C10 -/
set_option maxHeartbeats 1000000
set_option maxHeartbeats 1000000
theorem rep_vals (n : Nat) (t : Tok) : (List.replicate n [Value.int (-1) t]).flatten = vals (List.replicate n (-1, t)) := by
  unfold vals
  rw [List.map_replicate]
  induction n with
  | zero => rfl
  | succ n ih => rw [List.replicate_succ, List.replicate_succ, List.flatten_cons, ih]; rfl
section
variable {w : World} {A : Around} {g : Heap} {Lf : Addr} {m : Str → Option Value} {s : Shared} {Q : Flow → Shared → Prop} {o1 o2 o3 o4 : Obj} {nA : Addr} {e6 : Nat} {nv : List Value}
  {A₀ : Around} {base : Heap} {outer : List Env} {p : Program} {loose : List Str} {mean : ExcName → Option Value} {mg mb : Str → Option Value} {rest TT nx : List (Addr × Obj)} {n : Nat}
  {c : Sx} {tp tf : Nat} {od : Obj} {nodes : List Nd} {np nf : Int}
theorem bS2 (bx : Bx w p loose mean mg mb A₀ base outer A g Lf) (F : Fr g Lf s.heap m) (N : News g Lf s.heap (SL w c .none np nf tp tf od (NN nodes ++ rest))) (K : SOK w c od nodes rest) (ms : m (Str.ofString "sorter") = some (.ref c.sx)) (hz : nodes.length ≤ 1000)
   (hsuc : ∀ nd ∈ nodes, ∀ p ∈ nd.si, nd.k < p.1 ∧ p.1 ∈ nodes.map (·.k)) (hsl : ∀ nd ∈ nodes, nd.si.length ≤ 1000)
   (h : ∀ g' h' t' ra rn, KtsTurn (fsOf outer) g g' → Fr g' Lf h' m → News g' Lf h' (SL w c (.ref ra) np nf tp tf od (NN nodes ++ (ra, listOf (vals (readyOf nodes)).toArray rn) :: rest)) → SOK w c od nodes ((ra, listOf (vals (readyOf nodes)).toArray rn) :: rest) → Q .next { s with heap := h', toks := t' }) :
    wpAny (model PR w) A (exec (bS 2) (bEnv Lf)) Q (fun _ _ => False) s := by
  show wpAny _ _ (exec (.Expr _ _) _) _ _ _
  have X := bx.G.X
  have B := bx.G.B
  have TP := bx.G.T
  have hh := bx.hh
  have em := fix_name ms
  rw [em] at F
  refine abs_post fun Q1 hQ1 => ?_
  (repeat' ((fail_if_success (with_reducible first | (refine at1 ?_ ?_; constructor) | (refine at3 ?_ ?_; constructor) | show @ite Prop _ _ _ _ | (refine at4 ?_ ?_; constructor) )); (first | ((with_reducible first | refine' b_clock ?N ?m ?d ?_ | refine' b_begun ?N ?m ?d ?_ | refine' b_hours ?N ?m ?d ?_ | refine' b_needs ?N ?m ?d ?_ ); (case N => assumption); (case m => first | assumption | (repeat (first | exact List.Mem.head _ | refine List.Mem.tail _ ?_))); (case d => assumption)) | ((with_reducible show wpAny _ _ (eval (Expr.Name _ _) (bEnv _)) _ _ _); refine' b_local ?F ?v ?_; (case F => assumption); (case v => (repeat (first | exact if_pos rfl | refine Eq.trans (if_neg (by decide)) ?_))))  | (k_unfold; (try dsimp only)) | (k_end; wrow_close) | walk1 | (dsimp only; walk1) | (leave1; walk_say "STEP leave1"; try dsimp only) | fail "no step")))
  refine wpAny_call ?_
  have bdep := bx.dep
  have bun := bx.un
  refine c_prepare bx.G bx.fr rfl rfl bx.hh bx.gu (by omega) (by omega) F N K hz hsuc hsl fun g' h' t' ra rn T' F' N' K' => ?_
  clear F N
  have G' := bx.G.turn T'
  have X' := G'.X
  have B' := G'.B
  have TP' := G'.T
  (repeat' ((fail_if_success (with_reducible first | (refine at1 ?_ ?_; constructor) | (refine at3 ?_ ?_; constructor) | show @ite Prop _ _ _ _ | (refine at4 ?_ ?_; constructor) )); (first | ((with_reducible first | refine' b_clock ?N ?m ?d ?_ | refine' b_begun ?N ?m ?d ?_ | refine' b_hours ?N ?m ?d ?_ | refine' b_needs ?N ?m ?d ?_ ); (case N => assumption); (case m => first | assumption | (repeat (first | exact List.Mem.head _ | refine List.Mem.tail _ ?_))); (case d => assumption)) | ((with_reducible show wpAny _ _ (eval (Expr.Name _ _) (bEnv _)) _ _ _); refine' b_local ?F ?v ?_; (case F => assumption); (case v => (repeat (first | exact if_pos rfl | refine Eq.trans (if_neg (by decide)) ?_))))  | (k_unfold; (try dsimp only)) | (k_end; wrow_close) | walk1 | (dsimp only; walk1) | (leave1; walk_say "STEP leave1"; try dsimp only) | fail "no step")))
  refine hQ1 _ _ ?_
  exact h g' _ _ ra rn T' (by rw [← em] at F'; exact F') N' K'
theorem bS3 (bx : Bx w p loose mean mg mb A₀ base outer A g Lf) (F : Fr g Lf s.heap m) (N : News g Lf s.heap ((Lf + 1, o1) :: (Lf + 2, o2) :: (Lf + 3, o3) :: (Lf + 4, o4) :: TT)) (nd : ND ((Lf + 1, o1) :: (Lf + 2, o2) :: (Lf + 3, o3) :: (Lf + 4, o4) :: TT))
    (d1 : o1.data = .cell (some (.ref nA))) (d3 : o3.data = .cell none) (iN : (nA, listOf nv.toArray e6) ∈ TT) (hnv : nv.length = n) (hn : n ≤ 12)
    (h : ∀ h' tk bA t o3', Fr g Lf h' m → News g Lf h' ((bA, listOf (vals (List.replicate n (-1, t))).toArray 0) :: (Lf + 1, o1) :: (Lf + 2, o2) :: (Lf + 3, o3') :: (Lf + 4, o4) :: TT) → (∀ q ∈ (Lf + 1, o1) :: (Lf + 2, o2) :: (Lf + 3, o3) :: (Lf + 4, o4) :: TT, q.1 ≠ bA) → o3'.data = .cell (some (.ref bA)) → Q .next { s with heap := h', toks := tk }) :
    wpAny (model PR w) A (exec (bS 3) (bEnv Lf)) Q (fun _ _ => False) s := by
  show wpAny _ _ (exec (.Assign _ _ _) _) _ _ _
  have X := bx.G.X
  have B := bx.G.B
  have TP := bx.G.T
  have hh := bx.hh
  refine abs_post fun Q1 hQ1 => ?_
  (repeat' ((fail_if_success (with_reducible first | (refine at1 ?_ ?_; constructor) | (refine at3 ?_ ?_; constructor) | show @ite Prop _ _ _ _ | (refine at4 ?_ ?_; constructor) )); (first | ((with_reducible first | refine' b_clock ?N ?m ?d ?_ | refine' b_begun ?N ?m ?d ?_ | refine' b_hours ?N ?m ?d ?_ | refine' b_needs ?N ?m ?d ?_ ); (case N => assumption); (case m => first | assumption | (repeat (first | exact List.Mem.head _ | refine List.Mem.tail _ ?_))); (case d => assumption)) | ((with_reducible show wpAny _ _ (eval (Expr.Name _ _) (bEnv _)) _ _ _); refine' b_local ?F ?v ?_; (case F => assumption); (case v => (repeat (first | exact if_pos rfl | refine Eq.trans (if_neg (by decide)) ?_))))  | (k_unfold; (try dsimp only)) | (k_end; wrow_close) | walk1 | (dsimp only; walk1) | (leave1; walk_say "STEP leave1"; try dsimp only) | fail "no step")))
  rename Fr _ _ _ _ => F2
  rename News _ _ _ _ => N2
  refine len_list (items := nv.toArray) (News.isList N2 (.tail _ (.tail _ (.tail _ (.tail _ (.tail _ iN)))))) (by rw [List.size_toArray]; omega) ?_
  rw [List.size_toArray, hnv]
  (repeat' ((fail_if_success (with_reducible first | (refine at1 ?_ ?_; constructor) | (refine at3 ?_ ?_; constructor) | show @ite Prop _ _ _ _ | (refine at4 ?_ ?_; constructor) )); (first | ((with_reducible first | refine' b_clock ?N ?m ?d ?_ | refine' b_begun ?N ?m ?d ?_ | refine' b_hours ?N ?m ?d ?_ | refine' b_needs ?N ?m ?d ?_ ); (case N => assumption); (case m => first | assumption | (repeat (first | exact List.Mem.head _ | refine List.Mem.tail _ ?_))); (case d => assumption)) | ((with_reducible show wpAny _ _ (eval (Expr.Name _ _) (bEnv _)) _ _ _); refine' b_local ?F ?v ?_; (case F => assumption); (case v => (repeat (first | exact if_pos rfl | refine Eq.trans (if_neg (by decide)) ?_))))  | (k_unfold; (try dsimp only)) | (k_end; wrow_close) | walk1 | (dsimp only; walk1) | (leave1; walk_say "STEP leave1"; try dsimp only) | fail "no step")))
  refine KMa.mul (ws := vals (List.replicate n (-1, _))) F2 N2 (News.isList N2 (.head _)) (by omega) (by omega) (by rw [Int.toNat_natCast]; simp; omega) (by rw [Int.toNat_natCast]; exact rep_vals n _) ?_
  intro bA h3 F3 N3 l3
  clear F2 N2
  (repeat' ((fail_if_success (with_reducible first | (refine at1 ?_ ?_; constructor) | (refine at3 ?_ ?_; constructor) | show @ite Prop _ _ _ _ | (refine at4 ?_ ?_; constructor) )); (first | ((with_reducible first | refine' b_clock ?N ?m ?d ?_ | refine' b_begun ?N ?m ?d ?_ | refine' b_hours ?N ?m ?d ?_ | refine' b_needs ?N ?m ?d ?_ ); (case N => assumption); (case m => first | assumption | (repeat (first | exact List.Mem.head _ | refine List.Mem.tail _ ?_))); (case d => assumption)) | ((with_reducible show wpAny _ _ (eval (Expr.Name _ _) (bEnv _)) _ _ _); refine' b_local ?F ?v ?_; (case F => assumption); (case v => (repeat (first | exact if_pos rfl | refine Eq.trans (if_neg (by decide)) ?_))))  | (k_unfold; (try dsimp only)) | (k_end; wrow_close) | walk1 | (dsimp only; walk1) | (leave1; walk_say "STEP leave1"; try dsimp only) | fail "no step")))
  have offb : ∀ q ∈ (Lf + 1, o1) :: (Lf + 2, o2) :: (Lf + 3, o3) :: (Lf + 4, o4) :: TT, q.1 ≠ bA := fun q hq => Nat.ne_of_lt (l3 q (.tail _ hq))
  obtain ⟨tB, N4⟩ : ∃ t, News g Lf h3 ((bA, listOf (vals (List.replicate n (-1, t))).toArray 0) :: (Lf + 1, o1) :: (Lf + 2, o2) :: (Lf + 3, o3) :: (Lf + 4, o4) :: TT) := ⟨_, News.sub N3 fun p hp => by
    rcases List.mem_cons.mp hp with rfl | hp
    · exact .head _
    · exact .tail _ (.tail _ hp)⟩
  clear N3
  refine storeX_C F3 N4 (c := Lf + 3) rfl (updF_nd (pre := [_, _, _]) (ND.cons nd offb)) d3 ?_
  intro h4 o3' F4 N5 d3'
  refine hQ1 _ _ ?_
  exact h _ _ bA tB o3' F4 N5 offb d3'
theorem bS4 (bx : Bx w p loose mean mg mb A₀ base outer A g Lf) (F : Fr g Lf s.heap m) (N : News g Lf s.heap nx)
    (h : ∀ h' tk D, Fr g Lf h' (putm (Str.ofString "busy") (.ref D) m) → News g Lf h' ((D, listOf (vals []).toArray 0) :: nx) → (∀ q ∈ nx, q.1 ≠ D) → Q .next { s with heap := h', toks := tk }) :
    wpAny (model PR w) A (exec (bS 4) (bEnv Lf)) Q (fun _ _ => False) s := by
  show wpAny _ _ (exec (.Assign _ _ _) _) _ _ _
  have X := bx.G.X
  have B := bx.G.B
  have TP := bx.G.T
  have hh := bx.hh
  refine abs_post fun Q1 hQ1 => ?_
  (repeat' ((fail_if_success (with_reducible first | (refine at1 ?_ ?_; constructor) | (refine at3 ?_ ?_; constructor) | show @ite Prop _ _ _ _ | (refine at4 ?_ ?_; constructor) )); (first | ((with_reducible first | refine' b_clock ?N ?m ?d ?_ | refine' b_begun ?N ?m ?d ?_ | refine' b_hours ?N ?m ?d ?_ | refine' b_needs ?N ?m ?d ?_ ); (case N => assumption); (case m => first | assumption | (repeat (first | exact List.Mem.head _ | refine List.Mem.tail _ ?_))); (case d => assumption)) | ((with_reducible show wpAny _ _ (eval (Expr.Name _ _) (bEnv _)) _ _ _); refine' b_local ?F ?v ?_; (case F => assumption); (case v => (repeat (first | exact if_pos rfl | refine Eq.trans (if_neg (by decide)) ?_))))  | (k_unfold; (try dsimp only)) | (k_end; wrow_close) | walk1 | (dsimp only; walk1) | (leave1; walk_say "STEP leave1"; try dsimp only) | fail "no step")))
  rename Fr _ _ _ _ => F2
  rename News _ _ _ _ => N2
  refine hQ1 _ _ ?_
  exact h _ _ _ F2 N2 (by first | assumption | (intro q hq; exact Nat.ne_of_lt ((by assumption : ∀ p ∈ nx, p.1 < _) q hq)) | (intro q hq; exact Nat.ne_of_lt (allLt_mem (by assumption) q hq)))
theorem bS5 (bx : Bx w p loose mean mg mb A₀ base outer A g Lf) (F : Fr g Lf s.heap m) (N : News g Lf s.heap nx)
    (h : ∀ h' tk D, Fr g Lf h' (putm (Str.ofString "waiting") (.ref D) m) → News g Lf h' ((D, listOf (vals []).toArray 0) :: nx) → (∀ q ∈ nx, q.1 ≠ D) → Q .next { s with heap := h', toks := tk }) :
    wpAny (model PR w) A (exec (bS 5) (bEnv Lf)) Q (fun _ _ => False) s := by
  show wpAny _ _ (exec (.Assign _ _ _) _) _ _ _
  have X := bx.G.X
  have B := bx.G.B
  have TP := bx.G.T
  have hh := bx.hh
  refine abs_post fun Q1 hQ1 => ?_
  (repeat' ((fail_if_success (with_reducible first | (refine at1 ?_ ?_; constructor) | (refine at3 ?_ ?_; constructor) | show @ite Prop _ _ _ _ | (refine at4 ?_ ?_; constructor) )); (first | ((with_reducible first | refine' b_clock ?N ?m ?d ?_ | refine' b_begun ?N ?m ?d ?_ | refine' b_hours ?N ?m ?d ?_ | refine' b_needs ?N ?m ?d ?_ ); (case N => assumption); (case m => first | assumption | (repeat (first | exact List.Mem.head _ | refine List.Mem.tail _ ?_))); (case d => assumption)) | ((with_reducible show wpAny _ _ (eval (Expr.Name _ _) (bEnv _)) _ _ _); refine' b_local ?F ?v ?_; (case F => assumption); (case v => (repeat (first | exact if_pos rfl | refine Eq.trans (if_neg (by decide)) ?_))))  | (k_unfold; (try dsimp only)) | (k_end; wrow_close) | walk1 | (dsimp only; walk1) | (leave1; walk_say "STEP leave1"; try dsimp only) | fail "no step")))
  rename Fr _ _ _ _ => F2
  rename News _ _ _ _ => N2
  refine hQ1 _ _ ?_
  exact h _ _ _ F2 N2 (by first | assumption | (intro q hq; exact Nat.ne_of_lt ((by assumption : ∀ p ∈ nx, p.1 < _) q hq)) | (intro q hq; exact Nat.ne_of_lt (allLt_mem (by assumption) q hq)))
theorem bS6 {pre post : List (Addr × Obj)} (bx : Bx w p loose mean mg mb A₀ base outer A g Lf) (F : Fr g Lf s.heap m) (N : News g Lf s.heap (pre ++ (Lf + 4, o4) :: post)) (nd : ND (pre ++ (Lf + 4, o4) :: post)) (d4 : o4.data = .cell none)
    (h : ∀ h' tk o4' t, Fr g Lf h' m → News g Lf h' (pre ++ (Lf + 4, o4') :: post) → o4'.data = .cell (some (.int 0 t)) → Q .next { s with heap := h', toks := tk }) :
    wpAny (model PR w) A (exec (bS 6) (bEnv Lf)) Q (fun _ _ => False) s := by
  show wpAny _ _ (exec (.Assign _ _ _) _) _ _ _
  have X := bx.G.X
  have B := bx.G.B
  have TP := bx.G.T
  have hh := bx.hh
  refine abs_post fun Q1 hQ1 => ?_
  (repeat' ((fail_if_success (with_reducible first | (refine at1 ?_ ?_; constructor) | (refine at3 ?_ ?_; constructor) | show @ite Prop _ _ _ _ | (refine at4 ?_ ?_; constructor) )); (first | ((with_reducible first | refine' b_clock ?N ?m ?d ?_ | refine' b_begun ?N ?m ?d ?_ | refine' b_hours ?N ?m ?d ?_ | refine' b_needs ?N ?m ?d ?_ ); (case N => assumption); (case m => first | assumption | (repeat (first | exact List.Mem.head _ | refine List.Mem.tail _ ?_))); (case d => assumption)) | ((with_reducible show wpAny _ _ (eval (Expr.Name _ _) (bEnv _)) _ _ _); refine' b_local ?F ?v ?_; (case F => assumption); (case v => (repeat (first | exact if_pos rfl | refine Eq.trans (if_neg (by decide)) ?_))))  | (k_unfold; (try dsimp only)) | (k_end; wrow_close) | walk1 | (dsimp only; walk1) | (leave1; walk_say "STEP leave1"; try dsimp only) | fail "no step")))
  refine storeX_C F N (c := Lf + 4) rfl (updF_nd nd) d4 ?_
  intro h4 o4' F4 N4 d4'
  refine hQ1 _ _ ?_
  exact h _ _ o4' _ F4 N4 d4'
theorem bS8 {bA : Addr} (bx : Bx w p loose mean mg mb A₀ base outer A g Lf) (F : Fr g Lf s.heap m) (N : News g Lf s.heap ((Lf + 3, o3) :: nx)) (d3 : o3.data = .cell (some (.ref bA)))
    (h : ∀ tk, Q (.ret (.ref bA)) { s with toks := tk }) :
    wpAny (model PR w) A (exec (bS 8) (bEnv Lf)) Q (fun _ _ => False) s := by
  show wpAny _ _ (exec (.Return _ _) _) _ _ _
  have X := bx.G.X
  have B := bx.G.B
  have TP := bx.G.T
  have hh := bx.hh
  refine abs_post fun Q1 hQ1 => ?_
  (repeat' ((fail_if_success (with_reducible first | (refine at1 ?_ ?_; constructor) | (refine at3 ?_ ?_; constructor) | show @ite Prop _ _ _ _ | (refine at4 ?_ ?_; constructor) )); (first | ((with_reducible first | refine' b_clock ?N ?m ?d ?_ | refine' b_begun ?N ?m ?d ?_ | refine' b_hours ?N ?m ?d ?_ | refine' b_needs ?N ?m ?d ?_ ); (case N => assumption); (case m => first | assumption | (repeat (first | exact List.Mem.head _ | refine List.Mem.tail _ ?_))); (case d => assumption)) | ((with_reducible show wpAny _ _ (eval (Expr.Name _ _) (bEnv _)) _ _ _); refine' b_local ?F ?v ?_; (case F => assumption); (case v => (repeat (first | exact if_pos rfl | refine Eq.trans (if_neg (by decide)) ?_))))  | (k_unfold; (try dsimp only)) | (k_end; wrow_close) | walk1 | (dsimp only; walk1) | (leave1; walk_say "STEP leave1"; try dsimp only) | fail "no step")))
  refine hQ1 _ _ ?_
  exact h _
end
/-! part C11 -/
set_option maxHeartbeats 1000000
set_option maxHeartbeats 1000000
def needsF (NL : List Gr) : Int → List Int := fun j => (psAt NL j.toNat).map (·.1)
theorem BA.graph8 {G : List Gr} (hG : ∀ g ∈ G, g.ps.length ≤ 8) : ∀ (l : List Gr) (b : Nat) (A : List (Int × Int × List Int)), (∀ g ∈ l, g ∈ G) → BA b A → BA (b + 8 * l.length) (l.foldl (fun l g => addA g.k (g.ps.map (·.1)) l) A)
  | [], _, _, _, h => h
  | g :: l, b, A, hs, h => by
    rw [List.foldl_cons]
    intro x hx
    have h1 := BA.graph8 hG l (b + (g.ps.map (·.1)).length) _ (fun g hg => hs g (.tail _ hg)) (h.add (k := g.k) (ps := g.ps.map (·.1))) x hx
    have h2 := hG g (hs g (.head _))
    rw [List.length_map] at h1
    rw [List.length_cons]
    omega
theorem l1_keys {Gs : List Gr} {n : Nat} (hl : Gs.length = n) (h : ∀ (j : Nat) x, Gs[j]? = some x → x.k = (n : Int) - 1 - j) : Gs.map (·.k) = (jobsI n).reverse := by
  apply List.ext_getElem?
  intro j
  rw [List.getElem?_map]
  by_cases e : j < n
  · have hj : Gs[j]? = some (Gs[j]'(by omega)) := List.getElem?_eq_getElem (by omega)
    rw [hj, Option.map_some, h j _ hj, List.getElem?_reverse (by unfold jobsI; rw [List.length_map, List.length_range]; exact e)]
    unfold jobsI
    rw [List.length_map, List.length_range, List.getElem?_map, List.getElem?_range (by omega), Option.map_some]
    congr 1
    omega
  · rw [List.getElem?_eq_none (by omega), List.getElem?_eq_none (by unfold jobsI; rw [List.length_reverse, List.length_map, List.length_range]; omega)]
    rfl
theorem ready_iff {nodes : List Nd} (hk : (nodes.map (·.k)).Nodup) (k : Int) : k ∈ (readyOf nodes).map (·.1) ↔ k ∈ nodes.map (·.k) ∧ npA (absN nodes) k = 0 := by
  unfold readyOf
  rw [List.map_map]
  constructor
  · intro h
    obtain ⟨nd, hnd, e⟩ := List.mem_map.mp h
    have e' : nd.k = k := e
    obtain ⟨h1, h2⟩ := List.mem_filter.mp hnd
    subst e'
    exact ⟨List.mem_map_of_mem h1, by rw [npA_abs hk h1]; simpa using h2⟩
  · rintro ⟨h1, h2⟩
    obtain ⟨nd, hnd, rfl⟩ := List.mem_map.mp h1
    rw [npA_abs hk hnd] at h2
    exact List.mem_map.mpr ⟨nd, List.mem_filter.mpr ⟨hnd, by simpa using h2⟩, rfl⟩
theorem ready_nodup {nodes : List Nd} (hk : (nodes.map (·.k)).Nodup) : ((readyOf nodes).map (·.1)).Nodup := by
  unfold readyOf
  rw [List.map_map]
  exact List.Nodup.sublist (List.Sublist.map _ List.filter_sublist) hk
theorem needs_low {NL : List Gr} {n : Nat} (hNL : NL.length = n) (hlow : ∀ (j : Nat) y, NL[j]? = some y → ∀ q ∈ y.ps, 0 ≤ q.1 ∧ q.1 < j) (j : Int) (h1 : 0 ≤ j) (h2 : j < n) (a : Int) (ha : a ∈ needsF NL j) : 0 ≤ a ∧ a < j := by
  unfold needsF psAt at ha
  have hj : NL[j.toNat]? = some (NL[j.toNat]'(by omega)) := List.getElem?_eq_getElem _
  rw [hj] at ha
  obtain ⟨q, hq, rfl⟩ := List.mem_map.mp ha
  have := hlow j.toNat _ hj q hq
  omega
theorem rev_nat (n j : Nat) : ((n : Int) - 1 - (j : Int)).toNat = n - 1 - j := by omega
theorem plan_v1 {NL Gs : List Gr} {n : Nat} (hGs : ∀ (j : Nat) x, Gs[j]? = some x → x.k = (n : Int) - 1 - j ∧ ∃ y, NL[n - 1 - j]? = some y ∧ x.ps = y.ps.dropLast) : ∀ x ∈ (Gs.map fun x => (x.k, x.ps.map (·.1))), x.2 = (needsF NL x.1).dropLast := fun x hx => by
  obtain ⟨y, hy, rfl⟩ := List.mem_map.mp hx
  obtain ⟨j, hj⟩ := List.mem_iff_getElem?.mp hy
  obtain ⟨hk, z, hz, hp⟩ := hGs j y hj
  unfold needsF psAt
  rw [hk, rev_nat, hz, hp, List.map_dropLast]; rfl
theorem plan_v2 {NL : List Gr} {n : Nat} : ∀ x ∈ ((List.range n).map fun j : Nat => ((j : Int), (lastOf NL j).map (·.1))), x.2 = (needsF NL x.1).drop ((needsF NL x.1).length - 1) := fun x hx => by
  obtain ⟨j, hj, rfl⟩ := List.mem_map.mp hx
  unfold needsF lastOf
  rw [Int.toNat_natCast, List.map_drop, List.length_map]
section
variable {w : World} {A : Around} {h₀ : Heap} {L : Addr} {m : Str → Option Value} {s : Shared} {news : List (Addr × Obj)} {R : Result → Shared → Prop} {NL : List Gr} {n : Nat} {nA hA : Addr} {e4 e6 : Nat} {hs : List (Int × Tok)} {W : Int} {tW : Tok}
  {A₀ : Around} {base : Heap} {outer : List Env} {env : Env} {p : Program} {loose : List Str} {mean : ExcName → Option Value} {mg mb : Str → Option Value}
theorem c_begun (G : Gr0 (hd.heap_39 w.params) p loose mean mg mb A₀ base outer h₀) (hA' : A.frames = some (env :: outer)) (hf : env.frame = some L) (hke : env.scope.kind = .function) (hh : A.handled = none) (hgu : A.guards = some []) (hdep : A.depth + 40 < 900) (hun : A.units + 400 < 9000)
    (F : Fr h₀ L s.heap m) (N : News h₀ L s.heap news) (ndN : ND news) (iN : (nA, listOf (refsN NL).toArray e6) ∈ news) (iH : (hA, listOf (vals hs).toArray e4) ∈ news) (iG : ∀ q ∈ gobjs NL, q ∈ news)
    (hNL : NL.length = n) (hn : n ≤ 12) (hlow : ∀ (j : Nat) y, NL[j]? = some y → ∀ q ∈ y.ps, 0 ≤ q.1 ∧ q.1 < j) (hps : ∀ q ∈ NL, q.ps.length ≤ 8) (hhs : hs.length = n) (hh0 : ∀ j : Int, 0 ≤ gI (hs.map (·.1)) j) (hW : 1 ≤ W) (hW2 : W ≤ 12)
    (h : ∀ h₀' h' t' bA bs e1, KtsTurn (fsOf outer) h₀ h₀' → Fr h₀' L h' m → News h₀' L h' ((bA, listOf (vals bs).toArray e1) :: news) → (∀ q ∈ news, q.1 ≠ bA) → Good n (needsF NL) (hs.map (·.1)) W (bs.map (·.1)) → R (.ok (.ret (.ref bA))) { s with heap := h', toks := t' }) :
    codeAny (model PR w) A (.call (.ref 146) ⟨[.ref nA, .ref hA, .int W tW], []⟩) R s := by
  obtain ⟨hd', dep, fr, gu, un⟩ := A
  dsimp only at hA' hh hgu hdep hun
  subst hA' hh hgu
  have X₀ := G.X
  refine' code_defTC (binds := [(Str.ofString "needs", .ref nA), (Str.ofString "hours", .ref hA), (Str.ofString "workers", .int W tW)]) G F N rfl hf hke ?k6 ?k7 ?k8 ?k9 ?kB ?kD ?_ ?c2 ?c3 ?c4
  case k6 => k_is
  case k7 => k_is
  case k8 => k_room
  case k9 => exact BindsTo.of_eq rfl
  case kB =>
    intro n x hx
    rcases List.mem_cons.mp hx with rfl | hx
    · exact .inr ⟨rfl, rfl⟩
    rcases List.mem_cons.mp hx with rfl | hx
    · exact .inr ⟨rfl, rfl⟩
    rw [List.mem_singleton.mp hx]
    exact .inl rfl
  case kD => decide +kernel
  case c2 => exact rfl
  case c3 => exact rfl
  case c4 => exact rfl
  clear F N
  intro g Lf h1 tk1 cells Q0 hQ0 FG F1 N1 Y G1 hlt
  obtain ⟨o4, o3, o2, o1, rfl, d4, d3, d2, d1⟩ := CellsAre.four Y
  show wpAny _ _ (execs [bS 0, bS 1, bS 2, bS 3, bS 4, bS 5, bS 6, bS 7, bS 8] (bEnv Lf)) _ _ _
  have e1 : o1.data = .cell (some (.ref nA)) := d1
  have e2 : o2.data = .cell (some (.ref hA)) := d2
  have e3 : o3.data = .cell none := d3
  have e4' : o4.data = .cell none := d4
  have mW : (bindL (envOfC (Str.ofString "_law_begun") (scopeS begunF) Lf 146 (.ref 145)).kindOf [(Str.ofString "needs", Value.ref nA), (Str.ofString "hours", Value.ref hA), (Str.ofString "workers", Value.int W tW)] fun _ => none) (Str.ofString "workers") = some (.int W tW) := rfl
  clear d1 d2 d3 d4 Y
  have F1' : Fr g Lf h1 (bindL (envOfC (Str.ofString "_law_begun") (scopeS begunF) Lf 146 (.ref 145)).kindOf [(Str.ofString "needs", Value.ref nA), (Str.ofString "hours", Value.ref hA), (Str.ofString "workers", Value.int W tW)] fun _ => none) := F1
  clear F1
  generalize (bindL (envOfC (Str.ofString "_law_begun") (scopeS begunF) Lf 146 (.ref 145)).kindOf [(Str.ofString "needs", Value.ref nA), (Str.ofString "hours", Value.ref hA), (Str.ofString "workers", Value.int W tW)] fun _ => none) = m1 at mW F1'
  have N2 : News g Lf h1 ((Lf + 1, o1) :: (Lf + 2, o2) :: (Lf + 3, o3) :: (Lf + 4, o4) :: news) := News.sub N1 fun q hq => by
    rcases List.mem_cons.mp hq with rfl | hq
    · exact .tail _ (.tail _ (.tail _ (.head _)))
    rcases List.mem_cons.mp hq with rfl | hq
    · exact .tail _ (.tail _ (.head _))
    rcases List.mem_cons.mp hq with rfl | hq
    · exact .tail _ (.head _)
    rcases List.mem_cons.mp hq with rfl | hq
    · exact .head _
    · exact .tail _ (.tail _ (.tail _ (.tail _ hq)))
  clear N1
  have up : ∀ i : Nat, 0 < i → Lf < Lf + i := fun i hi => Nat.lt_add_of_pos_right hi
  have gt : ∀ i j : Nat, i < j → Lf + j ≠ Lf + i := fun i j h => Nat.ne_of_gt (Nat.add_lt_add_left h Lf)
  have ltc : ∀ (a : Nat), Lf < a → ∀ q ∈ news, q.1 ≠ a := fun a ha q hq => Nat.ne_of_lt (Nat.lt_trans (hlt q hq) ha)
  have nd4 : ND ((Lf + 4, o4) :: news) := ND.cons ndN (ltc _ (up _ (by decide)))
  have nd3 : ND ((Lf + 3, o3) :: (Lf + 4, o4) :: news) := ND.cons nd4 (List.forall_mem_cons.mpr ⟨gt 3 4 (by decide), ltc _ (up _ (by decide))⟩)
  have nd2 : ND ((Lf + 2, o2) :: (Lf + 3, o3) :: (Lf + 4, o4) :: news) := ND.cons nd3 (List.forall_mem_cons.mpr ⟨gt 2 3 (by decide), List.forall_mem_cons.mpr ⟨gt 2 4 (by decide), ltc _ (up _ (by decide))⟩⟩)
  have nd1 : ND ((Lf + 1, o1) :: (Lf + 2, o2) :: (Lf + 3, o3) :: (Lf + 4, o4) :: news) := ND.cons nd2 (List.forall_mem_cons.mpr ⟨gt 1 2 (by decide), List.forall_mem_cons.mpr ⟨gt 1 3 (by decide), List.forall_mem_cons.mpr ⟨gt 1 4 (by decide), ltc _ (up _ (by decide))⟩⟩⟩)
  have bx : Bx w p loose mean mg mb { depth := dep, frames := some (env :: outer), guards := some [], units := un } base (env :: outer) (Around.deeper { depth := dep, frames := some (env :: outer), guards := some [], units := un } (bEnv Lf)) g Lf := ⟨G1, rfl, rfl, rfl, by show dep + 1 + 30 < 900; omega, by show un + 3 + 300 < 9000; omega⟩
  -- the sorter
  refine wpAny_execs_cons (bS0 bx F1' N2 nd1 e1 iN hNL hn iG (fun q hq => Nat.le_trans (hps q hq) (by decide)) fun h3 tk3 c od nodes tp tf gd go Gs F3 N3 K3 hab3 hGl hGs => ?_)
  clear F1' N2
  generalize hcs : (gd, go) :: (gobjs Gs ++ (Lf + 1, o1) :: (Lf + 2, o2) :: (Lf + 3, o3) :: (Lf + 4, o4) :: news) = rest1 at N3 K3
  have inR : ∀ q ∈ (Lf + 1, o1) :: (Lf + 2, o2) :: (Lf + 3, o3) :: (Lf + 4, o4) :: news, q ∈ rest1 := fun q hq => by rw [← hcs]; exact .tail _ (List.mem_append_right _ hq)
  have inN : ∀ q ∈ news, q ∈ rest1 := fun q hq => inR q (.tail _ (.tail _ (.tail _ (.tail _ hq))))
  -- the plan's graph
  have a1 : absN nodes = addsA (Gs.map fun x => (x.k, x.ps.map (·.1))) [] := by rw [hab3]; unfold addsA; rw [List.foldl_map]
  have k1 : (Gs.map fun x => (x.k, x.ps.map (·.1))).map (·.1) = (jobsI n).reverse := by
    rw [List.map_map]
    exact l1_keys hGl fun j x hx => (hGs j x hx).1
  have k2 : ((List.range n).map fun j : Nat => ((j : Int), (lastOf NL j).map (·.1))).map (·.1) = jobsI n := by rw [List.map_map]; rfl
  obtain ⟨G2, hnp2, hnd2⟩ := plan_graph (needs_low hNL hlow) k1 (plan_v1 hGs) k2 plan_v2
  have hB1 : BA (0 + 8 * Gs.length) (absN nodes) := by
    rw [hab3]
    refine BA.graph8 (G := Gs) (fun x hx => ?_) Gs 0 [] (fun _ h => h) (fun x hx => nomatch hx)
    obtain ⟨j, hj⟩ := List.mem_iff_getElem?.mp hx
    obtain ⟨_, z, hz, hp⟩ := hGs j x hj
    rw [hp, List.length_dropLast]
    have := hps z (List.mem_of_getElem? hz)
    omega
  have hz1 : nodes.length ≤ 2000 := by
    have hk := K3.keys
    have hr := len_rng (n := n) hk (fun x hx => ?_)
    · rw [List.length_map] at hr; omega
    · have hx' : x ∈ (addsA (Gs.map fun x => (x.k, x.ps.map (·.1))) []).map (·.1) := by rw [← a1, keys_abs]; exact hx
      refine (G2.keys x).mp ?_
      have f := adds_facts ((List.range n).map fun j : Nat => ((j : Int), (lastOf NL j).map (·.1))) (addsA (Gs.map fun x => (x.k, x.ps.map (·.1))) []) (by rw [← a1, keys_abs]; exact hk) (by rw [k2]; exact nodup_jobsI n)
      exact (f.i2 x).mpr (.inl hx')
  refine wpAny_execs_cons (bS1 bx F3 N3 K3 (if_pos rfl) (inR _ (.head _)) e1 (inN _ iN) hNL hn (fun q hq => inN q (iG q hq)) (fun q hq => Nat.le_trans (hps q hq) (by decide)) hB1 (by omega) hz1 fun h4 tk4 m4 od4 nodes4 S4 F4 N4 K4 hab4 hz4 hB4 => ?_)
  clear F3 N3
  have a4 : absN nodes4 = addsA ((List.range n).map fun j : Nat => ((j : Int), (lastOf NL j).map (·.1))) (addsA (Gs.map fun x => (x.k, x.ps.map (·.1))) []) := by
    rw [hab4, a1]
    generalize addsA (Gs.map fun x => (x.k, x.ps.map (·.1))) [] = AA
    unfold addsA
    rw [List.foldl_map]
  rw [← a4] at G2 hnp2
  have hkk := K4.keys
  have hB5 : BA 1000 (absN nodes4) := fun x hx => Nat.le_trans (hB4 x hx) (by omega)
  have hz5 : nodes4.length ≤ 1000 := by
    have hr := len_rng (n := n) hkk (fun x hx => (G2.keys x).mp (by rw [keys_abs]; exact hx))
    rw [List.length_map] at hr; omega
  have hsuc2 : ∀ nd ∈ nodes4, ∀ q ∈ nd.si, nd.k < q.1 ∧ q.1 ∈ nodes4.map (·.k) := fun nd hnd q hq => by
    have hs : q.1 ∈ sucA (absN nodes4) nd.k := by rw [sucA_abs hkk hnd]; exact List.mem_map_of_mem hq
    have hr := G2.sin _ _ hs
    have hnk := (G2.keys nd.k).mp (by rw [keys_abs]; exact List.mem_map_of_mem hnd)
    have hc := G2.cnt nd.k q.1 hnk.1 hnk.2 hr.1 hr.2
    have hm : nd.k ∈ needsF NL q.1 := List.count_pos_iff.mp (by rw [← hc]; exact List.count_pos_iff.mpr hs)
    exact ⟨(G2.low q.1 hr.1 hr.2 _ hm).2, by rw [← keys_abs]; exact (G2.keys q.1).mpr hr⟩
  refine wpAny_execs_cons (bS2 bx F4 N4 K4 (S4.get (if_pos rfl)) hz5 hsuc2 (fun nd hnd => hB5.of_nodes hnd) fun g5 h5 tk5 ra rn T5 F5 N5 K5 => ?_)
  clear F4 N4
  have bx5 : Bx w p loose mean mg mb { depth := dep, frames := some (env :: outer), guards := some [], units := un } base (env :: outer) (Around.deeper { depth := dep, frames := some (env :: outer), guards := some [], units := un } (bEnv Lf)) g5 Lf := ⟨bx.G.turn T5, bx.fr, bx.hh, bx.gu, bx.dep, bx.un⟩
  obtain ⟨rest2, hr2⟩ : ∃ r, r = (gd, go) :: (gobjs Gs ++ news) := ⟨_, rfl⟩
  have hp1 : rest1.Perm ([(Lf + 1, o1), (Lf + 2, o2), (Lf + 3, o3), (Lf + 4, o4)] ++ rest2) := by
    rw [← hcs, hr2]
    exact List.perm_append_comm_assoc ((gd, go) :: gobjs Gs) [(Lf + 1, o1), (Lf + 2, o2), (Lf + 3, o3), (Lf + 4, o4)] news
  have inN2 : ∀ q ∈ news, q ∈ rest2 := fun q hq => by rw [hr2]; exact .tail _ (List.mem_append_right _ hq)
  have K6 := K5.perm (rest' := (ra, listOf (vals (readyOf nodes4)).toArray rn) :: ([(Lf + 1, o1), (Lf + 2, o2), (Lf + 3, o3), (Lf + 4, o4)] ++ rest2)) (hp1.symm.cons _)
  have nd6 := (K6.nd (.ref ra) 0 0 tp tf).perm SL_perm
  have N6 : News g5 Lf h5 ([(Lf + 1, o1), (Lf + 2, o2), (Lf + 3, o3), (Lf + 4, o4)] ++ SL w c (.ref ra) 0 0 tp tf od4 (NN nodes4 ++ (ra, listOf (vals (readyOf nodes4)).toArray rn) :: rest2)) := News.sub N5 fun q hq => by
    have h1 := SL_perm.mem_iff.mp hq
    simp only [List.mem_cons, List.mem_append] at h1 ⊢
    rcases h1 with h | h | h | h | h | h
    · simp [h]
    · simp [h]
    · simp [h]
    · simp [h]
    · simp [h]
    · refine .inr (.inr (.inr (.inr (.inr (hp1.mem_iff.mpr ?_)))))
      simpa [or_assoc] using h
  clear N5
  have iT : ∀ q ∈ rest2, q ∈ SL w c (.ref ra) 0 0 tp tf od4 (NN nodes4 ++ (ra, listOf (vals (readyOf nodes4)).toArray rn) :: rest2) := fun q hq => .tail _ (.tail _ (.tail _ (List.mem_append_right _ (.tail _ hq))))
  generalize hTT : SL w c (.ref ra) 0 0 tp tf od4 (NN nodes4 ++ (ra, listOf (vals (readyOf nodes4)).toArray rn) :: rest2) = TT at nd6 N6 iT
  refine wpAny_execs_cons (bS3 (nv := refsN NL) bx5 F5 N6 nd6 e1 e3 (iT _ (inN2 _ iN)) (by rw [List.length_map]; exact hNL) hn fun h7 tk7 bA tB o3' F7 N7 offb e3' => ?_)
  clear F5 N6
  have ndb := ND.cons (p := (bA, listOf (vals (List.replicate n (-1, tB))).toArray 0)) nd6 offb
  refine wpAny_execs_cons (bS4 bx5 F7 N7 fun h8 tk8 yA F8 N8 offy => ?_)
  clear F7 N7
  refine wpAny_execs_cons (bS5 bx5 F8 N8 fun h9 tk9 wA F9 N9 offw => ?_)
  clear F8 N8
  have ndw : ND ((wA, listOf (vals []).toArray 0) :: (yA, listOf (vals []).toArray 0) :: (bA, listOf (vals (List.replicate n (-1, tB))).toArray 0) :: (Lf + 1, o1) :: (Lf + 2, o2) :: (Lf + 3, o3') :: (Lf + 4, o4) :: TT) := ND.cons (ND.cons (ndb.same rfl) offy) offw
  refine wpAny_execs_cons (bS6 (pre := [(wA, _), (yA, _), (bA, _), (Lf + 1, o1), (Lf + 2, o2), (Lf + 3, o3')]) (post := TT) bx5 F9 N9 ndw e4' fun h10 tk10 o4' t10 F10 N10 e4'' => ?_)
  clear F9 N9
  have hpm : (BLg Lf o1 o2 o3' o4' bA yA wA (List.replicate n (-1, tB)) [] [] 0 0 0 TT).Perm ((wA, listOf (vals []).toArray 0) :: (yA, listOf (vals []).toArray 0) :: (bA, listOf (vals (List.replicate n (-1, tB))).toArray 0) :: (Lf + 1, o1) :: (Lf + 2, o2) :: (Lf + 3, o3') :: (Lf + 4, o4') :: TT) := by
    refine List.Perm.trans (List.perm_middle (l₁ := [_, _, _, _, _, _])) (List.Perm.cons _ ?_)
    refine List.Perm.trans (List.perm_middle (l₁ := [_, _, _, _, _])) (List.Perm.cons _ ?_)
    exact List.perm_middle (l₁ := [_, _, _, _])
  have ndL : ND (BLg Lf o1 o2 o3' o4' bA yA wA (List.replicate n (-1, tB)) [] [] 0 0 0 TT) := ND.perm (l := (wA, listOf (vals []).toArray 0) :: (yA, listOf (vals []).toArray 0) :: (bA, listOf (vals (List.replicate n (-1, tB))).toArray 0) :: (Lf + 1, o1) :: (Lf + 2, o2) :: (Lf + 3, o3') :: (Lf + 4, o4') :: TT) (ndw.same rfl) hpm
  have NL10 : News g5 Lf h10 (BLg Lf o1 o2 o3' o4' bA yA wA (List.replicate n (-1, tB)) [] [] 0 0 0 TT) := News.sub N10 fun q hq => hpm.mem_iff.mp hq
  subst hTT
  have KL : SOK w c od4 nodes4 ((ra, listOf (vals (readyOf nodes4)).toArray rn) :: (BLg Lf o1 o2 o3' o4' bA yA wA (List.replicate n (-1, tB)) [] [] 0 0 0 [] ++ rest2)) := SOK.mk' (ND.perm ndL SL_perm.symm) K6.dict K6.lo
  have m10 : ∀ x v, m4 x = some v → (x == Str.ofString "waiting") = false → (x == Str.ofString "busy") = false → (putm (Str.ofString "waiting") (.ref wA) (putm (Str.ofString "busy") (.ref yA) m4)) x = some v := fun x v hx h1 h2 => by
    show (if x = _ then _ else if x = _ then _ else _) = _
    rw [if_neg (by simpa using h1), if_neg (by simpa using h2)]; exact hx
  have iv : Inv n (needsF NL) (hs.map (·.1)) W 0 (absN nodes4) ((readyOf nodes4).map (·.1)) 0 0 ((List.replicate n ((-1 : Int), tB)).map (·.1)) (([] : List (Int × Tok)).map (·.1)) (([] : List (Int × Tok)).map (·.1)) [] 0 := by
    refine ⟨G2, plan_dyn hnp2 (fun k => ?_) (ready_nodup hkk), plan_si (by rw [List.length_map, List.length_replicate]) (by omega), rfl, Nat.zero_le _⟩
    rw [ready_iff hkk, ← keys_abs, G2.keys, and_assoc]
  refine wpAny_execs_cons (bLoop (rest := rest2) (nv := refsN NL) (D := []) (needs := needsF NL) bx5 F10 NL10 KL e1 e2 e3' e4'' (inN2 _ iH) (inN2 _ iN) (by rw [List.length_map]; exact hNL) (m10 _ _ (S4.get (if_pos rfl)) (by decide) (by decide)) (m10 _ _ (S4.get (Eq.trans (if_neg (by decide)) mW)) (by decide) (by decide))
    (Eq.trans (if_neg (by decide)) (if_pos rfl)) (if_pos rfl) iv hn hhs hW hW2 hh0 hB5 (fun nd hnd q hq => (hsuc2 nd hnd q hq).2) fun h11 tk11 m11 bs11 F11 N11 hgood => ?_)
  refine wpAny_execs_cons (bS8 bx5 F11 N11 e3' fun tk12 => ?_)
  refine hQ0 _ _ ?_
  show LeaveT env outer h₀ L m g R (.ref bA) _
  refine ⟨g5, Lf, m11, (bA, listOf (vals bs11).toArray 0) :: news, T5, F11, News.sub N11 fun q hq => ?_, fun h₀' T F N => h h₀' _ _ bA bs11 0 T F N (fun q hq => ?_) hgood⟩
  · rcases List.mem_cons.mp hq with rfl | hq
    · exact .tail _ (.head _)
    · exact .tail _ (.tail _ (inN2 q hq))
  · exact offb q (.tail _ (.tail _ (.tail _ (.tail _ (iT q (inN2 q hq))))))
end
/-! part P6 -/
set_option maxHeartbeats 1000000
set_option maxHeartbeats 1000000
/-- a sum by index -/
def acc : Nat → (Nat → Int) → Int
  | 0, _ => 0
  | k + 1, f => acc k f + f k
theorem acc_congr {f g : Nat → Int} : ∀ {N : Nat}, (∀ k < N, f k = g k) → acc N f = acc N g
  | 0, _ => rfl
  | N + 1, h => by
    show acc N f + f N = acc N g + g N
    rw [acc_congr fun k hk => h k (by omega), h N (by omega)]
theorem acc_add {f g : Nat → Int} : ∀ {N : Nat}, acc N (fun k => f k + g k) = acc N f + acc N g
  | 0 => rfl
  | N + 1 => by
    show acc N (fun k => f k + g k) + (f N + g N) = (acc N f + f N) + (acc N g + g N)
    rw [acc_add]; omega
theorem acc_le {f g : Nat → Int} : ∀ {N : Nat}, (∀ k < N, f k ≤ g k) → acc N f ≤ acc N g
  | 0, _ => Int.le_refl _
  | N + 1, h => by
    have h1 := acc_le (N := N) fun k hk => h k (by omega)
    have h2 := h N (by omega)
    show acc N f + f N ≤ acc N g + g N
    omega
theorem acc_zero {f : Nat → Int} {N : Nat} (h : ∀ k < N, f k = 0) : acc N f = 0 := by
  rw [acc_congr (g := fun _ => 0) h]
  induction N with
  | zero => rfl
  | succ N ih =>
    show acc N (fun _ => 0) + 0 = 0
    rw [ih fun k hk => h k (by omega)]; rfl
section
variable {n N : Nat} {needs : Int → List Int} {hs bs : List Int} {W : Int} {T : Nat → Int}
/-- the jobs at work between two neighbouring times -/
def awL (n : Nat) (bs hs : List Int) (T : Nat → Int) (k : Nat) : List Int := (jobsI n).filter fun j => decide (gI bs j ≤ T k ∧ T (k + 1) ≤ gI bs j + gI hs j)
def idleAt (n : Nat) (bs hs : List Int) (W : Int) (T : Nat → Int) (k : Nat) : Bool := decide (((awL n bs hs T k).length : Int) < W)
/-- all idle time up to x -/
def idleTo (n : Nat) (bs hs : List Int) (W : Int) (T : Nat → Int) (N : Nat) (x : Int) : Int := acc N fun k => if idleAt n bs hs W T k = true ∧ T (k + 1) ≤ x then T (k + 1) - T k else 0
def heldOf (n : Nat) (bs hs : List Int) (W : Int) (T : Nat → Int) (N : Nat) (j : Int) : Int := acc N fun k => if idleAt n bs hs W T k = true ∧ gI bs j ≤ T k ∧ T (k + 1) ≤ gI bs j + gI hs j then T (k + 1) - T k else 0
/-- the times: in order, and all that is asked is among them -/
structure Tms (n N : Nat) (bs hs : List Int) (T : Nat → Int) : Prop where
  mono : ∀ i j, i ≤ j → j ≤ N → T i ≤ T j
  nn : ∀ i, i ≤ N → 0 ≤ T i
  zero : ∃ i, i ≤ N ∧ T i = 0
  beg : ∀ j : Int, 0 ≤ j → j < n → ∃ i, i ≤ N ∧ T i = gI bs j
  fin : ∀ j : Int, 0 ≤ j → j < n → ∃ i, i ≤ N ∧ T i = gI bs j + gI hs j
  top : ∃ j : Int, 0 ≤ j ∧ j < n ∧ T N = gI bs j + gI hs j
theorem Tms.side (t : Tms n N bs hs T) {x : Int} (hx : ∃ i, i ≤ N ∧ T i = x) {k : Nat} (hk : k < N) : x ≤ T k ∨ T (k + 1) ≤ x := by
  obtain ⟨i, hi, rfl⟩ := hx
  by_cases e : i ≤ k
  · exact .inl (t.mono i k e (by omega))
  · exact .inr (t.mono (k + 1) i (by omega) hi)
theorem held_eq (t : Tms n N bs hs T) (hh : ∀ j : Int, 0 ≤ gI hs j) {j : Int} (h1 : 0 ≤ j) (h2 : j < n) : idleTo n bs hs W T N (gI bs j + gI hs j) = idleTo n bs hs W T N (gI bs j) + heldOf n bs hs W T N j := by
  unfold idleTo heldOf
  rw [← acc_add]
  apply acc_congr
  intro k hk
  have hm := t.mono k (k + 1) (by omega) (by omega)
  have hs' := t.side (t.beg j h1 h2) hk
  have hf := t.side (t.fin j h1 h2) hk
  have h0 := hh j
  cases idleAt n bs hs W T k with
  | false => simp
  | true =>
    simp only [true_and]
    by_cases a : T (k + 1) ≤ gI bs j
    · rw [if_pos a, if_pos (by omega)]
      by_cases b : gI bs j ≤ T k ∧ T (k + 1) ≤ gI bs j + gI hs j
      · rw [if_pos b]; omega
      · rw [if_neg b]; omega
    · rw [if_neg a]
      by_cases c : T (k + 1) ≤ gI bs j + gI hs j
      · rw [if_pos c, if_pos ⟨by omega, c⟩]; omega
      · rw [if_neg c, if_neg (by omega)]; rfl
theorem idle_mono {x y : Int} (t : Tms n N bs hs T) (h : x ≤ y) : idleTo n bs hs W T N x ≤ idleTo n bs hs W T N y := by
  unfold idleTo
  apply acc_le
  intro k hk
  have hm := t.mono k (k + 1) (by omega) (by omega)
  by_cases a : idleAt n bs hs W T k = true ∧ T (k + 1) ≤ x
  · rw [if_pos a, if_pos ⟨a.1, by omega⟩]; exact Int.le_refl _
  · rw [if_neg a]
    split
    · omega
    · exact Int.le_refl _
theorem idle_zero (t : Tms n N bs hs T) : idleTo n bs hs W T N 0 = 0 := by
  unfold idleTo
  apply acc_zero
  intro k hk
  have h1 := t.nn k (by omega)
  have hm := t.mono k (k + 1) (by omega) (by omega)
  split
  · omega
  · rfl
/-- no idle time between the hour at which a job could begin and that at which it begins -/
theorem idle_wait (t : Tms n N bs hs T) (g : Good n needs hs W bs) {j r : Int} (h1 : 0 ≤ j) (h2 : j < n) (hr : ∃ i, i ≤ N ∧ T i = r) (hr0 : 0 ≤ r) (hrn : ∀ a ∈ needs j, gI bs a + gI hs a ≤ r) (hrb : r ≤ gI bs j) : idleTo n bs hs W T N (gI bs j) = idleTo n bs hs W T N r := by
  unfold idleTo
  apply acc_congr
  intro k hk
  have hm := t.mono k (k + 1) (by omega) (by omega)
  by_cases a : T (k + 1) ≤ r
  · have b2 := Int.le_trans a hrb
    by_cases q : idleAt n bs hs W T k = true
    · rw [if_pos ⟨q, b2⟩, if_pos ⟨q, a⟩]
    · rw [if_neg fun z => q z.1, if_neg fun z => q z.1]
  · rcases t.side hr hk with b | b
    · rw [if_neg (c := idleAt n bs hs W T k = true ∧ T (k + 1) ≤ r) (fun q => a q.2)]
      by_cases c : idleAt n bs hs W T k = true ∧ T (k + 1) ≤ gI bs j
      · rw [if_pos c]
        by_cases d : T k < T (k + 1)
        · exfalso
          have hc := g.cs j h1 h2 (T k) (t.nn k (by omega)) (fun x hx => Int.le_trans (hrn x hx) b) (by omega)
          have hi : ((awL n bs hs T k).length : Int) < W := by simpa [idleAt] using c.1
          have hle : runL bs hs (jobsI n) (T k) ≤ (awL n bs hs T k).length := by
            unfold runL awL
            have : (jobsI n).filter (fun i => decide (gI bs i ≤ T k ∧ T k < gI bs i + gI hs i)) = (jobsI n).filter (fun i => decide (gI bs i ≤ T k ∧ T k < gI bs i + gI hs i) && decide (gI bs i ≤ T k ∧ T (k + 1) ≤ gI bs i + gI hs i)) := by
              apply List.filter_congr
              intro i hi
              have hi' := mem_jobsI.mp hi
              have hf := t.side (t.fin i hi'.1 hi'.2) hk
              by_cases q : gI bs i ≤ T k ∧ T k < gI bs i + gI hs i
              · have q2 : gI bs i ≤ T k ∧ T (k + 1) ≤ gI bs i + gI hs i := ⟨q.1, by omega⟩
                rw [decide_eq_true q, decide_eq_true q2]; rfl
              · rw [decide_eq_false q]; rfl
            rw [this, ← List.filter_filter]
            exact List.length_filter_le _ _
          omega
        · omega
      · rw [if_neg c]
    · exact absurd b a
theorem idle_all (t : Tms n N bs hs T) : ∃ j : Int, 0 ≤ j ∧ j < n ∧ acc N (fun k => if idleAt n bs hs W T k = true then T (k + 1) - T k else 0) = idleTo n bs hs W T N (gI bs j + gI hs j) ∧ ∀ i : Int, 0 ≤ i → i < n → idleTo n bs hs W T N (gI bs i + gI hs i) ≤ idleTo n bs hs W T N (gI bs j + gI hs j) := by
  obtain ⟨j, h1, h2, h3⟩ := t.top
  refine ⟨j, h1, h2, ?_, fun i p q => ?_⟩
  · unfold idleTo
    apply acc_congr
    intro k hk
    have := t.mono (k + 1) N (by omega) (Nat.le_refl _)
    have b2 : T (k + 1) ≤ gI bs j + gI hs j := by omega
    by_cases q : idleAt n bs hs W T k = true
    · rw [if_pos q, if_pos ⟨q, b2⟩]
    · rw [if_neg q, if_neg fun z => q z.1]
  · apply idle_mono t
    obtain ⟨x, hx, e⟩ := t.fin i p q
    rw [← e, ← h3]
    exact t.mono x N hx (Nat.le_refl _)
/-- one step of the chains' most -/
theorem most_step (t : Tms n N bs hs T) (g : Good n needs hs W bs) (hh : ∀ j : Int, 0 ≤ gI hs j) (hlow : ∀ j : Int, 0 ≤ j → j < n → ∀ a ∈ needs j, 0 ≤ a ∧ a < j) {j M : Int} (h1 : 0 ≤ j) (h2 : j < n)
    (hM : M ∈ 0 :: (needs j).map fun a => idleTo n bs hs W T N (gI bs a + gI hs a)) (hmax : ∀ x ∈ 0 :: (needs j).map (fun a => idleTo n bs hs W T N (gI bs a + gI hs a)), x ≤ M) :
    heldOf n bs hs W T N j + M = idleTo n bs hs W T N (gI bs j + gI hs j) := by
  -- the greatest end of the needs
  have hr : ∃ r, (∃ i, i ≤ N ∧ T i = r) ∧ 0 ≤ r ∧ (∀ a ∈ needs j, gI bs a + gI hs a ≤ r) ∧ r ≤ gI bs j ∧ (r = 0 ∨ ∃ a ∈ needs j, r = gI bs a + gI hs a) := by
    have key : ∀ l : List Int, (∀ a ∈ l, a ∈ needs j) → ∃ r, (∃ i, i ≤ N ∧ T i = r) ∧ 0 ≤ r ∧ (∀ a ∈ l, gI bs a + gI hs a ≤ r) ∧ r ≤ gI bs j ∧ (r = 0 ∨ ∃ a ∈ l, r = gI bs a + gI hs a) := fun l => by
      induction l with
      | nil => exact fun _ => ⟨0, t.zero, Int.le_refl _, (fun _ h => nomatch h), g.nn j h1 h2, .inl rfl⟩
      | cons a l ih =>
        intro hl
        obtain ⟨r, p1, p2, p3, p4, p5⟩ := ih fun x hx => hl x (.tail _ hx)
        have ha := hl a (.head _)
        have hai := hlow j h1 h2 a ha
        by_cases e : gI bs a + gI hs a ≤ r
        · refine ⟨r, p1, p2, fun x hx => ?_, p4, ?_⟩
          · rcases List.mem_cons.mp hx with rfl | hx
            · exact e
            · exact p3 x hx
          · rcases p5 with p5 | ⟨x, hx, p5⟩
            · exact .inl p5
            · exact .inr ⟨x, .tail _ hx, p5⟩
        · refine ⟨gI bs a + gI hs a, t.fin a hai.1 (by omega), by omega, fun x hx => ?_, g.p1 j h1 h2 a ha, .inr ⟨a, .head _, rfl⟩⟩
          rcases List.mem_cons.mp hx with rfl | hx
          · exact Int.le_refl _
          · exact Int.le_trans (p3 x hx) (by omega)
    exact key (needs j) fun _ h => h
  obtain ⟨r, p1, p2, p3, p4, p5⟩ := hr
  have hMr : M = idleTo n bs hs W T N r := by
    apply Int.le_antisymm
    · rcases List.mem_cons.mp hM with e | e
      · rw [e, ← idle_zero (W := W) t]; exact idle_mono t p2
      · obtain ⟨a, ha, rfl⟩ := List.mem_map.mp e
        exact idle_mono t (p3 a ha)
    · rcases p5 with e | ⟨a, ha, e⟩
      · rw [e, idle_zero t]; exact hmax 0 (.head _)
      · rw [e]; exact hmax _ (.tail _ (List.mem_map.mpr ⟨a, ha, rfl⟩))
  rw [hMr, ← idle_wait t g h1 h2 p1 p2 p3 p4, held_eq t hh h1 h2]
  omega
end
/-! part D1 -/
set_option maxHeartbeats 1000000
set_option maxHeartbeats 1000000
abbrev lEnv (Lf fa : Addr) (cd : Value) : Env := envOfC (Str.ofString "law") (scopeS lawF) Lf fa cd
section
variable {A : Around} {g : Heap} {Lf fa : Addr} {cd : Value} {m : Str → Option Value} {s : Shared} {Q : Value → Shared → Prop} {o : Obj} {pos : Pos} {M : Model} {E : Value → Shared → Prop} {nx : List (Addr × Obj)} {v : Value}
theorem l_numbers (N : News g Lf s.heap nx) (hm : (Lf + 1, o) ∈ nx) (d : o.data = .cell (some v)) (h : Q v s) : wpAny M A (eval (.Name (Str.ofString "numbers") pos) (lEnv Lf fa cd)) Q E s := nameX_C N (by rfl) hm d h
theorem l_hours (N : News g Lf s.heap nx) (hm : (Lf + 2, o) ∈ nx) (d : o.data = .cell (some v)) (h : Q v s) : wpAny M A (eval (.Name (Str.ofString "hours") pos) (lEnv Lf fa cd)) Q E s := nameX_C N (by rfl) hm d h
theorem l_job (N : News g Lf s.heap nx) (hm : (Lf + 3, o) ∈ nx) (d : o.data = .cell (some v)) (h : Q v s) : wpAny M A (eval (.Name (Str.ofString "job") pos) (lEnv Lf fa cd)) Q E s := nameX_C N (by rfl) hm d h
theorem l_k (N : News g Lf s.heap nx) (hm : (Lf + 4, o) ∈ nx) (d : o.data = .cell (some v)) (h : Q v s) : wpAny M A (eval (.Name (Str.ofString "k") pos) (lEnv Lf fa cd)) Q E s := nameX_C N (by rfl) hm d h
theorem l_begun (N : News g Lf s.heap nx) (hm : (Lf + 5, o) ∈ nx) (d : o.data = .cell (some v)) (h : Q v s) : wpAny M A (eval (.Name (Str.ofString "begun") pos) (lEnv Lf fa cd)) Q E s := nameX_C N (by rfl) hm d h
theorem l_ends (N : News g Lf s.heap nx) (hm : (Lf + 6, o) ∈ nx) (d : o.data = .cell (some v)) (h : Q v s) : wpAny M A (eval (.Name (Str.ofString "ends") pos) (lEnv Lf fa cd)) Q E s := nameX_C N (by rfl) hm d h
theorem l_times (N : News g Lf s.heap nx) (hm : (Lf + 7, o) ∈ nx) (d : o.data = .cell (some v)) (h : Q v s) : wpAny M A (eval (.Name (Str.ofString "times") pos) (lEnv Lf fa cd)) Q E s := nameX_C N (by rfl) hm d h
theorem l_most (N : News g Lf s.heap nx) (hm : (Lf + 8, o) ∈ nx) (d : o.data = .cell (some v)) (h : Q v s) : wpAny M A (eval (.Name (Str.ofString "most") pos) (lEnv Lf fa cd)) Q E s := nameX_C N (by rfl) hm d h
theorem l_local {x : Str} (F : Fr g Lf s.heap m) (hv : m x = some v) (h : Q v s) (hx : (lEnv Lf fa cd).kindOf x = some .local := by rfl) (hd : (x == ("__debug__" : Str)) = false := by decide) : wpAny M A (eval (.Name x pos) (lEnv Lf fa cd)) Q E s := nameX_L F hv h rfl hx hd
end
/-- where a call of law stands -/
structure Lx (w : World) (p : Program) (loose : List Str) (mean : ExcName → Option Value) (mg mb : Str → Option Value) (A₀ : Around) (base : Heap) (A : Around) (g : Heap) (Lf fa : Addr) (cd : Value) : Prop where
  G : Gr0 (hd.heap_39 w.params) p loose mean mg mb A₀ base [] g
  fr : A.frames = some [lEnv Lf fa cd]
  hh : A.handled = none
  gu : A.guards = some []
  dep : A.depth + 60 < 900
  un : A.units + 600 < 9000
theorem Lx.room {w : World} {p : Program} {loose : List Str} {mean : ExcName → Option Value} {mg mb : Str → Option Value} {A₀ : Around} {base : Heap} {A : Around} {g : Heap} {Lf fa : Addr} {cd : Value} (b : Lx w p loose mean mg mb A₀ base A g Lf fa cd) : A.units + 64 < cLine := by
  have := b.un
  have e : cLine = 9900 := rfl
  omega
/-- the eight cells of law -/
abbrev LC (Lf : Addr) (o1 o2 o3 o4 o5 o6 o7 o8 : Obj) (TT : List (Addr × Obj)) : List (Addr × Obj) :=
  (Lf + 1, o1) :: (Lf + 2, o2) :: (Lf + 3, o3) :: (Lf + 4, o4) :: (Lf + 5, o5) :: (Lf + 6, o6) :: (Lf + 7, o7) :: (Lf + 8, o8) :: TT
/-- with no frames outside the ground does not turn -/
theorem turn_nil {g g' : Heap} (T : KtsTurn [] g g') {L : Addr} {h : Heap} {m : Str → Option Value} {nx : List (Addr × Obj)} (F : Fr g' L h m) (N : News g' L h nx) : Fr g L h m ∧ News g L h nx :=
  ⟨⟨F.ns, fun b o e => F.keep b o (T.other b o e (fun h => nomatch h)), by rw [← T.size]; exact F.above⟩, fun q hq => ⟨(N q hq).1, (N q hq).2.1, by
    cases e : g.get? q.1 with
    | none => rfl
    | some o => have := T.other _ o e (fun h => nomatch h); rw [(N q hq).2.2] at this; cases this⟩⟩
/-- the ledgers of law's loops -/
inductive JT2 (Lf : Addr) (o1 o2 o4 o5 o6 o7 o8 : Obj) (TT : List (Addr × Obj)) : List (Addr × Obj) → Prop
  | mk (o3 : Obj) (v3 : Option Value) (d : o3.data = .cell v3) : JT2 Lf o1 o2 o4 o5 o6 o7 o8 TT (LC Lf o1 o2 o3 o4 o5 o6 o7 o8 TT)
inductive JT8 (mA Lf : Addr) (o1 o2 o4 o5 o6 o7 o8 : Obj) (TT : List (Addr × Obj)) (f : List Int) : List (Addr × Obj) → Prop
  | mk (o3 : Obj) (v3 : Option Value) (ms : List (Int × Tok)) (e : Nat) (d : o3.data = .cell v3) (h : ms.map (·.1) = f) : JT8 mA Lf o1 o2 o4 o5 o6 o7 o8 TT f ((mA, listOf (vals ms).toArray e) :: LC Lf o1 o2 o3 o4 o5 o6 o7 o8 TT)
inductive JU1 (p q : Addr × Obj) (hA : Addr) (eh : Nat) (Lf : Addr) (o1 o2 o4 o5 o6 o7 o8 : Obj) (TT : List (Addr × Obj)) (n : Nat) (P : List Int → Prop) : List (Addr × Obj) → Prop
  | mk (o3 : Obj) (v3 : Option Value) (ds : List (Int × Tok)) (d : o3.data = .cell v3) (l : ds.length = n) (h : P (ds.map (·.1))) : JU1 p q hA eh Lf o1 o2 o4 o5 o6 o7 o8 TT n P (p :: q :: (hA, listOf (vals ds).toArray eh) :: LC Lf o1 o2 o3 o4 o5 o6 o7 o8 TT)
inductive JT6 (hA : Addr) (eh : Nat) (Lf : Addr) (o1 o2 o5 o6 o7 o8 : Obj) (TT : List (Addr × Obj)) (n : Nat) (z : Int) (P : List Int → Prop) (m : Str → Option Value) : List (Addr × Obj) → Prop
  | mk (o3 : Obj) (v3 : Option Value) (o4 : Obj) (v4 : Option Value) (ds : List (Int × Tok)) (t : Tok) (d3 : o3.data = .cell v3) (d4 : o4.data = .cell v4) (l : ds.length = n) (mi : m (Str.ofString "idle") = some (.int z t)) (h : P (ds.map (·.1))) :
    JT6 hA eh Lf o1 o2 o5 o6 o7 o8 TT n z P m ((hA, listOf (vals ds).toArray eh) :: LC Lf o1 o2 o3 o4 o5 o6 o7 o8 TT)
inductive JS5 (nA Lf : Addr) (o1 o2 o4 o5 o6 o7 o8 : Obj) (TT : List (Addr × Obj)) (i : Nat) : List (Addr × Obj) → Prop
  | mk (o3 : Obj) (v3 : Option Value) (NL : List Gr) (e : Nat) (nd : ND ((nA, listOf (refsN NL).toArray e) :: LC Lf o1 o2 o3 o4 o5 o6 o7 o8 (gobjs NL ++ TT))) (d : o3.data = .cell v3) (l : NL.length = i) (hl : ∀ (j : Nat) y, NL[j]? = some y → ∀ q ∈ y.ps, 0 ≤ q.1 ∧ q.1 < j) (hp : ∀ q ∈ NL, q.ps.length ≤ 8) :
    JS5 nA Lf o1 o2 o4 o5 o6 o7 o8 TT i ((nA, listOf (refsN NL).toArray e) :: LC Lf o1 o2 o3 o4 o5 o6 o7 o8 (gobjs NL ++ TT))
inductive JS6 (Lf : Addr) (o1 o2 : Obj) (TT : List (Addr × Obj)) : List (Addr × Obj) → Prop
  | mk (o3 o4 o5 o6 o7 o8 : Obj) (v3 v4 v5 v6 v7 v8 : Option Value) (d3 : o3.data = .cell v3) (d4 : o4.data = .cell v4) (d5 : o5.data = .cell v5) (d6 : o6.data = .cell v6) (d7 : o7.data = .cell v7) (d8 : o8.data = .cell v8) : JS6 Lf o1 o2 TT (LC Lf o1 o2 o3 o4 o5 o6 o7 o8 TT)
inductive JS1 (D2 : Addr) (oD : Obj) (nA : Addr) (en : Nat) (Lf : Addr) (o1 o2 o3 o4 o5 o6 o7 o8 : Obj) (TT : List (Addr × Obj)) (n : Nat) : List (Addr × Obj) → Prop
  | mk (nl : List (Int × Tok)) (l : nl.length = n) : JS1 D2 oD nA en Lf o1 o2 o3 o4 o5 o6 o7 o8 TT n ((D2, oD) :: (nA, listOf (vals nl).toArray en) :: LC Lf o1 o2 o3 o4 o5 o6 o7 o8 TT)
/-! part D2 -/
set_option maxHeartbeats 1000000
set_option maxHeartbeats 1000000
theorem paired_rng {f : Int → Int} {n : Nat} {vs zs : List Value} (hl : vs.length = n) (hv : ∀ (j : Nat) (v : Value), vs[j]? = some v → ∃ t, v = Value.int (j : Int) t) (h : Paired (fun v y => ∃ k t t', v = Value.int k t ∧ y = Value.int (f k) t') vs zs) : ∃ l : List (Int × Tok), zs = vals l ∧ l.map (·.1) = (jobsI n).map f := by
  have h1 : ∃ l0 : List (Int × Tok), vs = vals l0 ∧ l0.map (·.1) = jobsI n := by
    refine ⟨vs.map fun v => match v with | .int k t => (k, t) | _ => (0, 0), ?_, ?_⟩
    · unfold vals
      rw [List.map_map]
      refine (List.map_id vs).symm.trans (List.map_congr_left fun v hv' => ?_)
      obtain ⟨j, hj⟩ := List.mem_iff_getElem?.mp hv'
      obtain ⟨t, rfl⟩ := hv j v hj
      rfl
    · rw [List.map_map]
      apply List.ext_getElem?
      intro j
      rw [List.getElem?_map]
      unfold jobsI
      rw [List.getElem?_map]
      by_cases e : j < n
      · have hj : vs[j]? = some (vs[j]'(by omega)) := List.getElem?_eq_getElem (by omega)
        obtain ⟨t, ht⟩ := hv j _ hj
        rw [hj, ht, List.getElem?_range e]; rfl
      · rw [List.getElem?_eq_none (by omega), List.getElem?_eq_none (by rw [List.length_range]; omega)]; rfl
  obtain ⟨l0, rfl, e0⟩ := h1
  obtain ⟨l, e1, e2⟩ := paired_ints h
  refine ⟨l, e1, ?_⟩
  rw [e2, ← e0, List.map_map]; rfl
section
variable {w : World} {A : Around} {g : Heap} {Lf fa : Addr} {cd : Value} {m : Str → Option Value} {s : Shared} {Q : Flow → Shared → Prop} {o1 o2 o3 o4 o5 o6 o7 o8 : Obj} {TT : List (Addr × Obj)} {n : Nat}
  {A₀ : Around} {base : Heap} {p : Program} {loose : List Str} {mean : ExcName → Option Value} {mg mb : Str → Option Value} {jA bA hA : Addr} {bs hs : List (Int × Tok)} {e1 e4 : Nat} {t1 t2 t3 : Tok}
theorem lT1 (lx : Lx w p loose mean mg mb A₀ base A g Lf fa cd) (F : Fr g Lf s.heap m) (N : News g Lf s.heap (LC Lf o1 o2 o3 o4 o5 o6 o7 o8 TT)) (nd : ND (LC Lf o1 o2 o3 o4 o5 o6 o7 o8 TT))
    (mj : m (Str.ofString "jobs") = some (.ref jA)) (d2 : o2.data = .cell (some (.ref hA))) (d5 : o5.data = .cell (some (.ref bA))) {v6 : Option Value} (d6 : o6.data = .cell v6) (ij : (jA, rngObj 0 n 1 t1 t2 t3) ∈ TT) (ib : (bA, listOf (vals bs).toArray e1) ∈ TT) (ih : (hA, listOf (vals hs).toArray e4) ∈ TT) (hb : bs.length = n) (hh' : hs.length = n) (hn : n ≤ 12)
    (h : ∀ h' tk eA es e5 o6', Fr g Lf h' m → News g Lf h' ((eA, listOf (vals es).toArray e5) :: LC Lf o1 o2 o3 o4 o5 o6' o7 o8 TT) → (∀ q ∈ LC Lf o1 o2 o3 o4 o5 o6 o7 o8 TT, q.1 ≠ eA) → o6'.data = .cell (some (.ref eA)) → es.map (·.1) = (jobsI n).map (fun j => gI (bs.map (·.1)) j + gI (hs.map (·.1)) j) → Q .next { s with heap := h', toks := tk }) :
    wpAny (model PR w) A (exec (lT 1) (lEnv Lf fa cd)) Q (fun _ _ => False) s := by
  show wpAny _ _ (exec (.Assign _ _ _) _) _ _ _
  have X := lx.G.X
  have B := lx.G.B
  have TP := lx.G.T
  have hh := lx.hh
  have em := fix_name mj
  rw [em] at F
  have mT : ∀ q ∈ TT, q ∈ LC Lf o1 o2 o3 o4 o5 o6 o7 o8 TT := fun q hq => .tail _ (.tail _ (.tail _ (.tail _ (.tail _ (.tail _ (.tail _ (.tail _ hq)))))))
  refine abs_post fun Q1 hQ1 => ?_
  walk1
  refine eval_comp (cl := [(Str.ofString "hours", Lf + 2), (Str.ofString "begun", Lf + 5)]) (fun _ => true) (fun v y => ∃ k t t', v = Value.int k t ∧ y = Value.int (gI (bs.map (·.1)) k + gI (hs.map (·.1)) k) t') rfl (by decide) rfl (by decide) rfl ?_
  (repeat' ((fail_if_success (with_reducible first | (refine at1 ?_ ?_; constructor) | (refine at3 ?_ ?_; constructor) | show @ite Prop _ _ _ _ | (refine at6 ?_ ?_; constructor) )); (first | ((with_reducible first | refine' l_numbers ?N ?m ?d ?_ | refine' l_hours ?N ?m ?d ?_ | refine' l_job ?N ?m ?d ?_ | refine' l_k ?N ?m ?d ?_ | refine' l_begun ?N ?m ?d ?_ | refine' l_ends ?N ?m ?d ?_ | refine' l_times ?N ?m ?d ?_ | refine' l_most ?N ?m ?d ?_ ); (case N => assumption); (case m => first | assumption | (repeat (first | exact List.Mem.head _ | refine List.Mem.tail _ ?_))); (case d => assumption)) | ((with_reducible show wpAny _ _ (eval (Expr.Name _ _) (lEnv _ _ _)) _ _ _); refine' l_local ?F ?v ?_; (case F => assumption); (case v => (repeat (first | exact if_pos rfl | refine Eq.trans (if_neg (by decide)) ?_))))  | (k_unfold; (try dsimp only)) | (k_end; wrow_close) | walk1 | (dsimp only; walk1) | (leave1; walk_say "STEP leave1"; try dsimp only) | fail "no step")))
  refine comp_jobs (n := n) hh (N _ (mT _ ij)).1 (by omega) F N ?q ?_
  case q =>
    refine ⟨fun C i v s₃ m₃ E' hP hc => tests_nil ⟨rfl, _, rfl⟩, ?_⟩
    intro C i v s₃ m₃ E' hP _ hc
    obtain ⟨hi, t, rfl⟩ := hP
    have hns := hc.ns
    have hvr := hc.var
    have hc2 := hc.led (Lf + 2, o2) (by ((repeat (first | exact List.Mem.head _ | refine List.Mem.tail _ ?_))))
    have hc5 := hc.led (Lf + 5, o5) (by ((repeat (first | exact List.Mem.head _ | refine List.Mem.tail _ ?_))))
    have hlb : s₃.heap.IsList bA (vals bs).toArray := ⟨_, hc.led (bA, _) (mT _ ib), rfl, ⟨_, rfl⟩⟩
    have hlh : s₃.heap.IsList hA (vals hs).toArray := ⟨_, hc.led (hA, _) (mT _ ih), rfl, ⟨_, rfl⟩⟩
    dsimp only at hc2 hc5
    clear F N hc
    (repeat' ((fail_if_success (with_reducible first | (refine at1 ?_ ?_; constructor) | (refine at3 ?_ ?_; constructor) | show @ite Prop _ _ _ _ | (refine at6 ?_ ?_; constructor) )); (first | ((with_reducible show wpAny _ _ (eval (Expr.Name _ _) (compEnvC _ _ _ _)) _ _ _); first | (refine' comp_var ?k1 ?k2 ?_ ?k3 ?k4 ?k5; (case k2 => with_reducible assumption); (case k1 => with_reducible assumption); (case k3 => exact rfl); (case k4 => exact rfl); (case k5 => decide)) | (refine' comp_free ?k1 ?k2 ?_ ?k3 ?k4 ?k5 ?k6; (case k3 => exact rfl); (case k1 => with_reducible assumption); (case k2 => with_reducible assumption); (case k4 => exact rfl); (case k5 => exact rfl); (case k6 => decide))) | (k_unfold; (try dsimp only)) | (k_end; wrow_close) | walk1 | (dsimp only; walk1) | (leave1; walk_say "STEP leave1"; try dsimp only) | fail "no step")))
    have ix := Ix.of hi (by omega)
    refine item_V hlb hb ix (fun t1 => ?_)
    (repeat' ((fail_if_success (with_reducible first | (refine at1 ?_ ?_; constructor) | (refine at3 ?_ ?_; constructor) | show @ite Prop _ _ _ _ | (refine at6 ?_ ?_; constructor) )); (first | ((with_reducible show wpAny _ _ (eval (Expr.Name _ _) (compEnvC _ _ _ _)) _ _ _); first | (refine' comp_var ?k1 ?k2 ?_ ?k3 ?k4 ?k5; (case k2 => with_reducible assumption); (case k1 => with_reducible assumption); (case k3 => exact rfl); (case k4 => exact rfl); (case k5 => decide)) | (refine' comp_free ?k1 ?k2 ?_ ?k3 ?k4 ?k5 ?k6; (case k3 => exact rfl); (case k1 => with_reducible assumption); (case k2 => with_reducible assumption); (case k4 => exact rfl); (case k5 => exact rfl); (case k6 => decide))) | (k_unfold; (try dsimp only)) | (k_end; wrow_close) | walk1 | (dsimp only; walk1) | (leave1; walk_say "STEP leave1"; try dsimp only) | fail "no step")))
    refine item_V hlh hh' ix (fun t2 => ?_)
    (repeat' ((fail_if_success (with_reducible first | (refine at1 ?_ ?_; constructor) | (refine at3 ?_ ?_; constructor) | show @ite Prop _ _ _ _ | (refine at6 ?_ ?_; constructor) )); (first | ((with_reducible show wpAny _ _ (eval (Expr.Name _ _) (compEnvC _ _ _ _)) _ _ _); first | (refine' comp_var ?k1 ?k2 ?_ ?k3 ?k4 ?k5; (case k2 => with_reducible assumption); (case k1 => with_reducible assumption); (case k3 => exact rfl); (case k4 => exact rfl); (case k5 => decide)) | (refine' comp_free ?k1 ?k2 ?_ ?k3 ?k4 ?k5 ?k6; (case k3 => exact rfl); (case k1 => with_reducible assumption); (case k2 => with_reducible assumption); (case k4 => exact rfl); (case k5 => exact rfl); (case k6 => decide))) | (k_unfold; (try dsimp only)) | (k_end; wrow_close) | walk1 | (dsimp only; walk1) | (leave1; walk_say "STEP leave1"; try dsimp only) | fail "no step")))
  intro D h1 tk1 ys1 k1 vs F1 N1 hDn hvl hvv hpr
  rw [filter_all] at hpr
  obtain ⟨l', e1', e2'⟩ := paired_rng (f := fun k => gI (bs.map (·.1)) k + gI (hs.map (·.1)) k) hvl hvv hpr
  clear F N
  have hys : ys1 = (vals l').toArray := by apply Array.toList_inj.mp; rw [e1']
  subst hys
  (repeat' ((fail_if_success (with_reducible first | (refine at1 ?_ ?_; constructor) | (refine at3 ?_ ?_; constructor) | show @ite Prop _ _ _ _ | (refine at6 ?_ ?_; constructor) )); (first | ((with_reducible first | refine' l_numbers ?N ?m ?d ?_ | refine' l_hours ?N ?m ?d ?_ | refine' l_job ?N ?m ?d ?_ | refine' l_k ?N ?m ?d ?_ | refine' l_begun ?N ?m ?d ?_ | refine' l_ends ?N ?m ?d ?_ | refine' l_times ?N ?m ?d ?_ | refine' l_most ?N ?m ?d ?_ ); (case N => assumption); (case m => first | assumption | (repeat (first | exact List.Mem.head _ | refine List.Mem.tail _ ?_))); (case d => assumption)) | ((with_reducible show wpAny _ _ (eval (Expr.Name _ _) (lEnv _ _ _)) _ _ _); refine' l_local ?F ?v ?_; (case F => assumption); (case v => (repeat (first | exact if_pos rfl | refine Eq.trans (if_neg (by decide)) ?_))))  | (k_unfold; (try dsimp only)) | (k_end; wrow_close) | walk1 | (dsimp only; walk1) | (leave1; walk_say "STEP leave1"; try dsimp only) | fail "no step")))
  refine storeX_C F1 N1 (c := Lf + 6) rfl (updF_nd (pre := [_, _, _, _, _, _]) (ND.cons nd hDn)) d6 ?_
  intro h2 o6' F2 N2 d6'
  refine hQ1 _ _ ?_
  exact h _ _ D l' k1 o6' (by rw [← em] at F2; exact F2) N2 hDn d6' e2'
end
/-! part D3 -/
set_option maxHeartbeats 1000000
set_option maxHeartbeats 1000000
section
variable {w : World} {A : Around} {g : Heap} {Lf fa : Addr} {cd : Value} {m : Str → Option Value} {s : Shared} {Q : Flow → Shared → Prop} {o1 o2 o3 o4 o5 o6 o7 o8 : Obj} {TT : List (Addr × Obj)} {n : Nat}
  {A₀ : Around} {base : Heap} {p : Program} {loose : List Str} {mean : ExcName → Option Value} {mg mb : Str → Option Value} {nA hA : Addr} {hs : List (Int × Tok)} {e4 e6 : Nat} {NL : List Gr} {W : Int} {tW : Tok}
theorem lT0 (lx : Lx w p loose mean mg mb A₀ base A g Lf fa cd) (F : Fr g Lf s.heap m) (N : News g Lf s.heap (LC Lf o1 o2 o3 o4 o5 o6 o7 o8 TT)) (nd : ND (LC Lf o1 o2 o3 o4 o5 o6 o7 o8 TT))
    (mn : m (Str.ofString "needs") = some (.ref nA)) (mW : m (Str.ofString "workers") = some (.int W tW)) (d2 : o2.data = .cell (some (.ref hA))) {v5 : Option Value} (d5 : o5.data = .cell v5) (iN : (nA, listOf (refsN NL).toArray e6) ∈ TT) (iH : (hA, listOf (vals hs).toArray e4) ∈ TT) (iG : ∀ q ∈ gobjs NL, q ∈ TT)
    (hNL : NL.length = n) (hn : n ≤ 12) (hlow : ∀ (j : Nat) y, NL[j]? = some y → ∀ q ∈ y.ps, 0 ≤ q.1 ∧ q.1 < j) (hps : ∀ q ∈ NL, q.ps.length ≤ 8) (hhs : hs.length = n) (hh0 : ∀ j : Int, 0 ≤ gI (hs.map (·.1)) j) (hW : 1 ≤ W) (hW2 : W ≤ 12)
    (h : ∀ h' tk bA bs e1 o5', Fr g Lf h' m → News g Lf h' ((bA, listOf (vals bs).toArray e1) :: LC Lf o1 o2 o3 o4 o5' o6 o7 o8 TT) → (∀ q ∈ LC Lf o1 o2 o3 o4 o5 o6 o7 o8 TT, q.1 ≠ bA) → o5'.data = .cell (some (.ref bA)) → Good n (needsF NL) (hs.map (·.1)) W (bs.map (·.1)) → Q .next { s with heap := h', toks := tk }) :
    wpAny (model PR w) A (exec (lT 0) (lEnv Lf fa cd)) Q (fun _ _ => False) s := by
  show wpAny _ _ (exec (.Assign _ _ _) _) _ _ _
  have X := lx.G.X
  have B := lx.G.B
  have TP := lx.G.T
  have hh := lx.hh
  have em := fix2 mn mW
  rw [em] at F
  have mT : ∀ q ∈ TT, q ∈ LC Lf o1 o2 o3 o4 o5 o6 o7 o8 TT := fun q hq => .tail _ (.tail _ (.tail _ (.tail _ (.tail _ (.tail _ (.tail _ (.tail _ hq)))))))
  refine abs_post fun Q1 hQ1 => ?_
  (repeat' ((fail_if_success (with_reducible first | (refine at1 ?_ ?_; constructor) | (refine at3 ?_ ?_; constructor) | show @ite Prop _ _ _ _ | (refine at6 ?_ ?_; constructor) )); (first | ((with_reducible first | refine' l_numbers ?N ?m ?d ?_ | refine' l_hours ?N ?m ?d ?_ | refine' l_job ?N ?m ?d ?_ | refine' l_k ?N ?m ?d ?_ | refine' l_begun ?N ?m ?d ?_ | refine' l_ends ?N ?m ?d ?_ | refine' l_times ?N ?m ?d ?_ | refine' l_most ?N ?m ?d ?_ ); (case N => assumption); (case m => first | assumption | (repeat (first | exact List.Mem.head _ | refine List.Mem.tail _ ?_))); (case d => assumption)) | ((with_reducible show wpAny _ _ (eval (Expr.Name _ _) (lEnv _ _ _)) _ _ _); refine' l_local ?F ?v ?_; (case F => assumption); (case v => (repeat (first | exact if_pos rfl | refine Eq.trans (if_neg (by decide)) ?_))))  | (k_unfold; (try dsimp only)) | (k_end; wrow_close) | walk1 | (dsimp only; walk1) | (leave1; walk_say "STEP leave1"; try dsimp only) | fail "no step")))
  refine wpAny_call ?_
  have ldep := lx.dep
  have lun := lx.un
  refine c_begun lx.G lx.fr rfl rfl lx.hh lx.gu (by omega) (by omega) F N nd (mT _ iN) (mT _ iH) (fun q hq => mT q (iG q hq)) hNL hn hlow hps hhs hh0 hW hW2 fun h₀' h1 t1 bA bs e1 T F1 N1 off1 hgood => ?_
  obtain ⟨F2, N2⟩ := turn_nil T F1 N1
  clear F N F1 N1
  (repeat' ((fail_if_success (with_reducible first | (refine at1 ?_ ?_; constructor) | (refine at3 ?_ ?_; constructor) | show @ite Prop _ _ _ _ | (refine at6 ?_ ?_; constructor) )); (first | ((with_reducible first | refine' l_numbers ?N ?m ?d ?_ | refine' l_hours ?N ?m ?d ?_ | refine' l_job ?N ?m ?d ?_ | refine' l_k ?N ?m ?d ?_ | refine' l_begun ?N ?m ?d ?_ | refine' l_ends ?N ?m ?d ?_ | refine' l_times ?N ?m ?d ?_ | refine' l_most ?N ?m ?d ?_ ); (case N => assumption); (case m => first | assumption | (repeat (first | exact List.Mem.head _ | refine List.Mem.tail _ ?_))); (case d => assumption)) | ((with_reducible show wpAny _ _ (eval (Expr.Name _ _) (lEnv _ _ _)) _ _ _); refine' l_local ?F ?v ?_; (case F => assumption); (case v => (repeat (first | exact if_pos rfl | refine Eq.trans (if_neg (by decide)) ?_))))  | (k_unfold; (try dsimp only)) | (k_end; wrow_close) | walk1 | (dsimp only; walk1) | (leave1; walk_say "STEP leave1"; try dsimp only) | fail "no step")))
  refine storeX_C F2 N2 (c := Lf + 5) rfl (updF_nd (pre := [_, _, _, _, _]) (ND.cons nd off1)) d5 ?_
  intro h3 o5' F3 N3 d5'
  refine hQ1 _ _ ?_
  exact h _ _ bA bs e1 o5' (by rw [← em] at F3; exact F3) N3 off1 d5' hgood
end
/-! part D4 -/
set_option maxHeartbeats 1000000
set_option maxHeartbeats 1000000
theorem gI_jobs {n : Nat} {f : Int → Int} {a : Int} (h1 : 0 ≤ a) (h2 : a < n) : gI ((jobsI n).map f) a = f a := by
  unfold gI jobsI
  rw [List.getD_eq_getElem?_getD, List.map_map, List.getElem?_map, List.getElem?_range (by omega)]
  show f ((a.toNat : Nat) : Int) = f a
  congr 1
  omega
section
variable {w : World} {A : Around} {g : Heap} {Lf fa : Addr} {cd : Value} {m : Str → Option Value} {s : Shared} {Q : Flow → Shared → Prop} {o1 o2 o3 o4 o5 o6 o7 o8 : Obj} {TT : List (Addr × Obj)} {n : Nat}
  {A₀ : Around} {base : Heap} {p : Program} {loose : List Str} {mean : ExcName → Option Value} {mg mb : Str → Option Value} {nA jA bA eA : Addr} {bs es : List (Int × Tok)} {hsI : List Int} {e1 e5 e6 : Nat} {NL : List Gr} {W : Int} {t1 t2 t3 : Tok}
theorem lT2 (lx : Lx w p loose mean mg mb A₀ base A g Lf fa cd) (F : Fr g Lf s.heap m) (N : News g Lf s.heap (LC Lf o1 o2 o3 o4 o5 o6 o7 o8 TT)) (nd : ND (LC Lf o1 o2 o3 o4 o5 o6 o7 o8 TT))
    (mj : m (Str.ofString "jobs") = some (.ref jA)) (mn : m (Str.ofString "needs") = some (.ref nA)) {v3 : Option Value} (d3 : o3.data = .cell v3) (d5 : o5.data = .cell (some (.ref bA))) (d6 : o6.data = .cell (some (.ref eA))) (ij : (jA, rngObj 0 n 1 t1 t2 t3) ∈ TT) (ib : (bA, listOf (vals bs).toArray e1) ∈ TT) (ie : (eA, listOf (vals es).toArray e5) ∈ TT)
    (iN : (nA, listOf (refsN NL).toArray e6) ∈ TT) (iG : ∀ q ∈ gobjs NL, q ∈ TT) (hNL : NL.length = n) (hn : n ≤ 12) (hlow : ∀ (j : Nat) y, NL[j]? = some y → ∀ q ∈ y.ps, 0 ≤ q.1 ∧ q.1 < j) (hps : ∀ q ∈ NL, q.ps.length ≤ 8) (hbl : bs.length = n) (hes : es.map (·.1) = (jobsI n).map (fun j => gI (bs.map (·.1)) j + gI hsI j))
    (hg : Good n (needsF NL) hsI W (bs.map (·.1)))
    (h : ∀ h' tk o3' v3', Fr g Lf h' m → News g Lf h' (LC Lf o1 o2 o3' o4 o5 o6 o7 o8 TT) → o3'.data = .cell v3' → Q .next { s with heap := h', toks := tk }) :
    wpAny (model PR w) A (exec (lT 2) (lEnv Lf fa cd)) Q (fun _ _ => False) s := by
  show wpAny _ _ (exec (.For _ _ _ _ _) _) _ _ _
  have X := lx.G.X
  have B := lx.G.B
  have TP := lx.G.T
  have hh := lx.hh
  have em := fix2 mj mn
  rw [em] at F
  have hel : es.length = n := by have := congrArg List.length hes; unfold jobsI at this; simpa using this
  have mT : ∀ o3 q, q ∈ TT → q ∈ LC Lf o1 o2 o3 o4 o5 o6 o7 o8 TT := fun o3 q hq => .tail _ (.tail _ (.tail _ (.tail _ (.tail _ (.tail _ (.tail _ (.tail _ hq)))))))
  refine for_rule ?_
  refine abs_post fun Q1 hQ1 => ?_
  (repeat' ((fail_if_success (with_reducible first | (refine at1 ?_ ?_; constructor) | (refine at3 ?_ ?_; constructor) | show @ite Prop _ _ _ _ | (refine at6 ?_ ?_; constructor) )); (first | ((with_reducible first | refine' l_numbers ?N ?m ?d ?_ | refine' l_hours ?N ?m ?d ?_ | refine' l_job ?N ?m ?d ?_ | refine' l_k ?N ?m ?d ?_ | refine' l_begun ?N ?m ?d ?_ | refine' l_ends ?N ?m ?d ?_ | refine' l_times ?N ?m ?d ?_ | refine' l_most ?N ?m ?d ?_ ); (case N => assumption); (case m => first | assumption | (repeat (first | exact List.Mem.head _ | refine List.Mem.tail _ ?_))); (case d => assumption)) | ((with_reducible show wpAny _ _ (eval (Expr.Name _ _) (lEnv _ _ _)) _ _ _); refine' l_local ?F ?v ?_; (case F => assumption); (case v => (repeat (first | exact if_pos rfl | refine Eq.trans (if_neg (by decide)) ?_))))  | (k_unfold; (try dsimp only)) | (k_end; wrow_close) | walk1 | (dsimp only; walk1) | (leave1; walk_say "STEP leave1"; try dsimp only) | fail "no step")))
  refine hQ1 _ _ ?_
  refine iter_jobs (n := n) [] (fun i m' nx => JT2 Lf o1 o2 o4 o5 o6 o7 o8 TT nx) hh (N _ (mT _ _ ij)).1 (by omega) (fun _ _ => rfl) F N ⟨o3, v3, d3⟩ ?_ ?_
  · rintro i tv mu nx h2 tk2 I io Qt hQt hi ⟨o3', v3', d3'⟩ hnI F2 N2
    clear F N
    have nd2 : ND ((I, io) :: LC Lf o1 o2 o3' o4 o5 o6 o7 o8 TT) := ND.cons (nd.same rfl) hnI
    refine wpAny_assign_Name (storeX_C F2 N2 (c := Lf + 3) rfl (updF_nd (pre := [_, _, _]) nd2) d3' ?_)
    intro h3 o3'' F3 N3 d3''
    clear F2 N2
    dsimp only [List.cons_append, List.nil_append] at N3
    have hy : NL[i]? = some (NL[i]'(by omega)) := List.getElem?_eq_getElem (by omega)
    generalize NL[i]'(by omega) = y at hy
    have hyl := hps y (List.mem_of_getElem? hy)
    (repeat' ((fail_if_success (with_reducible first | (refine at1 ?_ ?_; constructor) | (refine at3 ?_ ?_; constructor) | show @ite Prop _ _ _ _ | (refine at6 ?_ ?_; constructor) )); (first | ((with_reducible first | refine' l_numbers ?N ?m ?d ?_ | refine' l_hours ?N ?m ?d ?_ | refine' l_job ?N ?m ?d ?_ | refine' l_k ?N ?m ?d ?_ | refine' l_begun ?N ?m ?d ?_ | refine' l_ends ?N ?m ?d ?_ | refine' l_times ?N ?m ?d ?_ | refine' l_most ?N ?m ?d ?_ ); (case N => assumption); (case m => first | assumption | (repeat (first | exact List.Mem.head _ | refine List.Mem.tail _ ?_))); (case d => assumption)) | ((with_reducible show wpAny _ _ (eval (Expr.Name _ _) (lEnv _ _ _)) _ _ _); refine' l_local ?F ?v ?_; (case F => assumption); (case v => (repeat (first | exact if_pos rfl | refine Eq.trans (if_neg (by decide)) ?_))))  | (k_unfold; (try dsimp only)) | (k_end; wrow_close) | walk1 | (dsimp only; walk1) | (leave1; walk_say "STEP leave1"; try dsimp only) | fail "no step")))
    have ix := Ix.of hi (by omega)
    refine sub_V N3 (.tail _ (mT _ _ ib)) hbl ix (fun ta => ?_)
    (repeat' ((fail_if_success (with_reducible first | (refine at1 ?_ ?_; constructor) | (refine at3 ?_ ?_; constructor) | show @ite Prop _ _ _ _ | (refine at6 ?_ ?_; constructor) )); (first | ((with_reducible first | refine' l_numbers ?N ?m ?d ?_ | refine' l_hours ?N ?m ?d ?_ | refine' l_job ?N ?m ?d ?_ | refine' l_k ?N ?m ?d ?_ | refine' l_begun ?N ?m ?d ?_ | refine' l_ends ?N ?m ?d ?_ | refine' l_times ?N ?m ?d ?_ | refine' l_most ?N ?m ?d ?_ ); (case N => assumption); (case m => first | assumption | (repeat (first | exact List.Mem.head _ | refine List.Mem.tail _ ?_))); (case d => assumption)) | ((with_reducible show wpAny _ _ (eval (Expr.Name _ _) (lEnv _ _ _)) _ _ _); refine' l_local ?F ?v ?_; (case F => assumption); (case v => (repeat (first | exact if_pos rfl | refine Eq.trans (if_neg (by decide)) ?_))))  | (k_unfold; (try dsimp only)) | (k_end; wrow_close) | walk1 | (dsimp only; walk1) | (leave1; walk_say "STEP leave1"; try dsimp only) | fail "no step")))
    rename Fr _ _ _ _ => F4
    rename News _ _ _ _ => N4
    refine eval_comp (cl := [(Str.ofString "ends", Lf + 6)]) (fun _ => true) (fun v y => ∃ k t t', v = Value.int k t ∧ y = Value.int (gI (es.map (·.1)) k) t') rfl (by decide) rfl (by decide) rfl ?_
    (repeat' ((fail_if_success (with_reducible first | (refine at1 ?_ ?_; constructor) | (refine at3 ?_ ?_; constructor) | show @ite Prop _ _ _ _ | (refine at6 ?_ ?_; constructor) )); (first | ((with_reducible first | refine' l_numbers ?N ?m ?d ?_ | refine' l_hours ?N ?m ?d ?_ | refine' l_job ?N ?m ?d ?_ | refine' l_k ?N ?m ?d ?_ | refine' l_begun ?N ?m ?d ?_ | refine' l_ends ?N ?m ?d ?_ | refine' l_times ?N ?m ?d ?_ | refine' l_most ?N ?m ?d ?_ ); (case N => assumption); (case m => first | assumption | (repeat (first | exact List.Mem.head _ | refine List.Mem.tail _ ?_))); (case d => assumption)) | ((with_reducible show wpAny _ _ (eval (Expr.Name _ _) (lEnv _ _ _)) _ _ _); refine' l_local ?F ?v ?_; (case F => assumption); (case v => (repeat (first | exact if_pos rfl | refine Eq.trans (if_neg (by decide)) ?_))))  | (k_unfold; (try dsimp only)) | (k_end; wrow_close) | walk1 | (dsimp only; walk1) | (leave1; walk_say "STEP leave1"; try dsimp only) | fail "no step")))
    refine item_litK (News.isList N4 (.tail _ (.tail _ (mT _ _ iN)))) ix.lo ix.fit (by rw [Int.toNat_natCast]; exact refs_get hy) ?_
    refine comp_list (vs := vals y.ps) (n := y.n) hh (.tail _ (.tail _ (mT _ _ (iG _ (mem_gobjs (List.mem_of_getElem? hy)))))) F4 N4 (v_line hyl) ?q ?_
    case q =>
      refine ⟨fun C i v s₃ m₃ E' hP hc => tests_nil ⟨rfl, _, rfl⟩, ?_⟩
      intro C i' v s₃ m₃ E' hP _ hc
      obtain ⟨q, hq, rfl⟩ := vals_get hP
      have hqi := hlow i y hy q (List.mem_of_getElem? hq)
      have hns := hc.ns
      have hvr := hc.var
      have hc6 := hc.led (Lf + 6, o6) (by ((repeat (first | exact List.Mem.head _ | refine List.Mem.tail _ ?_))))
      have hle : s₃.heap.IsList eA (vals es).toArray := ⟨_, hc.led (eA, _) (.tail _ (.tail _ (mT _ _ ie))), rfl, ⟨_, rfl⟩⟩
      dsimp only at hc6
      clear F4 N4 hc
      (repeat' ((fail_if_success (with_reducible first | (refine at1 ?_ ?_; constructor) | (refine at3 ?_ ?_; constructor) | show @ite Prop _ _ _ _ | (refine at6 ?_ ?_; constructor) )); (first | ((with_reducible show wpAny _ _ (eval (Expr.Name _ _) (compEnvC _ _ _ _)) _ _ _); first | (refine' comp_var ?k1 ?k2 ?_ ?k3 ?k4 ?k5; (case k2 => with_reducible assumption); (case k1 => with_reducible assumption); (case k3 => exact rfl); (case k4 => exact rfl); (case k5 => decide)) | (refine' comp_free ?k1 ?k2 ?_ ?k3 ?k4 ?k5 ?k6; (case k3 => exact rfl); (case k1 => with_reducible assumption); (case k2 => with_reducible assumption); (case k4 => exact rfl); (case k5 => exact rfl); (case k6 => decide))) | (k_unfold; (try dsimp only)) | (k_end; wrow_close) | walk1 | (dsimp only; walk1) | (leave1; walk_say "STEP leave1"; try dsimp only) | fail "no step")))
      refine item_V hle hel (Ix.of2 hqi (Nat.le_of_lt hi) ix.sm) (fun t1 => ?_)
      (repeat' ((fail_if_success (with_reducible first | (refine at1 ?_ ?_; constructor) | (refine at3 ?_ ?_; constructor) | show @ite Prop _ _ _ _ | (refine at6 ?_ ?_; constructor) )); (first | ((with_reducible show wpAny _ _ (eval (Expr.Name _ _) (compEnvC _ _ _ _)) _ _ _); first | (refine' comp_var ?k1 ?k2 ?_ ?k3 ?k4 ?k5; (case k2 => with_reducible assumption); (case k1 => with_reducible assumption); (case k3 => exact rfl); (case k4 => exact rfl); (case k5 => decide)) | (refine' comp_free ?k1 ?k2 ?_ ?k3 ?k4 ?k5 ?k6; (case k3 => exact rfl); (case k1 => with_reducible assumption); (case k2 => with_reducible assumption); (case k4 => exact rfl); (case k5 => exact rfl); (case k6 => decide))) | (k_unfold; (try dsimp only)) | (k_end; wrow_close) | walk1 | (dsimp only; walk1) | (leave1; walk_say "STEP leave1"; try dsimp only) | fail "no step")))
    intro D5 h5 tk5 ys5 k5 F5 N5 hD5 hpr
    rw [filter_all] at hpr
    obtain ⟨l', e1', e2'⟩ := paired_ints (f := fun k => gI (es.map (·.1)) k) hpr
    have hys : ys5 = (vals l').toArray := by apply Array.toList_inj.mp; rw [e1']
    subst hys
    have hll : l'.length = y.ps.length := by have := congrArg List.length e2'; simpa using this
    clear F4 N4
    (repeat' ((fail_if_success (with_reducible first | (refine at1 ?_ ?_; constructor) | (refine at3 ?_ ?_; constructor) | show @ite Prop _ _ _ _ | (refine at6 ?_ ?_; constructor) )); (first | ((with_reducible first | refine' l_numbers ?N ?m ?d ?_ | refine' l_hours ?N ?m ?d ?_ | refine' l_job ?N ?m ?d ?_ | refine' l_k ?N ?m ?d ?_ | refine' l_begun ?N ?m ?d ?_ | refine' l_ends ?N ?m ?d ?_ | refine' l_times ?N ?m ?d ?_ | refine' l_most ?N ?m ?d ?_ ); (case N => assumption); (case m => first | assumption | (repeat (first | exact List.Mem.head _ | refine List.Mem.tail _ ?_))); (case d => assumption)) | ((with_reducible show wpAny _ _ (eval (Expr.Name _ _) (lEnv _ _ _)) _ _ _); refine' l_local ?F ?v ?_; (case F => assumption); (case v => (repeat (first | exact if_pos rfl | refine Eq.trans (if_neg (by decide)) ?_))))  | (k_unfold; (try dsimp only)) | (k_end; wrow_close) | walk1 | (dsimp only; walk1) | (leave1; walk_say "STEP leave1"; try dsimp only) | fail "no step")))
    refine kmk_add_lit (zs := vals ((0, _) :: l')) F5 N5 (News.isList N5 (.tail _ (.head _))) (News.isList N5 (.head _)) rfl ?_ (by show 1 + (vals l').length ≤ _; rw [vals_len, sizeLine_eq]; omega)
    intro D6 h6 F6 N6 _
    clear F5 N5
    (repeat' ((fail_if_success (with_reducible first | (refine at1 ?_ ?_; constructor) | (refine at3 ?_ ?_; constructor) | show @ite Prop _ _ _ _ | (refine at6 ?_ ?_; constructor) )); (first | ((with_reducible first | refine' l_numbers ?N ?m ?d ?_ | refine' l_hours ?N ?m ?d ?_ | refine' l_job ?N ?m ?d ?_ | refine' l_k ?N ?m ?d ?_ | refine' l_begun ?N ?m ?d ?_ | refine' l_ends ?N ?m ?d ?_ | refine' l_times ?N ?m ?d ?_ | refine' l_most ?N ?m ?d ?_ ); (case N => assumption); (case m => first | assumption | (repeat (first | exact List.Mem.head _ | refine List.Mem.tail _ ?_))); (case d => assumption)) | ((with_reducible show wpAny _ _ (eval (Expr.Name _ _) (lEnv _ _ _)) _ _ _); refine' l_local ?F ?v ?_; (case F => assumption); (case v => (repeat (first | exact if_pos rfl | refine Eq.trans (if_neg (by decide)) ?_))))  | (k_unfold; (try dsimp only)) | (k_end; wrow_close) | walk1 | (dsimp only; walk1) | (leave1; walk_say "STEP leave1"; try dsimp only) | fail "no step")))
    refine kso_max F6 N6 (News.isList N6 (.head _)) (ints_vals _) (by simp) hh ?_
    intro h7 M tM tk7 F7 N7 hM hmax
    clear F6 N6
    (repeat' ((fail_if_success (with_reducible first | (refine at1 ?_ ?_; constructor) | (refine at3 ?_ ?_; constructor) | show @ite Prop _ _ _ _ | (refine at6 ?_ ?_; constructor) )); (first | ((with_reducible first | refine' l_numbers ?N ?m ?d ?_ | refine' l_hours ?N ?m ?d ?_ | refine' l_job ?N ?m ?d ?_ | refine' l_k ?N ?m ?d ?_ | refine' l_begun ?N ?m ?d ?_ | refine' l_ends ?N ?m ?d ?_ | refine' l_times ?N ?m ?d ?_ | refine' l_most ?N ?m ?d ?_ ); (case N => assumption); (case m => first | assumption | (repeat (first | exact List.Mem.head _ | refine List.Mem.tail _ ?_))); (case d => assumption)) | ((with_reducible show wpAny _ _ (eval (Expr.Name _ _) (lEnv _ _ _)) _ _ _); refine' l_local ?F ?v ?_; (case F => assumption); (case v => (repeat (first | exact if_pos rfl | refine Eq.trans (if_neg (by decide)) ?_))))  | (k_unfold; (try dsimp only)) | (k_end; wrow_close) | walk1 | (dsimp only; walk1) | (leave1; walk_say "STEP leave1"; try dsimp only) | fail "no step")))
    have hin : (0 : Int) ≤ i ∧ (i : Int) < n := by omega
    have hMb : M ≤ gI (bs.map (·.1)) i := by
      rw [List.map_cons, e2'] at hM
      rcases List.mem_cons.mp hM with e | e
      · rw [e]; exact hg.nn i hin.1 hin.2
      · obtain ⟨q, hq, e⟩ := List.mem_map.mp e
        have hqi := hlow i y hy q hq
        have hqn : q.1 ∈ needsF NL i := by
          unfold needsF psAt
          rw [Int.toNat_natCast, hy]
          exact List.mem_map_of_mem hq
        have := hg.p1 i hin.1 hin.2 q.1 hqn
        rw [← e, hes, gI_jobs hqi.1 (by omega)]
        exact this
    rw [if_neg (by
      rw [decide_eq_true_eq]
      exact Int.not_lt.mpr hMb)]
    (repeat' ((fail_if_success (with_reducible first | (refine at1 ?_ ?_; constructor) | (refine at3 ?_ ?_; constructor) | show @ite Prop _ _ _ _ | (refine at6 ?_ ?_; constructor) )); (first | ((with_reducible first | refine' l_numbers ?N ?m ?d ?_ | refine' l_hours ?N ?m ?d ?_ | refine' l_job ?N ?m ?d ?_ | refine' l_k ?N ?m ?d ?_ | refine' l_begun ?N ?m ?d ?_ | refine' l_ends ?N ?m ?d ?_ | refine' l_times ?N ?m ?d ?_ | refine' l_most ?N ?m ?d ?_ ); (case N => assumption); (case m => first | assumption | (repeat (first | exact List.Mem.head _ | refine List.Mem.tail _ ?_))); (case d => assumption)) | ((with_reducible show wpAny _ _ (eval (Expr.Name _ _) (lEnv _ _ _)) _ _ _); refine' l_local ?F ?v ?_; (case F => assumption); (case v => (repeat (first | exact if_pos rfl | refine Eq.trans (if_neg (by decide)) ?_))))  | (k_unfold; (try dsimp only)) | (k_end; wrow_close) | walk1 | (dsimp only; walk1) | (leave1; walk_say "STEP leave1"; try dsimp only) | fail "no step")))
    refine hQt _ _ (TurnP.next (nx := LC Lf o1 o2 o3'' o4 o5 o6 o7 o8 TT) F7 N7 (fun q hq => ?_) (off_same hnI rfl) ⟨same_of_mm, o3'', _, d3''⟩)
    exact .tail _ (.tail _ (.tail _ hq))
  · rintro mu nx h2 tk2 ⟨o3', v3', d3'⟩ F2 N2
    exact h _ _ o3' v3' (by rw [em]; exact F2) N2 d3'
end
/-! part D5 -/
set_option maxHeartbeats 1000000
set_option maxHeartbeats 1000000
section
variable {w : World} {A : Around} {g : Heap} {Lf fa : Addr} {cd : Value} {m : Str → Option Value} {s : Shared} {Q : Flow → Shared → Prop} {o1 o2 o3 o4 o5 o6 o7 o8 : Obj} {TT nx : List (Addr × Obj)} {n : Nat}
  {A₀ : Around} {base : Heap} {p : Program} {loose : List Str} {mean : ExcName → Option Value} {mg mb : Str → Option Value} {jA bA eA : Addr} {bs es : List (Int × Tok)} {e1 e5 : Nat} {t1 t2 t3 : Tok}
theorem lT3 (lx : Lx w p loose mean mg mb A₀ base A g Lf fa cd) (F : Fr g Lf s.heap m) (N : News g Lf s.heap (LC Lf o1 o2 o3 o4 o5 o6 o7 o8 TT)) (nd : ND (LC Lf o1 o2 o3 o4 o5 o6 o7 o8 TT))
    (d5 : o5.data = .cell (some (.ref bA))) (d6 : o6.data = .cell (some (.ref eA))) {v7 : Option Value} (d7 : o7.data = .cell v7) (ib : (bA, listOf (vals bs).toArray e1) ∈ TT) (ie : (eA, listOf (vals es).toArray e5) ∈ TT) (hb : bs.length = n) (he : es.length = n) (hn : n ≤ 12)
    (h : ∀ h' tk tA ts et o7', Fr g Lf h' m → News g Lf h' ((tA, listOf (vals ts).toArray et) :: LC Lf o1 o2 o3 o4 o5 o6 o7' o8 TT) → (∀ q ∈ LC Lf o1 o2 o3 o4 o5 o6 o7 o8 TT, q.1 ≠ tA) → o7'.data = .cell (some (.ref tA)) → (ts.map (·.1)).Perm (0 :: (bs.map (·.1) ++ es.map (·.1))) → (ts.map (·.1)).Pairwise (· ≤ ·) → Q .next { s with heap := h', toks := tk }) :
    wpAny (model PR w) A (exec (lT 3) (lEnv Lf fa cd)) Q (fun _ _ => False) s := by
  show wpAny _ _ (exec (.Assign _ _ _) _) _ _ _
  have X := lx.G.X
  have B := lx.G.B
  have TP := lx.G.T
  have hh := lx.hh
  have mT : ∀ q ∈ TT, q ∈ LC Lf o1 o2 o3 o4 o5 o6 o7 o8 TT := fun q hq => .tail _ (.tail _ (.tail _ (.tail _ (.tail _ (.tail _ (.tail _ (.tail _ hq)))))))
  refine abs_post fun Q1 hQ1 => ?_
  (repeat' ((fail_if_success (with_reducible first | (refine at1 ?_ ?_; constructor) | (refine at3 ?_ ?_; constructor) | show @ite Prop _ _ _ _ | (refine at6 ?_ ?_; constructor) )); (first | ((with_reducible first | refine' l_numbers ?N ?m ?d ?_ | refine' l_hours ?N ?m ?d ?_ | refine' l_job ?N ?m ?d ?_ | refine' l_k ?N ?m ?d ?_ | refine' l_begun ?N ?m ?d ?_ | refine' l_ends ?N ?m ?d ?_ | refine' l_times ?N ?m ?d ?_ | refine' l_most ?N ?m ?d ?_ ); (case N => assumption); (case m => first | assumption | (repeat (first | exact List.Mem.head _ | refine List.Mem.tail _ ?_))); (case d => assumption)) | ((with_reducible show wpAny _ _ (eval (Expr.Name _ _) (lEnv _ _ _)) _ _ _); refine' l_local ?F ?v ?_; (case F => assumption); (case v => (repeat (first | exact if_pos rfl | refine Eq.trans (if_neg (by decide)) ?_))))  | (k_unfold; (try dsimp only)) | (k_end; wrow_close) | walk1 | (dsimp only; walk1) | (leave1; walk_say "STEP leave1"; try dsimp only) | fail "no step")))
  rename Fr _ _ _ _ => F1
  rename News _ _ _ _ => N1
  refine kmk_add_lit (zs := vals ((0, _) :: bs)) F1 N1 (News.isList N1 (.head _)) (News.isList N1 (.tail _ (mT _ ib))) rfl ?_ (by show 1 + (vals bs).length ≤ _; rw [vals_len, sizeLine_eq]; omega)
  intro D2 h2 F2 N2a _
  clear F1 N1
  obtain ⟨t0, a0, N2⟩ : ∃ t a, News g Lf h2 ((D2, listOf (vals ((0, t) :: bs)).toArray 0) :: a :: LC Lf o1 o2 o3 o4 o5 o6 o7 o8 TT) := ⟨_, _, N2a⟩
  clear N2a
  (repeat' ((fail_if_success (with_reducible first | (refine at1 ?_ ?_; constructor) | (refine at3 ?_ ?_; constructor) | show @ite Prop _ _ _ _ | (refine at6 ?_ ?_; constructor) )); (first | ((with_reducible first | refine' l_numbers ?N ?m ?d ?_ | refine' l_hours ?N ?m ?d ?_ | refine' l_job ?N ?m ?d ?_ | refine' l_k ?N ?m ?d ?_ | refine' l_begun ?N ?m ?d ?_ | refine' l_ends ?N ?m ?d ?_ | refine' l_times ?N ?m ?d ?_ | refine' l_most ?N ?m ?d ?_ ); (case N => assumption); (case m => first | assumption | (repeat (first | exact List.Mem.head _ | refine List.Mem.tail _ ?_))); (case d => assumption)) | ((with_reducible show wpAny _ _ (eval (Expr.Name _ _) (lEnv _ _ _)) _ _ _); refine' l_local ?F ?v ?_; (case F => assumption); (case v => (repeat (first | exact if_pos rfl | refine Eq.trans (if_neg (by decide)) ?_))))  | (k_unfold; (try dsimp only)) | (k_end; wrow_close) | walk1 | (dsimp only; walk1) | (leave1; walk_say "STEP leave1"; try dsimp only) | fail "no step")))
  refine kmk_add_lit (its := (vals ((0, t0) :: bs)).toArray) (its2 := (vals es).toArray) (zs := vals ((0, t0) :: (bs ++ es))) F2 N2 (News.isList N2 (.head _)) (News.isList N2 (.tail _ (.tail _ (mT _ ie)))) (by simp) ?_ (by show (vals (_ :: bs)).length + (vals es).length ≤ _; rw [vals_len, vals_len, sizeLine_eq, List.length_cons]; omega)
  intro D3 h3 F3 N3 _
  clear F2 N2
  (repeat' ((fail_if_success (with_reducible first | (refine at1 ?_ ?_; constructor) | (refine at3 ?_ ?_; constructor) | show @ite Prop _ _ _ _ | (refine at6 ?_ ?_; constructor) )); (first | ((with_reducible first | refine' l_numbers ?N ?m ?d ?_ | refine' l_hours ?N ?m ?d ?_ | refine' l_job ?N ?m ?d ?_ | refine' l_k ?N ?m ?d ?_ | refine' l_begun ?N ?m ?d ?_ | refine' l_ends ?N ?m ?d ?_ | refine' l_times ?N ?m ?d ?_ | refine' l_most ?N ?m ?d ?_ ); (case N => assumption); (case m => first | assumption | (repeat (first | exact List.Mem.head _ | refine List.Mem.tail _ ?_))); (case d => assumption)) | ((with_reducible show wpAny _ _ (eval (Expr.Name _ _) (lEnv _ _ _)) _ _ _); refine' l_local ?F ?v ?_; (case F => assumption); (case v => (repeat (first | exact if_pos rfl | refine Eq.trans (if_neg (by decide)) ?_))))  | (k_unfold; (try dsimp only)) | (k_end; wrow_close) | walk1 | (dsimp only; walk1) | (leave1; walk_say "STEP leave1"; try dsimp only) | fail "no step")))
  refine kso_sorted F3 N3 (News.isList N3 (.head _)) (ints_vals _) (by rw [List.length_map, List.length_cons, List.length_append]; omega) ?_
  intro D4 vs' ns' c4 h4 F4 N4 l4 hI _ hp hs _
  obtain ⟨ts, rfl, rfl⟩ := ints_list hI
  clear F3 N3
  (repeat' ((fail_if_success (with_reducible first | (refine at1 ?_ ?_; constructor) | (refine at3 ?_ ?_; constructor) | show @ite Prop _ _ _ _ | (refine at6 ?_ ?_; constructor) )); (first | ((with_reducible first | refine' l_numbers ?N ?m ?d ?_ | refine' l_hours ?N ?m ?d ?_ | refine' l_job ?N ?m ?d ?_ | refine' l_k ?N ?m ?d ?_ | refine' l_begun ?N ?m ?d ?_ | refine' l_ends ?N ?m ?d ?_ | refine' l_times ?N ?m ?d ?_ | refine' l_most ?N ?m ?d ?_ ); (case N => assumption); (case m => first | assumption | (repeat (first | exact List.Mem.head _ | refine List.Mem.tail _ ?_))); (case d => assumption)) | ((with_reducible show wpAny _ _ (eval (Expr.Name _ _) (lEnv _ _ _)) _ _ _); refine' l_local ?F ?v ?_; (case F => assumption); (case v => (repeat (first | exact if_pos rfl | refine Eq.trans (if_neg (by decide)) ?_))))  | (k_unfold; (try dsimp only)) | (k_end; wrow_close) | walk1 | (dsimp only; walk1) | (leave1; walk_say "STEP leave1"; try dsimp only) | fail "no step")))
  have off4 : ∀ q ∈ LC Lf o1 o2 o3 o4 o5 o6 o7 o8 TT, q.1 ≠ D4 := fun q hq => Nat.ne_of_lt (l4 q (.tail _ (.tail _ (.tail _ hq))))
  refine storeX_C F4 (News.sub (n2 := (D4, listOf (vals ts).toArray c4) :: LC Lf o1 o2 o3 o4 o5 o6 o7 o8 TT) N4 fun q hq => ?_) (c := Lf + 7) rfl (updF_nd (pre := [_, _, _, _, _, _, _]) (ND.cons nd off4)) d7 ?_
  · rcases List.mem_cons.mp hq with rfl | hq
    · exact .head _
    · exact .tail _ (.tail _ (.tail _ (.tail _ hq)))
  intro h5 o7' F5 N5 d7'
  refine hQ1 _ _ ?_
  refine h _ _ D4 ts c4 o7' F5 N5 off4 d7' ?_ hs
  simpa using hp
theorem lT4 (lx : Lx w p loose mean mg mb A₀ base A g Lf fa cd) (F : Fr g Lf s.heap m) (N : News g Lf s.heap nx)
    (h : ∀ h' tk t, Fr g Lf h' (putm (Str.ofString "idle") (.int 0 t) m) → News g Lf h' nx → Q .next { s with heap := h', toks := tk }) :
    wpAny (model PR w) A (exec (lT 4) (lEnv Lf fa cd)) Q (fun _ _ => False) s := by
  show wpAny _ _ (exec (.Assign _ _ _) _) _ _ _
  have X := lx.G.X
  have B := lx.G.B
  have TP := lx.G.T
  have hh := lx.hh
  refine abs_post fun Q1 hQ1 => ?_
  (repeat' ((fail_if_success (with_reducible first | (refine at1 ?_ ?_; constructor) | (refine at3 ?_ ?_; constructor) | show @ite Prop _ _ _ _ | (refine at6 ?_ ?_; constructor) )); (first | ((with_reducible first | refine' l_numbers ?N ?m ?d ?_ | refine' l_hours ?N ?m ?d ?_ | refine' l_job ?N ?m ?d ?_ | refine' l_k ?N ?m ?d ?_ | refine' l_begun ?N ?m ?d ?_ | refine' l_ends ?N ?m ?d ?_ | refine' l_times ?N ?m ?d ?_ | refine' l_most ?N ?m ?d ?_ ); (case N => assumption); (case m => first | assumption | (repeat (first | exact List.Mem.head _ | refine List.Mem.tail _ ?_))); (case d => assumption)) | ((with_reducible show wpAny _ _ (eval (Expr.Name _ _) (lEnv _ _ _)) _ _ _); refine' l_local ?F ?v ?_; (case F => assumption); (case v => (repeat (first | exact if_pos rfl | refine Eq.trans (if_neg (by decide)) ?_))))  | (k_unfold; (try dsimp only)) | (k_end; wrow_close) | walk1 | (dsimp only; walk1) | (leave1; walk_say "STEP leave1"; try dsimp only) | fail "no step")))
  rename Fr _ _ _ _ => F2
  rename News _ _ _ _ => N2
  refine hQ1 _ _ ?_
  exact h _ _ _ F2 N2
theorem lT5 (lx : Lx w p loose mean mg mb A₀ base A g Lf fa cd) (F : Fr g Lf s.heap m) (N : News g Lf s.heap nx) (mj : m (Str.ofString "jobs") = some (.ref jA)) (ij : (jA, rngObj 0 n 1 t1 t2 t3) ∈ nx) (hn : n ≤ 12)
    (h : ∀ h' tk D ds k, Fr g Lf h' (putm (Str.ofString "held") (.ref D) m) → News g Lf h' ((D, listOf (vals ds).toArray k) :: nx) → (∀ q ∈ nx, q.1 ≠ D) → ds.map (·.1) = (jobsI n).map (fun _ => 0) → Q .next { s with heap := h', toks := tk }) :
    wpAny (model PR w) A (exec (lT 5) (lEnv Lf fa cd)) Q (fun _ _ => False) s := by
  show wpAny _ _ (exec (.Assign _ _ _) _) _ _ _
  have X := lx.G.X
  have B := lx.G.B
  have TP := lx.G.T
  have hh := lx.hh
  have em := fix_name mj
  rw [em] at F
  refine abs_post fun Q1 hQ1 => ?_
  refine asg_comp (cl := []) (fun _ => true) (fun v y => ∃ k t t', v = Value.int k t ∧ y = Value.int ((fun _ => 0) k) t') rfl rfl (by decide) rfl (by decide) rfl rfl rfl ?_
  (repeat' ((fail_if_success (with_reducible first | (refine at1 ?_ ?_; constructor) | (refine at3 ?_ ?_; constructor) | show @ite Prop _ _ _ _ | (refine at6 ?_ ?_; constructor) )); (first | ((with_reducible first | refine' l_numbers ?N ?m ?d ?_ | refine' l_hours ?N ?m ?d ?_ | refine' l_job ?N ?m ?d ?_ | refine' l_k ?N ?m ?d ?_ | refine' l_begun ?N ?m ?d ?_ | refine' l_ends ?N ?m ?d ?_ | refine' l_times ?N ?m ?d ?_ | refine' l_most ?N ?m ?d ?_ ); (case N => assumption); (case m => first | assumption | (repeat (first | exact List.Mem.head _ | refine List.Mem.tail _ ?_))); (case d => assumption)) | ((with_reducible show wpAny _ _ (eval (Expr.Name _ _) (lEnv _ _ _)) _ _ _); refine' l_local ?F ?v ?_; (case F => assumption); (case v => (repeat (first | exact if_pos rfl | refine Eq.trans (if_neg (by decide)) ?_))))  | (k_unfold; (try dsimp only)) | (k_end; wrow_close) | walk1 | (dsimp only; walk1) | (leave1; walk_say "STEP leave1"; try dsimp only) | fail "no step")))
  refine compA_jobs (n := n) hh (N _ ij).1 (by omega) F N ?q ?_
  case q =>
    refine ⟨fun C i v s₃ m₃ E' hP hc => tests_nil ⟨rfl, _, rfl⟩, ?_⟩
    intro C i v s₃ m₃ E' hP _ hc
    obtain ⟨hi, t, rfl⟩ := hP
    clear F N hc
    (repeat' ((fail_if_success (with_reducible first | (refine at1 ?_ ?_; constructor) | (refine at3 ?_ ?_; constructor) | show @ite Prop _ _ _ _ | (refine at6 ?_ ?_; constructor) )); (first | ((with_reducible show wpAny _ _ (eval (Expr.Name _ _) (compEnvC _ _ _ _)) _ _ _); first | (refine' comp_var ?k1 ?k2 ?_ ?k3 ?k4 ?k5; (case k2 => with_reducible assumption); (case k1 => with_reducible assumption); (case k3 => exact rfl); (case k4 => exact rfl); (case k5 => decide)) | (refine' comp_free ?k1 ?k2 ?_ ?k3 ?k4 ?k5 ?k6; (case k3 => exact rfl); (case k1 => with_reducible assumption); (case k2 => with_reducible assumption); (case k4 => exact rfl); (case k5 => exact rfl); (case k6 => decide))) | (k_unfold; (try dsimp only)) | (k_end; wrow_close) | walk1 | (dsimp only; walk1) | (leave1; walk_say "STEP leave1"; try dsimp only) | fail "no step")))
  intro D h1 tk1 ys1 k1 vs F1 N1 hDn hvl hvv hpr
  rw [filter_all] at hpr
  obtain ⟨l', e1', e2'⟩ := paired_rng (f := fun _ => 0) hvl hvv hpr
  have hys : ys1 = (vals l').toArray := by apply Array.toList_inj.mp; rw [e1']
  subst hys
  clear F N
  refine hQ1 _ _ ?_
  exact h _ _ D l' k1 (by rw [← em] at F1; exact F1) N1 hDn e2'
theorem lT7 (lx : Lx w p loose mean mg mb A₀ base A g Lf fa cd) (F : Fr g Lf s.heap m) (N : News g Lf s.heap (LC Lf o1 o2 o3 o4 o5 o6 o7 o8 TT)) (nd : ND (LC Lf o1 o2 o3 o4 o5 o6 o7 o8 TT)) {v8 : Option Value} (d8 : o8.data = .cell v8)
    (h : ∀ h' tk mA o8', Fr g Lf h' m → News g Lf h' ((mA, listOf (vals []).toArray 0) :: LC Lf o1 o2 o3 o4 o5 o6 o7 o8' TT) → (∀ q ∈ LC Lf o1 o2 o3 o4 o5 o6 o7 o8 TT, q.1 ≠ mA) → o8'.data = .cell (some (.ref mA)) → Q .next { s with heap := h', toks := tk }) :
    wpAny (model PR w) A (exec (lT 7) (lEnv Lf fa cd)) Q (fun _ _ => False) s := by
  show wpAny _ _ (exec (.Assign _ _ _) _) _ _ _
  have X := lx.G.X
  have B := lx.G.B
  have TP := lx.G.T
  have hh := lx.hh
  refine abs_post fun Q1 hQ1 => ?_
  walk1
  walk1
  walk1
  refine newList_K F N (fun mA h2 F2 N2 l2 => ?_)
  clear F N
  have off1 : ∀ q ∈ LC Lf o1 o2 o3 o4 o5 o6 o7 o8 TT, q.1 ≠ mA := fun q hq => Nat.ne_of_lt (l2 q hq)
  (repeat' ((fail_if_success (with_reducible first | (refine at1 ?_ ?_; constructor) | (refine at3 ?_ ?_; constructor) | show @ite Prop _ _ _ _ | (refine at6 ?_ ?_; constructor) )); (first | ((with_reducible first | refine' l_numbers ?N ?m ?d ?_ | refine' l_hours ?N ?m ?d ?_ | refine' l_job ?N ?m ?d ?_ | refine' l_k ?N ?m ?d ?_ | refine' l_begun ?N ?m ?d ?_ | refine' l_ends ?N ?m ?d ?_ | refine' l_times ?N ?m ?d ?_ | refine' l_most ?N ?m ?d ?_ ); (case N => assumption); (case m => first | assumption | (repeat (first | exact List.Mem.head _ | refine List.Mem.tail _ ?_))); (case d => assumption)) | ((with_reducible show wpAny _ _ (eval (Expr.Name _ _) (lEnv _ _ _)) _ _ _); refine' l_local ?F ?v ?_; (case F => assumption); (case v => (repeat (first | exact if_pos rfl | refine Eq.trans (if_neg (by decide)) ?_))))  | (k_unfold; (try dsimp only)) | (k_end; wrow_close) | walk1 | (dsimp only; walk1) | (leave1; walk_say "STEP leave1"; try dsimp only) | fail "no step")))
  refine storeX_C F2 N2 (c := Lf + 8) rfl (updF_nd (pre := [_, _, _, _, _, _, _, _]) (ND.cons nd off1)) d8 ?_
  intro h5 o8' F5 N5 d8'
  refine hQ1 _ _ ?_
  exact h _ _ mA o8' F5 N5 off1 d8'
end
/-! part D6 -/
set_option maxHeartbeats 1000000
set_option maxHeartbeats 1000000
def lU (i : Nat) : Stmt := nthS (bodyS (lT 6)) i
theorem filt_rng {q : Int → Bool} {n : Nat} {vs : List Value} (hl : vs.length = n) (hv : ∀ (j : Nat) (v : Value), vs[j]? = some v → ∃ t, v = Value.int (j : Int) t) {zs : List Value} (h : Paired (fun v y => y = v) (vs.filter (tI q)) zs) : ∃ l : List (Int × Tok), zs = vals l ∧ l.map (·.1) = (jobsI n).filter q := by
  obtain ⟨l0, e0, e1⟩ := paired_rng (f := fun k => k) (zs := vs) hl hv (by
    have : ∀ l : List Value, (∀ v ∈ l, ∃ k t, v = Value.int k t) → Paired (fun v y => ∃ k t t', v = Value.int k t ∧ y = Value.int k t') l l := fun l => by
      induction l with
      | nil => exact fun _ => .nil
      | cons v l ih =>
        intro hl
        obtain ⟨k, t, e⟩ := hl v (.head _)
        exact .cons ⟨k, t, t, e, e⟩ (ih fun x hx => hl x (.tail _ hx))
    refine this vs fun v hv' => ?_
    obtain ⟨j, hj⟩ := List.mem_iff_getElem?.mp hv'
    obtain ⟨t, e⟩ := hv j v hj
    exact ⟨_, t, e⟩)
  rw [List.map_id'] at e1
  subst e0
  rw [filter_vals] at h
  refine ⟨_, paired_eq h, ?_⟩
  rw [filter_fst, e1]
section
variable {w : World} {A : Around} {g : Heap} {Lf fa : Addr} {cd : Value} {m : Str → Option Value} {s : Shared} {Q : Flow → Shared → Prop} {o1 o2 o3 o4 o5 o6 o7 o8 : Obj} {TT X0 : List (Addr × Obj)} {n : Nat}
  {A₀ : Around} {base : Heap} {p : Program} {loose : List Str} {mean : ExcName → Option Value} {mg mb : Str → Option Value} {jA bA eA tA : Addr} {bs es ts : List (Int × Tok)} {e1 e5 et : Nat} {t1 t2 t3 tk4 : Tok} {k : Int}
theorem lU0 (lx : Lx w p loose mean mg mb A₀ base A g Lf fa cd) (F : Fr g Lf s.heap m) (N : News g Lf s.heap (X0 ++ LC Lf o1 o2 o3 o4 o5 o6 o7 o8 TT))
    (mj : m (Str.ofString "jobs") = some (.ref jA)) (d4 : o4.data = .cell (some (.int k tk4))) (d5 : o5.data = .cell (some (.ref bA))) (d6 : o6.data = .cell (some (.ref eA))) (d7 : o7.data = .cell (some (.ref tA))) (ij : (jA, rngObj 0 n 1 t1 t2 t3) ∈ TT) (ib : (bA, listOf (vals bs).toArray e1) ∈ TT) (ie : (eA, listOf (vals es).toArray e5) ∈ TT) (it : (tA, listOf (vals ts).toArray et) ∈ TT)
    (hn : n ≤ 12) (hbl : bs.length = n) (hel : es.length = n) (hk1 : 1 ≤ k) (hk2 : k < ts.length) (htl : ts.length ≤ 100)
    (h : ∀ h' tk D ws kd, Fr g Lf h' (putm (Str.ofString "at_work") (.ref D) m) → News g Lf h' ((D, listOf (vals ws).toArray kd) :: (X0 ++ LC Lf o1 o2 o3 o4 o5 o6 o7 o8 TT)) → (∀ q ∈ X0 ++ LC Lf o1 o2 o3 o4 o5 o6 o7 o8 TT, q.1 ≠ D) →
      ws.map (·.1) = (jobsI n).filter (fun j => decide (gI (bs.map (·.1)) j ≤ gI (ts.map (·.1)) (k - 1) ∧ gI (ts.map (·.1)) k ≤ gI (es.map (·.1)) j)) → Q .next { s with heap := h', toks := tk }) :
    wpAny (model PR w) A (exec (lU 0) (lEnv Lf fa cd)) Q (fun _ _ => False) s := by
  show wpAny _ _ (exec (.Assign _ _ _) _) _ _ _
  have X := lx.G.X
  have B := lx.G.B
  have TP := lx.G.T
  have hh := lx.hh
  have em := fix_name mj
  rw [em] at F
  have mL : ∀ q ∈ LC Lf o1 o2 o3 o4 o5 o6 o7 o8 TT, q ∈ X0 ++ LC Lf o1 o2 o3 o4 o5 o6 o7 o8 TT := fun q hq => List.mem_append_right _ hq
  have mT : ∀ q ∈ TT, q ∈ X0 ++ LC Lf o1 o2 o3 o4 o5 o6 o7 o8 TT := fun q hq => mL q (.tail _ (.tail _ (.tail _ (.tail _ (.tail _ (.tail _ (.tail _ (.tail _ hq))))))))
  generalize X0 ++ LC Lf o1 o2 o3 o4 o5 o6 o7 o8 TT = nx at N mL mT h
  refine abs_post fun Q1 hQ1 => ?_
  refine asg_comp (cl := [(Str.ofString "times", Lf + 7), (Str.ofString "k", Lf + 4), (Str.ofString "ends", Lf + 6), (Str.ofString "begun", Lf + 5)]) (tI (fun j => decide (gI (bs.map (·.1)) j ≤ gI (ts.map (·.1)) (k - 1) ∧ gI (ts.map (·.1)) k ≤ gI (es.map (·.1)) j))) (fun v y => y = v) rfl rfl (by decide) rfl (by decide) rfl rfl rfl ?_
  (repeat' ((fail_if_success (with_reducible first | (refine at1 ?_ ?_; constructor) | (refine at3 ?_ ?_; constructor) | show @ite Prop _ _ _ _ | (refine at6 ?_ ?_; constructor) )); (first | ((with_reducible first | refine' l_numbers ?N ?m ?d ?_ | refine' l_hours ?N ?m ?d ?_ | refine' l_job ?N ?m ?d ?_ | refine' l_k ?N ?m ?d ?_ | refine' l_begun ?N ?m ?d ?_ | refine' l_ends ?N ?m ?d ?_ | refine' l_times ?N ?m ?d ?_ | refine' l_most ?N ?m ?d ?_ ); (case N => assumption); (case m => first | assumption | (repeat (first | exact List.Mem.head _ | refine List.Mem.tail _ ?_))); (case d => assumption)) | ((with_reducible show wpAny _ _ (eval (Expr.Name _ _) (lEnv _ _ _)) _ _ _); refine' l_local ?F ?v ?_; (case F => assumption); (case v => (repeat (first | exact if_pos rfl | refine Eq.trans (if_neg (by decide)) ?_))))  | (k_unfold; (try dsimp only)) | (k_end; wrow_close) | walk1 | (dsimp only; walk1) | (leave1; walk_say "STEP leave1"; try dsimp only) | fail "no step")))
  refine compA_jobs (n := n) hh (N _ (mT _ ij)).1 (by omega) F N ?q ?_
  case q =>
    refine ⟨?_, ?_⟩
    · intro C i v s₃ m₃ E' hP hc
      obtain ⟨hi, t, rfl⟩ := hP
      have hns := hc.ns
      have hvr := hc.var
      have hc4 := hc.led (Lf + 4, o4) (mL _ (by ((repeat (first | exact List.Mem.head _ | refine List.Mem.tail _ ?_)))))
      have hc5 := hc.led (Lf + 5, o5) (mL _ (by ((repeat (first | exact List.Mem.head _ | refine List.Mem.tail _ ?_)))))
      have hc6 := hc.led (Lf + 6, o6) (mL _ (by ((repeat (first | exact List.Mem.head _ | refine List.Mem.tail _ ?_)))))
      have hc7 := hc.led (Lf + 7, o7) (mL _ (by ((repeat (first | exact List.Mem.head _ | refine List.Mem.tail _ ?_)))))
      have hlb : s₃.heap.IsList bA (vals bs).toArray := ⟨_, hc.led (bA, _) (mT _ ib), rfl, ⟨_, rfl⟩⟩
      have hle : s₃.heap.IsList eA (vals es).toArray := ⟨_, hc.led (eA, _) (mT _ ie), rfl, ⟨_, rfl⟩⟩
      have hlt : s₃.heap.IsList tA (vals ts).toArray := ⟨_, hc.led (tA, _) (mT _ it), rfl, ⟨_, rfl⟩⟩
      dsimp only at hc4 hc5 hc6 hc7
      clear F N hc
      refine tests_one ?_
      (repeat' ((fail_if_success (with_reducible first | (refine at1 ?_ ?_; constructor) | (refine at3 ?_ ?_; constructor) | show @ite Prop _ _ _ _ | (refine at6 ?_ ?_; constructor) )); (first | ((with_reducible show wpAny _ _ (eval (Expr.Name _ _) (compEnvC _ _ _ _)) _ _ _); first | (refine' comp_var ?k1 ?k2 ?_ ?k3 ?k4 ?k5; (case k2 => with_reducible assumption); (case k1 => with_reducible assumption); (case k3 => exact rfl); (case k4 => exact rfl); (case k5 => decide)) | (refine' comp_free ?k1 ?k2 ?_ ?k3 ?k4 ?k5 ?k6; (case k3 => exact rfl); (case k1 => with_reducible assumption); (case k2 => with_reducible assumption); (case k4 => exact rfl); (case k5 => exact rfl); (case k6 => decide))) | (k_unfold; (try dsimp only)) | (k_end; wrow_close) | walk1 | (dsimp only; walk1) | (leave1; walk_say "STEP leave1"; try dsimp only) | fail "no step")))
      have ix := Ix.of hi (by omega)
      have ik : Ix k ts.length := ⟨by omega, hk2, by omega⟩
      have ik1 : Ix (k - 1) ts.length := ⟨by omega, by omega, ik.sm⟩
      refine item_V hlb hbl ix (fun ta => ?_)
      (repeat' ((fail_if_success (with_reducible first | (refine at1 ?_ ?_; constructor) | (refine at3 ?_ ?_; constructor) | show @ite Prop _ _ _ _ | (refine at6 ?_ ?_; constructor) )); (first | ((with_reducible show wpAny _ _ (eval (Expr.Name _ _) (compEnvC _ _ _ _)) _ _ _); first | (refine' comp_var ?k1 ?k2 ?_ ?k3 ?k4 ?k5; (case k2 => with_reducible assumption); (case k1 => with_reducible assumption); (case k3 => exact rfl); (case k4 => exact rfl); (case k5 => decide)) | (refine' comp_free ?k1 ?k2 ?_ ?k3 ?k4 ?k5 ?k6; (case k3 => exact rfl); (case k1 => with_reducible assumption); (case k2 => with_reducible assumption); (case k4 => exact rfl); (case k5 => exact rfl); (case k6 => decide))) | (k_unfold; (try dsimp only)) | (k_end; wrow_close) | walk1 | (dsimp only; walk1) | (leave1; walk_say "STEP leave1"; try dsimp only) | fail "no step")))
      refine item_V hlt rfl ik1 (fun tb => ?_)
      (repeat' ((fail_if_success (with_reducible first | (refine at1 ?_ ?_; constructor) | (refine at3 ?_ ?_; constructor) | show @ite Prop _ _ _ _ | (refine at6 ?_ ?_; constructor) )); (first | ((with_reducible show wpAny _ _ (eval (Expr.Name _ _) (compEnvC _ _ _ _)) _ _ _); first | (refine' comp_var ?k1 ?k2 ?_ ?k3 ?k4 ?k5; (case k2 => with_reducible assumption); (case k1 => with_reducible assumption); (case k3 => exact rfl); (case k4 => exact rfl); (case k5 => decide)) | (refine' comp_free ?k1 ?k2 ?_ ?k3 ?k4 ?k5 ?k6; (case k3 => exact rfl); (case k1 => with_reducible assumption); (case k2 => with_reducible assumption); (case k4 => exact rfl); (case k5 => exact rfl); (case k6 => decide))) | (k_unfold; (try dsimp only)) | (k_end; wrow_close) | walk1 | (dsimp only; walk1) | (leave1; walk_say "STEP leave1"; try dsimp only) | fail "no step")))
      split
      · rename_i h1
        (repeat' ((fail_if_success (with_reducible first | (refine at1 ?_ ?_; constructor) | (refine at3 ?_ ?_; constructor) | show @ite Prop _ _ _ _ | (refine at6 ?_ ?_; constructor) )); (first | ((with_reducible show wpAny _ _ (eval (Expr.Name _ _) (compEnvC _ _ _ _)) _ _ _); first | (refine' comp_var ?k1 ?k2 ?_ ?k3 ?k4 ?k5; (case k2 => with_reducible assumption); (case k1 => with_reducible assumption); (case k3 => exact rfl); (case k4 => exact rfl); (case k5 => decide)) | (refine' comp_free ?k1 ?k2 ?_ ?k3 ?k4 ?k5 ?k6; (case k3 => exact rfl); (case k1 => with_reducible assumption); (case k2 => with_reducible assumption); (case k4 => exact rfl); (case k5 => exact rfl); (case k6 => decide))) | (k_unfold; (try dsimp only)) | (k_end; wrow_close) | walk1 | (dsimp only; walk1) | (leave1; walk_say "STEP leave1"; try dsimp only) | fail "no step")))
        refine item_V hlt rfl ik (fun tc => ?_)
        (repeat' ((fail_if_success (with_reducible first | (refine at1 ?_ ?_; constructor) | (refine at3 ?_ ?_; constructor) | show @ite Prop _ _ _ _ | (refine at6 ?_ ?_; constructor) )); (first | ((with_reducible show wpAny _ _ (eval (Expr.Name _ _) (compEnvC _ _ _ _)) _ _ _); first | (refine' comp_var ?k1 ?k2 ?_ ?k3 ?k4 ?k5; (case k2 => with_reducible assumption); (case k1 => with_reducible assumption); (case k3 => exact rfl); (case k4 => exact rfl); (case k5 => decide)) | (refine' comp_free ?k1 ?k2 ?_ ?k3 ?k4 ?k5 ?k6; (case k3 => exact rfl); (case k1 => with_reducible assumption); (case k2 => with_reducible assumption); (case k4 => exact rfl); (case k5 => exact rfl); (case k6 => decide))) | (k_unfold; (try dsimp only)) | (k_end; wrow_close) | walk1 | (dsimp only; walk1) | (leave1; walk_say "STEP leave1"; try dsimp only) | fail "no step")))
        refine item_V hle hel ix (fun td => ?_)
        (repeat' ((fail_if_success (with_reducible first | (refine at1 ?_ ?_; constructor) | (refine at3 ?_ ?_; constructor) | show @ite Prop _ _ _ _ | (refine at6 ?_ ?_; constructor) )); (first | ((with_reducible show wpAny _ _ (eval (Expr.Name _ _) (compEnvC _ _ _ _)) _ _ _); first | (refine' comp_var ?k1 ?k2 ?_ ?k3 ?k4 ?k5; (case k2 => with_reducible assumption); (case k1 => with_reducible assumption); (case k3 => exact rfl); (case k4 => exact rfl); (case k5 => decide)) | (refine' comp_free ?k1 ?k2 ?_ ?k3 ?k4 ?k5 ?k6; (case k3 => exact rfl); (case k1 => with_reducible assumption); (case k2 => with_reducible assumption); (case k4 => exact rfl); (case k5 => exact rfl); (case k6 => decide))) | (k_unfold; (try dsimp only)) | (k_end; wrow_close) | walk1 | (dsimp only; walk1) | (leave1; walk_say "STEP leave1"; try dsimp only) | fail "no step")))
        split
        · rename_i h2
          (repeat' ((fail_if_success (with_reducible first | (refine at1 ?_ ?_; constructor) | (refine at3 ?_ ?_; constructor) | show @ite Prop _ _ _ _ | (refine at6 ?_ ?_; constructor) )); (first | ((with_reducible show wpAny _ _ (eval (Expr.Name _ _) (compEnvC _ _ _ _)) _ _ _); first | (refine' comp_var ?k1 ?k2 ?_ ?k3 ?k4 ?k5; (case k2 => with_reducible assumption); (case k1 => with_reducible assumption); (case k3 => exact rfl); (case k4 => exact rfl); (case k5 => decide)) | (refine' comp_free ?k1 ?k2 ?_ ?k3 ?k4 ?k5 ?k6; (case k3 => exact rfl); (case k1 => with_reducible assumption); (case k2 => with_reducible assumption); (case k4 => exact rfl); (case k5 => exact rfl); (case k6 => decide))) | (k_unfold; (try dsimp only)) | (k_end; wrow_close) | walk1 | (dsimp only; walk1) | (leave1; walk_say "STEP leave1"; try dsimp only) | fail "no step")))
          exact (decide_eq_true ⟨of_decide_eq_true h1, of_decide_eq_true h2⟩).symm
        · rename_i h2
          (repeat' ((fail_if_success (with_reducible first | (refine at1 ?_ ?_; constructor) | (refine at3 ?_ ?_; constructor) | show @ite Prop _ _ _ _ | (refine at6 ?_ ?_; constructor) )); (first | ((with_reducible show wpAny _ _ (eval (Expr.Name _ _) (compEnvC _ _ _ _)) _ _ _); first | (refine' comp_var ?k1 ?k2 ?_ ?k3 ?k4 ?k5; (case k2 => with_reducible assumption); (case k1 => with_reducible assumption); (case k3 => exact rfl); (case k4 => exact rfl); (case k5 => decide)) | (refine' comp_free ?k1 ?k2 ?_ ?k3 ?k4 ?k5 ?k6; (case k3 => exact rfl); (case k1 => with_reducible assumption); (case k2 => with_reducible assumption); (case k4 => exact rfl); (case k5 => exact rfl); (case k6 => decide))) | (k_unfold; (try dsimp only)) | (k_end; wrow_close) | walk1 | (dsimp only; walk1) | (leave1; walk_say "STEP leave1"; try dsimp only) | fail "no step")))
          exact (decide_eq_false fun h => h2 (decide_eq_true h.2)).symm
      · rename_i h1
        (repeat' ((fail_if_success (with_reducible first | (refine at1 ?_ ?_; constructor) | (refine at3 ?_ ?_; constructor) | show @ite Prop _ _ _ _ | (refine at6 ?_ ?_; constructor) )); (first | ((with_reducible show wpAny _ _ (eval (Expr.Name _ _) (compEnvC _ _ _ _)) _ _ _); first | (refine' comp_var ?k1 ?k2 ?_ ?k3 ?k4 ?k5; (case k2 => with_reducible assumption); (case k1 => with_reducible assumption); (case k3 => exact rfl); (case k4 => exact rfl); (case k5 => decide)) | (refine' comp_free ?k1 ?k2 ?_ ?k3 ?k4 ?k5 ?k6; (case k3 => exact rfl); (case k1 => with_reducible assumption); (case k2 => with_reducible assumption); (case k4 => exact rfl); (case k5 => exact rfl); (case k6 => decide))) | (k_unfold; (try dsimp only)) | (k_end; wrow_close) | walk1 | (dsimp only; walk1) | (leave1; walk_say "STEP leave1"; try dsimp only) | fail "no step")))
        exact (decide_eq_false fun h => h1 (decide_eq_true h.1)).symm
    · intro C i v s₃ m₃ E' hP _ hc
      have hns := hc.ns
      have hvr := hc.var
      clear F N hc
      (repeat' ((fail_if_success (with_reducible first | (refine at1 ?_ ?_; constructor) | (refine at3 ?_ ?_; constructor) | show @ite Prop _ _ _ _ | (refine at6 ?_ ?_; constructor) )); (first | ((with_reducible show wpAny _ _ (eval (Expr.Name _ _) (compEnvC _ _ _ _)) _ _ _); first | (refine' comp_var ?k1 ?k2 ?_ ?k3 ?k4 ?k5; (case k2 => with_reducible assumption); (case k1 => with_reducible assumption); (case k3 => exact rfl); (case k4 => exact rfl); (case k5 => decide)) | (refine' comp_free ?k1 ?k2 ?_ ?k3 ?k4 ?k5 ?k6; (case k3 => exact rfl); (case k1 => with_reducible assumption); (case k2 => with_reducible assumption); (case k4 => exact rfl); (case k5 => exact rfl); (case k6 => decide))) | (k_unfold; (try dsimp only)) | (k_end; wrow_close) | walk1 | (dsimp only; walk1) | (leave1; walk_say "STEP leave1"; try dsimp only) | fail "no step")))
  intro D h1 tk1 ys1 kd vs F1 N1 hDn hvl hvv hpr
  obtain ⟨l', e1', e2'⟩ := filt_rng hvl hvv hpr
  have hys : ys1 = (vals l').toArray := by apply Array.toList_inj.mp; rw [e1']
  subst hys
  clear F N
  refine hQ1 _ _ ?_
  exact h _ _ D l' kd (by rw [← em] at F1; exact F1) N1 hDn e2'
end
/-! part D7 -/
set_option maxHeartbeats 1000000
set_option maxHeartbeats 1000000
theorem nodup_take {l : List Int} (h : l.Nodup) {i : Nat} {x : Int} (hx : l[i]? = some x) : x ∉ l.take i := by
  intro hm
  obtain ⟨hi, e⟩ := List.getElem?_eq_some_iff.mp hx
  obtain ⟨k, hk, e2⟩ := List.getElem_of_mem hm
  rw [List.length_take] at hk
  rw [List.getElem_take] at e2
  have := List.pairwise_iff_getElem.mp h k i (by omega) hi (by omega)
  rw [e, e2] at this
  exact this rfl
section
variable {w : World} {A : Around} {g : Heap} {Lf fa : Addr} {cd : Value} {m : Str → Option Value} {s : Shared} {Q : Flow → Shared → Prop} {o1 o2 o3 o4 o5 o6 o7 o8 : Obj} {TT : List (Addr × Obj)} {n : Nat}
  {A₀ : Around} {base : Heap} {p : Program} {loose : List Str} {mean : ExcName → Option Value} {mg mb : Str → Option Value} {D hA tA I : Addr} {io : Obj} {ws ds ts : List (Int × Tok)} {kd eh et : Nat} {tk4 tw ti : Tok} {k W idl : Int}
theorem lU1 (lx : Lx w p loose mean mg mb A₀ base A g Lf fa cd) (F : Fr g Lf s.heap m) (N : News g Lf s.heap ((D, listOf (vals ws).toArray kd) :: (I, io) :: (hA, listOf (vals ds).toArray eh) :: LC Lf o1 o2 o3 o4 o5 o6 o7 o8 TT)) (nd : ND ((D, listOf (vals ws).toArray kd) :: (I, io) :: (hA, listOf (vals ds).toArray eh) :: LC Lf o1 o2 o3 o4 o5 o6 o7 o8 TT))
    (mD : m (Str.ofString "at_work") = some (.ref D)) (mw : m (Str.ofString "workers") = some (.int W tw)) (mi : m (Str.ofString "idle") = some (.int idl ti)) (mh : m (Str.ofString "held") = some (.ref hA)) {v3 : Option Value} (d3 : o3.data = .cell v3) (d4 : o4.data = .cell (some (.int k tk4))) (d7 : o7.data = .cell (some (.ref tA))) (it : (tA, listOf (vals ts).toArray et) ∈ TT)
    (hn : n ≤ 12) (hdl : ds.length = n) (hws : ∀ q ∈ ws, 0 ≤ q.1 ∧ q.1 < n) (hwn : (ws.map (·.1)).Nodup) (hwl : ws.length ≤ 12) (hk1 : 1 ≤ k) (hk2 : k < ts.length) (htl : ts.length ≤ 100)
    (h : ∀ h' tk m' o3' v3' ds' t', Same ["idle"] m' m → m' (Str.ofString "idle") = some (.int (idl + if (ws.length : Int) < W then gI (ts.map (·.1)) k - gI (ts.map (·.1)) (k - 1) else 0) t') → Fr g Lf h' m' → News g Lf h' ((D, listOf (vals ws).toArray kd) :: (I, io) :: (hA, listOf (vals ds').toArray eh) :: LC Lf o1 o2 o3' o4 o5 o6 o7 o8 TT) → o3'.data = .cell v3' → ds'.length = n →
      (∀ j : Int, 0 ≤ j → j < n → gI (ds'.map (·.1)) j = gI (ds.map (·.1)) j + if (ws.length : Int) < W ∧ j ∈ ws.map (·.1) then gI (ts.map (·.1)) k - gI (ts.map (·.1)) (k - 1) else 0) → Q .next { s with heap := h', toks := tk }) :
    wpAny (model PR w) A (exec (lU 1) (lEnv Lf fa cd)) Q (fun _ _ => False) s := by
  show wpAny _ _ (exec (.If _ _ _ _) _) _ _ _
  have X := lx.G.X
  have B := lx.G.B
  have TP := lx.G.T
  have hh := lx.hh
  have em := fix4 mD mw mi mh
  rw [em] at F
  have mT : ∀ a b c o3 q, q ∈ TT → q ∈ a :: b :: c :: LC Lf o1 o2 o3 o4 o5 o6 o7 o8 TT := fun a b c o3 q hq => .tail _ (.tail _ (.tail _ (.tail _ (.tail _ (.tail _ (.tail _ (.tail _ (.tail _ (.tail _ (.tail _ hq))))))))))
  refine abs_post fun Q1 hQ1 => ?_
  (repeat' ((fail_if_success (with_reducible first | (refine at1 ?_ ?_; constructor) | (refine at3 ?_ ?_; constructor) | show @ite Prop _ _ _ _ | (refine at6 ?_ ?_; constructor) )); (first | ((with_reducible first | refine' l_numbers ?N ?m ?d ?_ | refine' l_hours ?N ?m ?d ?_ | refine' l_job ?N ?m ?d ?_ | refine' l_k ?N ?m ?d ?_ | refine' l_begun ?N ?m ?d ?_ | refine' l_ends ?N ?m ?d ?_ | refine' l_times ?N ?m ?d ?_ | refine' l_most ?N ?m ?d ?_ ); (case N => assumption); (case m => first | assumption | (repeat (first | exact List.Mem.head _ | refine List.Mem.tail _ ?_))); (case d => assumption)) | ((with_reducible show wpAny _ _ (eval (Expr.Name _ _) (lEnv _ _ _)) _ _ _); refine' l_local ?F ?v ?_; (case F => assumption); (case v => (repeat (first | exact if_pos rfl | refine Eq.trans (if_neg (by decide)) ?_))))  | (k_unfold; (try dsimp only)) | (k_end; wrow_close) | walk1 | (dsimp only; walk1) | (leave1; walk_say "STEP leave1"; try dsimp only) | fail "no step")))
  rename Fr _ _ _ _ => F1
  rename News _ _ _ _ => N1
  have ik : Ix k ts.length := ⟨by omega, hk2, by omega⟩
  have ik1 : Ix (k - 1) ts.length := ⟨by omega, by omega, ik.sm⟩
  refine len_V N1 (.head _) rfl (by omega) ?_
  (repeat' ((fail_if_success (with_reducible first | (refine at1 ?_ ?_; constructor) | (refine at3 ?_ ?_; constructor) | show @ite Prop _ _ _ _ | (refine at6 ?_ ?_; constructor) )); (first | ((with_reducible first | refine' l_numbers ?N ?m ?d ?_ | refine' l_hours ?N ?m ?d ?_ | refine' l_job ?N ?m ?d ?_ | refine' l_k ?N ?m ?d ?_ | refine' l_begun ?N ?m ?d ?_ | refine' l_ends ?N ?m ?d ?_ | refine' l_times ?N ?m ?d ?_ | refine' l_most ?N ?m ?d ?_ ); (case N => assumption); (case m => first | assumption | (repeat (first | exact List.Mem.head _ | refine List.Mem.tail _ ?_))); (case d => assumption)) | ((with_reducible show wpAny _ _ (eval (Expr.Name _ _) (lEnv _ _ _)) _ _ _); refine' l_local ?F ?v ?_; (case F => assumption); (case v => (repeat (first | exact if_pos rfl | refine Eq.trans (if_neg (by decide)) ?_))))  | (k_unfold; (try dsimp only)) | (k_end; wrow_close) | walk1 | (dsimp only; walk1) | (leave1; walk_say "STEP leave1"; try dsimp only) | fail "no step")))
  split
  · rename_i hlt
    (repeat' ((fail_if_success (with_reducible first | (refine at1 ?_ ?_; constructor) | (refine at3 ?_ ?_; constructor) | show @ite Prop _ _ _ _ | (refine at6 ?_ ?_; constructor) )); (first | ((with_reducible first | refine' l_numbers ?N ?m ?d ?_ | refine' l_hours ?N ?m ?d ?_ | refine' l_job ?N ?m ?d ?_ | refine' l_k ?N ?m ?d ?_ | refine' l_begun ?N ?m ?d ?_ | refine' l_ends ?N ?m ?d ?_ | refine' l_times ?N ?m ?d ?_ | refine' l_most ?N ?m ?d ?_ ); (case N => assumption); (case m => first | assumption | (repeat (first | exact List.Mem.head _ | refine List.Mem.tail _ ?_))); (case d => assumption)) | ((with_reducible show wpAny _ _ (eval (Expr.Name _ _) (lEnv _ _ _)) _ _ _); refine' l_local ?F ?v ?_; (case F => assumption); (case v => (repeat (first | exact if_pos rfl | refine Eq.trans (if_neg (by decide)) ?_))))  | (k_unfold; (try dsimp only)) | (k_end; wrow_close) | walk1 | (dsimp only; walk1) | (leave1; walk_say "STEP leave1"; try dsimp only) | fail "no step")))
    refine sub_V N1 (mT _ _ _ _ _ it) rfl ik (fun ta => ?_)
    (repeat' ((fail_if_success (with_reducible first | (refine at1 ?_ ?_; constructor) | (refine at3 ?_ ?_; constructor) | show @ite Prop _ _ _ _ | (refine at6 ?_ ?_; constructor) )); (first | ((with_reducible first | refine' l_numbers ?N ?m ?d ?_ | refine' l_hours ?N ?m ?d ?_ | refine' l_job ?N ?m ?d ?_ | refine' l_k ?N ?m ?d ?_ | refine' l_begun ?N ?m ?d ?_ | refine' l_ends ?N ?m ?d ?_ | refine' l_times ?N ?m ?d ?_ | refine' l_most ?N ?m ?d ?_ ); (case N => assumption); (case m => first | assumption | (repeat (first | exact List.Mem.head _ | refine List.Mem.tail _ ?_))); (case d => assumption)) | ((with_reducible show wpAny _ _ (eval (Expr.Name _ _) (lEnv _ _ _)) _ _ _); refine' l_local ?F ?v ?_; (case F => assumption); (case v => (repeat (first | exact if_pos rfl | refine Eq.trans (if_neg (by decide)) ?_))))  | (k_unfold; (try dsimp only)) | (k_end; wrow_close) | walk1 | (dsimp only; walk1) | (leave1; walk_say "STEP leave1"; try dsimp only) | fail "no step")))
    refine sub_V N1 (mT _ _ _ _ _ it) rfl ik1 (fun tb => ?_)
    (repeat' ((fail_if_success (with_reducible first | (refine at1 ?_ ?_; constructor) | (refine at3 ?_ ?_; constructor) | show @ite Prop _ _ _ _ | (refine at6 ?_ ?_; constructor) )); (first | ((with_reducible first | refine' l_numbers ?N ?m ?d ?_ | refine' l_hours ?N ?m ?d ?_ | refine' l_job ?N ?m ?d ?_ | refine' l_k ?N ?m ?d ?_ | refine' l_begun ?N ?m ?d ?_ | refine' l_ends ?N ?m ?d ?_ | refine' l_times ?N ?m ?d ?_ | refine' l_most ?N ?m ?d ?_ ); (case N => assumption); (case m => first | assumption | (repeat (first | exact List.Mem.head _ | refine List.Mem.tail _ ?_))); (case d => assumption)) | ((with_reducible show wpAny _ _ (eval (Expr.Name _ _) (lEnv _ _ _)) _ _ _); refine' l_local ?F ?v ?_; (case F => assumption); (case v => (repeat (first | exact if_pos rfl | refine Eq.trans (if_neg (by decide)) ?_))))  | (k_unfold; (try dsimp only)) | (k_end; wrow_close) | walk1 | (dsimp only; walk1) | (leave1; walk_say "STEP leave1"; try dsimp only) | fail "no step")))
    rename Fr _ _ _ _ => F2
    rename News _ _ _ _ => N2
    have hltW := of_decide_eq_true hlt
    refine for_rule ?_
    (repeat' ((fail_if_success (with_reducible first | (refine at1 ?_ ?_; constructor) | (refine at3 ?_ ?_; constructor) | show @ite Prop _ _ _ _ | (refine at6 ?_ ?_; constructor) )); (first | ((with_reducible first | refine' l_numbers ?N ?m ?d ?_ | refine' l_hours ?N ?m ?d ?_ | refine' l_job ?N ?m ?d ?_ | refine' l_k ?N ?m ?d ?_ | refine' l_begun ?N ?m ?d ?_ | refine' l_ends ?N ?m ?d ?_ | refine' l_times ?N ?m ?d ?_ | refine' l_most ?N ?m ?d ?_ ); (case N => assumption); (case m => first | assumption | (repeat (first | exact List.Mem.head _ | refine List.Mem.tail _ ?_))); (case d => assumption)) | ((with_reducible show wpAny _ _ (eval (Expr.Name _ _) (lEnv _ _ _)) _ _ _); refine' l_local ?F ?v ?_; (case F => assumption); (case v => (repeat (first | exact if_pos rfl | refine Eq.trans (if_neg (by decide)) ?_))))  | (k_unfold; (try dsimp only)) | (k_end; wrow_close) | walk1 | (dsimp only; walk1) | (leave1; walk_say "STEP leave1"; try dsimp only) | fail "no step")))
    have nd2 := nd
    refine iter_list (vs := vals ws) (n := kd) [] (fun i m' nx => JU1 (D, listOf (vals ws).toArray kd) (I, io) hA eh Lf o1 o2 o4 o5 o6 o7 o8 TT n (fun l => ∀ j : Int, 0 ≤ j → j < n → gI l j = gI (ds.map (·.1)) j + if j ∈ (ws.map (·.1)).take i then gI (ts.map (·.1)) k - gI (ts.map (·.1)) (k - 1) else 0) nx) hh (.head _) ?_ (fun _ _ => rfl) F2 N2 ⟨o3, v3, ds, d3, hdl, fun j _ _ => by rw [List.take_zero, if_neg (by simp)]; omega⟩ ?_ ?_
    · rintro i m' nx ⟨o3', v3', ds', _, _, _⟩
      exact .head _
    · rintro i v mu nx h2 tk2 I2 io2 Qt hQt hv ⟨o3', v3', ds', d3', hdl', hds'⟩ hnI hltI F3 N3
      clear F2 N2
      obtain ⟨q, hq, rfl⟩ := vals_get hv
      have hqi := hws q (List.mem_of_getElem? hq)
      have nd3 : ND ((I2, io2) :: (D, listOf (vals ws).toArray kd) :: (I, io) :: (hA, listOf (vals ds').toArray eh) :: LC Lf o1 o2 o3' o4 o5 o6 o7 o8 TT) := ND.cons (nd.same rfl) hnI
      refine wpAny_assign_Name (storeX_C F3 N3 (c := Lf + 3) rfl (updF_nd (pre := [_, _, _, _, _, _]) nd3) d3' ?_)
      intro h3 o3'' F4 N4 d3''
      clear F3 N3
      dsimp only [List.cons_append, List.nil_append] at N4
      (repeat' ((fail_if_success (with_reducible first | (refine at1 ?_ ?_; constructor) | (refine at3 ?_ ?_; constructor) | show @ite Prop _ _ _ _ | (refine at6 ?_ ?_; constructor) )); (first | ((with_reducible first | refine' l_numbers ?N ?m ?d ?_ | refine' l_hours ?N ?m ?d ?_ | refine' l_job ?N ?m ?d ?_ | refine' l_k ?N ?m ?d ?_ | refine' l_begun ?N ?m ?d ?_ | refine' l_ends ?N ?m ?d ?_ | refine' l_times ?N ?m ?d ?_ | refine' l_most ?N ?m ?d ?_ ); (case N => assumption); (case m => first | assumption | (repeat (first | exact List.Mem.head _ | refine List.Mem.tail _ ?_))); (case d => assumption)) | ((with_reducible show wpAny _ _ (eval (Expr.Name _ _) (lEnv _ _ _)) _ _ _); refine' l_local ?F ?v ?_; (case F => assumption); (case v => (repeat (first | exact if_pos rfl | refine Eq.trans (if_neg (by decide)) ?_))))  | (k_unfold; (try dsimp only)) | (k_end; wrow_close) | walk1 | (dsimp only; walk1) | (leave1; walk_say "STEP leave1"; try dsimp only) | fail "no step")))
      have iq : Ix q.1 n := ⟨hqi.1, hqi.2, by omega⟩
      refine get_V N4 (.tail _ (.tail _ (.tail _ (.head _)))) hdl' iq (fun t0 => ?_)
      (repeat' ((fail_if_success (with_reducible first | (refine at1 ?_ ?_; constructor) | (refine at3 ?_ ?_; constructor) | show @ite Prop _ _ _ _ | (refine at6 ?_ ?_; constructor) )); (first | ((with_reducible first | refine' l_numbers ?N ?m ?d ?_ | refine' l_hours ?N ?m ?d ?_ | refine' l_job ?N ?m ?d ?_ | refine' l_k ?N ?m ?d ?_ | refine' l_begun ?N ?m ?d ?_ | refine' l_ends ?N ?m ?d ?_ | refine' l_times ?N ?m ?d ?_ | refine' l_most ?N ?m ?d ?_ ); (case N => assumption); (case m => first | assumption | (repeat (first | exact List.Mem.head _ | refine List.Mem.tail _ ?_))); (case d => assumption)) | ((with_reducible show wpAny _ _ (eval (Expr.Name _ _) (lEnv _ _ _)) _ _ _); refine' l_local ?F ?v ?_; (case F => assumption); (case v => (repeat (first | exact if_pos rfl | refine Eq.trans (if_neg (by decide)) ?_))))  | (k_unfold; (try dsimp only)) | (k_end; wrow_close) | walk1 | (dsimp only; walk1) | (leave1; walk_say "STEP leave1"; try dsimp only) | fail "no step")))
      refine sub_V N4 (.tail _ (mT _ _ _ _ _ it)) rfl ik (fun ta => ?_)
      (repeat' ((fail_if_success (with_reducible first | (refine at1 ?_ ?_; constructor) | (refine at3 ?_ ?_; constructor) | show @ite Prop _ _ _ _ | (refine at6 ?_ ?_; constructor) )); (first | ((with_reducible first | refine' l_numbers ?N ?m ?d ?_ | refine' l_hours ?N ?m ?d ?_ | refine' l_job ?N ?m ?d ?_ | refine' l_k ?N ?m ?d ?_ | refine' l_begun ?N ?m ?d ?_ | refine' l_ends ?N ?m ?d ?_ | refine' l_times ?N ?m ?d ?_ | refine' l_most ?N ?m ?d ?_ ); (case N => assumption); (case m => first | assumption | (repeat (first | exact List.Mem.head _ | refine List.Mem.tail _ ?_))); (case d => assumption)) | ((with_reducible show wpAny _ _ (eval (Expr.Name _ _) (lEnv _ _ _)) _ _ _); refine' l_local ?F ?v ?_; (case F => assumption); (case v => (repeat (first | exact if_pos rfl | refine Eq.trans (if_neg (by decide)) ?_))))  | (k_unfold; (try dsimp only)) | (k_end; wrow_close) | walk1 | (dsimp only; walk1) | (leave1; walk_say "STEP leave1"; try dsimp only) | fail "no step")))
      refine sub_V N4 (.tail _ (mT _ _ _ _ _ it)) rfl ik1 (fun tb => ?_)
      (repeat' ((fail_if_success (with_reducible first | (refine at1 ?_ ?_; constructor) | (refine at3 ?_ ?_; constructor) | show @ite Prop _ _ _ _ | (refine at6 ?_ ?_; constructor) )); (first | ((with_reducible first | refine' l_numbers ?N ?m ?d ?_ | refine' l_hours ?N ?m ?d ?_ | refine' l_job ?N ?m ?d ?_ | refine' l_k ?N ?m ?d ?_ | refine' l_begun ?N ?m ?d ?_ | refine' l_ends ?N ?m ?d ?_ | refine' l_times ?N ?m ?d ?_ | refine' l_most ?N ?m ?d ?_ ); (case N => assumption); (case m => first | assumption | (repeat (first | exact List.Mem.head _ | refine List.Mem.tail _ ?_))); (case d => assumption)) | ((with_reducible show wpAny _ _ (eval (Expr.Name _ _) (lEnv _ _ _)) _ _ _); refine' l_local ?F ?v ?_; (case F => assumption); (case v => (repeat (first | exact if_pos rfl | refine Eq.trans (if_neg (by decide)) ?_))))  | (k_unfold; (try dsimp only)) | (k_end; wrow_close) | walk1 | (dsimp only; walk1) | (leave1; walk_say "STEP leave1"; try dsimp only) | fail "no step")))
      refine set_V F4 N4 hdl' iq (upd_nd (pre := [_, _, _]) (nd3.same rfl)) ?_
      intro h5 F5 N5
      clear F4 N4
      dsimp only [List.cons_append, List.nil_append] at N5
      (repeat' ((fail_if_success (with_reducible first | (refine at1 ?_ ?_; constructor) | (refine at3 ?_ ?_; constructor) | show @ite Prop _ _ _ _ | (refine at6 ?_ ?_; constructor) )); (first | ((with_reducible first | refine' l_numbers ?N ?m ?d ?_ | refine' l_hours ?N ?m ?d ?_ | refine' l_job ?N ?m ?d ?_ | refine' l_k ?N ?m ?d ?_ | refine' l_begun ?N ?m ?d ?_ | refine' l_ends ?N ?m ?d ?_ | refine' l_times ?N ?m ?d ?_ | refine' l_most ?N ?m ?d ?_ ); (case N => assumption); (case m => first | assumption | (repeat (first | exact List.Mem.head _ | refine List.Mem.tail _ ?_))); (case d => assumption)) | ((with_reducible show wpAny _ _ (eval (Expr.Name _ _) (lEnv _ _ _)) _ _ _); refine' l_local ?F ?v ?_; (case F => assumption); (case v => (repeat (first | exact if_pos rfl | refine Eq.trans (if_neg (by decide)) ?_))))  | (k_unfold; (try dsimp only)) | (k_end; wrow_close) | walk1 | (dsimp only; walk1) | (leave1; walk_say "STEP leave1"; try dsimp only) | fail "no step")))
      refine hQt _ _ (TurnP.next F5 N5 (fun p hp => hp) (off_same hnI rfl) ⟨same_of_mm, o3'', _, _, d3'', ?_, fun j j1 j2 => ?_⟩)
      · rw [List.length_set]; exact hdl'
      · rw [List.map_set, gI_set hqi.1 j1 (by rw [List.length_map]; omega), List.take_add_one, List.getElem?_map, hq]
        have hnq := nodup_take hwn (i := i) (x := q.1) (by rw [List.getElem?_map, hq]; rfl)
        have hj := hds' j j1 j2
        show (if j = q.1 then gI (ds'.map (·.1)) q.1 + (gI (ts.map (·.1)) k - gI (ts.map (·.1)) (k - 1)) else gI (ds'.map (·.1)) j) = gI (ds.map (·.1)) j + (if j ∈ (ws.map (·.1)).take i ++ [q.1] then gI (ts.map (·.1)) k - gI (ts.map (·.1)) (k - 1) else 0)
        by_cases e : j = q.1
        · rw [if_pos e, if_pos (by rw [e]; simp), ← e, hj, if_neg (by rw [e]; exact hnq)]
          omega
        · rw [if_neg e, hj]
          congr 1
          by_cases e2 : j ∈ (ws.map (·.1)).take i
          · rw [if_pos e2, if_pos (List.mem_append_left _ e2)]
          · rw [if_neg e2, if_neg fun z => (List.mem_append.mp z).elim e2 fun z => e (List.mem_singleton.mp z)]
    · rintro mu nx h2 tk2 ⟨o3', v3', ds', d3', hdl', hds'⟩ F3 N3
      (repeat' ((fail_if_success (with_reducible first | (refine at1 ?_ ?_; constructor) | (refine at3 ?_ ?_; constructor) | show @ite Prop _ _ _ _ | (refine at6 ?_ ?_; constructor) )); (first | ((with_reducible first | refine' l_numbers ?N ?m ?d ?_ | refine' l_hours ?N ?m ?d ?_ | refine' l_job ?N ?m ?d ?_ | refine' l_k ?N ?m ?d ?_ | refine' l_begun ?N ?m ?d ?_ | refine' l_ends ?N ?m ?d ?_ | refine' l_times ?N ?m ?d ?_ | refine' l_most ?N ?m ?d ?_ ); (case N => assumption); (case m => first | assumption | (repeat (first | exact List.Mem.head _ | refine List.Mem.tail _ ?_))); (case d => assumption)) | ((with_reducible show wpAny _ _ (eval (Expr.Name _ _) (lEnv _ _ _)) _ _ _); refine' l_local ?F ?v ?_; (case F => assumption); (case v => (repeat (first | exact if_pos rfl | refine Eq.trans (if_neg (by decide)) ?_))))  | (k_unfold; (try dsimp only)) | (k_end; wrow_close) | walk1 | (dsimp only; walk1) | (leave1; walk_say "STEP leave1"; try dsimp only) | fail "no step")))
      refine hQ1 _ _ ?_
      rw [vals_len, List.take_of_length_le (by rw [List.length_map]; omega)] at hds'
      refine' h _ _ _ o3' v3' ds' ?_ ?_ ?m F3 N3 d3' hdl' fun j j1 j2 => ?_
      case m => rw [if_pos hltW]; exact rfl
      · refine same_of_mm.mono (fun _ _ => rfl) |>.trans ?_
        refine Same.put' (Same.of_eq em.symm)
      · rw [hds' j j1 j2]
        congr 1
        by_cases e : j ∈ ws.map (·.1)
        · rw [if_pos e, if_pos ⟨hltW, e⟩]
        · rw [if_neg e, if_neg fun z => e z.2]
  · rename_i hlt
    (repeat' ((fail_if_success (with_reducible first | (refine at1 ?_ ?_; constructor) | (refine at3 ?_ ?_; constructor) | show @ite Prop _ _ _ _ | (refine at6 ?_ ?_; constructor) )); (first | ((with_reducible first | refine' l_numbers ?N ?m ?d ?_ | refine' l_hours ?N ?m ?d ?_ | refine' l_job ?N ?m ?d ?_ | refine' l_k ?N ?m ?d ?_ | refine' l_begun ?N ?m ?d ?_ | refine' l_ends ?N ?m ?d ?_ | refine' l_times ?N ?m ?d ?_ | refine' l_most ?N ?m ?d ?_ ); (case N => assumption); (case m => first | assumption | (repeat (first | exact List.Mem.head _ | refine List.Mem.tail _ ?_))); (case d => assumption)) | ((with_reducible show wpAny _ _ (eval (Expr.Name _ _) (lEnv _ _ _)) _ _ _); refine' l_local ?F ?v ?_; (case F => assumption); (case v => (repeat (first | exact if_pos rfl | refine Eq.trans (if_neg (by decide)) ?_))))  | (k_unfold; (try dsimp only)) | (k_end; wrow_close) | walk1 | (dsimp only; walk1) | (leave1; walk_say "STEP leave1"; try dsimp only) | fail "no step")))
    have hltW : ¬ (ws.length : Int) < W := fun e => hlt (decide_eq_true e)
    refine hQ1 _ _ ?_
    refine h _ _ m o3 v3 ds ti (Same.refl _ _) (by rw [if_neg hltW, Int.add_zero]; exact mi) (by rw [em]; exact F1) N1 d3 hdl fun j _ _ => by rw [if_neg fun e => hltW e.1]; omega
end
/-! part D8 -/
set_option maxHeartbeats 1000000
set_option maxHeartbeats 1000000
/-- the i-th time -/
abbrev tmAt (ts : List (Int × Tok)) (i : Nat) : Int := (ts.map (·.1)).getD i 0
theorem aw_eq {n : Nat} {bs es ts : List (Int × Tok)} {hsI : List Int} (hes : es.map (·.1) = (jobsI n).map (fun j => gI (bs.map (·.1)) j + gI hsI j)) (i : Nat) :
    (jobsI n).filter (fun j => decide (gI (bs.map (·.1)) j ≤ gI (ts.map (·.1)) (((i + 1 : Nat) : Int) - 1) ∧ gI (ts.map (·.1)) ((i + 1 : Nat) : Int) ≤ gI (es.map (·.1)) j)) = awL n (bs.map (·.1)) hsI (tmAt ts) i := by
  unfold awL
  apply List.filter_congr
  intro j hj
  have hj' := mem_jobsI.mp hj
  rw [hes, gI_jobs hj'.1 hj'.2]
  have e1 : (((i + 1 : Nat) : Int) - 1).toNat = i := by omega
  have e2 : ((i + 1 : Nat) : Int).toNat = i + 1 := rfl
  unfold gI
  rw [e1, e2]
section
variable {w : World} {A : Around} {g : Heap} {Lf fa : Addr} {cd : Value} {m : Str → Option Value} {s : Shared} {Q : Flow → Shared → Prop} {o1 o2 o3 o4 o5 o6 o7 o8 : Obj} {TT : List (Addr × Obj)} {n N : Nat}
  {A₀ : Around} {base : Heap} {p : Program} {loose : List Str} {mean : ExcName → Option Value} {mg mb : Str → Option Value} {jA bA eA hA tA : Addr} {bs es ds ts : List (Int × Tok)} {hsI : List Int} {e1 e5 eh et : Nat} {t1 t2 t3 tw ti : Tok} {W : Int}
theorem lT6 (lx : Lx w p loose mean mg mb A₀ base A g Lf fa cd) (F : Fr g Lf s.heap m) (N0 : News g Lf s.heap ((hA, listOf (vals ds).toArray eh) :: LC Lf o1 o2 o3 o4 o5 o6 o7 o8 TT)) (nd : ND ((hA, listOf (vals ds).toArray eh) :: LC Lf o1 o2 o3 o4 o5 o6 o7 o8 TT))
    (mj : m (Str.ofString "jobs") = some (.ref jA)) (mw : m (Str.ofString "workers") = some (.int W tw)) (mi : m (Str.ofString "idle") = some (.int 0 ti)) (mh : m (Str.ofString "held") = some (.ref hA)) {v3 v4 : Option Value} (d3 : o3.data = .cell v3) (d4 : o4.data = .cell v4)
    (d5 : o5.data = .cell (some (.ref bA))) (d6 : o6.data = .cell (some (.ref eA))) (d7 : o7.data = .cell (some (.ref tA))) (ij : (jA, rngObj 0 n 1 t1 t2 t3) ∈ TT) (ib : (bA, listOf (vals bs).toArray e1) ∈ TT) (ie : (eA, listOf (vals es).toArray e5) ∈ TT) (it : (tA, listOf (vals ts).toArray et) ∈ TT)
    (hn : n ≤ 12) (hbl : bs.length = n) (hdl : ds.length = n) (hd0 : ds.map (·.1) = (jobsI n).map (fun _ => 0)) (hes : es.map (·.1) = (jobsI n).map (fun j => gI (bs.map (·.1)) j + gI hsI j)) (htN : ts.length = N + 1) (htl : ts.length ≤ 100)
    (h : ∀ h' tk m' o3' v3' o4' v4' ds' t', Same ["at_work", "idle"] m' m → m' (Str.ofString "idle") = some (.int (acc N fun k => if idleAt n (bs.map (·.1)) hsI W (tmAt ts) k = true then tmAt ts (k + 1) - tmAt ts k else 0) t') → Fr g Lf h' m' → News g Lf h' ((hA, listOf (vals ds').toArray eh) :: LC Lf o1 o2 o3' o4' o5 o6 o7 o8 TT) → o3'.data = .cell v3' → o4'.data = .cell v4' → ds'.length = n →
      (∀ j : Int, 0 ≤ j → j < n → gI (ds'.map (·.1)) j = heldOf n (bs.map (·.1)) hsI W (tmAt ts) N j) → Q .next { s with heap := h', toks := tk }) :
    wpAny (model PR w) A (exec (lT 6) (lEnv Lf fa cd)) Q (fun _ _ => False) s := by
  show wpAny _ _ (exec (.For _ _ _ _ _) _) _ _ _
  have X := lx.G.X
  have B := lx.G.B
  have TP := lx.G.T
  have hh := lx.hh
  have hel : es.length = n := by have := congrArg List.length hes; unfold jobsI at this; simpa using this
  have mT : ∀ a o3 o4 q, q ∈ TT → q ∈ a :: LC Lf o1 o2 o3 o4 o5 o6 o7 o8 TT := fun a o3 o4 q hq => .tail _ (.tail _ (.tail _ (.tail _ (.tail _ (.tail _ (.tail _ (.tail _ (.tail _ hq))))))))
  refine for_rule ?_
  (repeat' ((fail_if_success (with_reducible first | (refine at1 ?_ ?_; constructor) | (refine at3 ?_ ?_; constructor) | show @ite Prop _ _ _ _ | (refine at6 ?_ ?_; constructor) )); (first | ((with_reducible first | refine' l_numbers ?N ?m ?d ?_ | refine' l_hours ?N ?m ?d ?_ | refine' l_job ?N ?m ?d ?_ | refine' l_k ?N ?m ?d ?_ | refine' l_begun ?N ?m ?d ?_ | refine' l_ends ?N ?m ?d ?_ | refine' l_times ?N ?m ?d ?_ | refine' l_most ?N ?m ?d ?_ ); (case N => assumption); (case m => first | assumption | (repeat (first | exact List.Mem.head _ | refine List.Mem.tail _ ?_))); (case d => assumption)) | ((with_reducible show wpAny _ _ (eval (Expr.Name _ _) (lEnv _ _ _)) _ _ _); refine' l_local ?F ?v ?_; (case F => assumption); (case v => (repeat (first | exact if_pos rfl | refine Eq.trans (if_neg (by decide)) ?_))))  | (k_unfold; (try dsimp only)) | (k_end; wrow_close) | walk1 | (dsimp only; walk1) | (leave1; walk_say "STEP leave1"; try dsimp only) | fail "no step")))
  refine len_V N0 (mT _ _ _ _ it) htN (by omega) ?_
  (repeat' ((fail_if_success (with_reducible first | (refine at1 ?_ ?_; constructor) | (refine at3 ?_ ?_; constructor) | show @ite Prop _ _ _ _ | (refine at6 ?_ ?_; constructor) )); (first | ((with_reducible first | refine' l_numbers ?N ?m ?d ?_ | refine' l_hours ?N ?m ?d ?_ | refine' l_job ?N ?m ?d ?_ | refine' l_k ?N ?m ?d ?_ | refine' l_begun ?N ?m ?d ?_ | refine' l_ends ?N ?m ?d ?_ | refine' l_times ?N ?m ?d ?_ | refine' l_most ?N ?m ?d ?_ ); (case N => assumption); (case m => first | assumption | (repeat (first | exact List.Mem.head _ | refine List.Mem.tail _ ?_))); (case d => assumption)) | ((with_reducible show wpAny _ _ (eval (Expr.Name _ _) (lEnv _ _ _)) _ _ _); refine' l_local ?F ?v ?_; (case F => assumption); (case v => (repeat (first | exact if_pos rfl | refine Eq.trans (if_neg (by decide)) ?_))))  | (k_unfold; (try dsimp only)) | (k_end; wrow_close) | walk1 | (dsimp only; walk1) | (leave1; walk_say "STEP leave1"; try dsimp only) | fail "no step")))
  refine for_range1 (n := N) ["at_work", "idle"] (fun i m' nx => JT6 hA eh Lf o1 o2 o5 o6 o7 o8 TT n (acc i fun k => if idleAt n (bs.map (·.1)) hsI W (tmAt ts) k = true then tmAt ts (k + 1) - tmAt ts k else 0) (fun l => ∀ j : Int, 0 ≤ j → j < n → gI l j = heldOf n (bs.map (·.1)) hsI W (tmAt ts) i j) m' nx)
    hh (by omega) (fun _ _ => rfl) F N0 ⟨o3, v3, o4, v4, ds, ti, d3, d4, hdl, mi, fun j j1 j2 => by rw [hd0, gI_jobs j1 j2]; rfl⟩ ?_ ?_
  · rintro i tv mu nx h2 tk2 I io Qt hQt hi ⟨o3', v3', o4', v4', ds', t', d3', d4', hdl', mi', hds'⟩ hnI F2 N2
    clear F N0
    have nd2 : ND ((I, io) :: (hA, listOf (vals ds').toArray eh) :: LC Lf o1 o2 o3' o4' o5 o6 o7 o8 TT) := ND.cons (nd.same rfl) hnI
    refine wpAny_assign_Name (storeX_C F2 N2 (c := Lf + 4) rfl (updF_nd (pre := [_, _, _, _, _]) nd2) d4' ?_)
    intro h3 o4'' F3 N3 d4''
    clear F2 N2
    dsimp only [List.cons_append, List.nil_append] at N3
    show wpAny _ _ (execs [lU 0, lU 1] (lEnv Lf fa cd)) _ _ _
    have mjr : mm ["at_work", "idle"] mu m (Str.ofString "jobs") = some (.ref jA) := Eq.trans (if_neg (by decide)) mj
    have mwr : mm ["at_work", "idle"] mu m (Str.ofString "workers") = some (.int W tw) := Eq.trans (if_neg (by decide)) mw
    have mhr : mm ["at_work", "idle"] mu m (Str.ofString "held") = some (.ref hA) := Eq.trans (if_neg (by decide)) mh
    refine wpAny_execs_cons (lU0 (X0 := [(I, io), (hA, listOf (vals ds').toArray eh)]) lx F3 N3 mjr d4'' d5 d6 d7 ij ib ie it hn hbl hel (by omega) (by omega) htl fun h4 tk4 D ws kd F4 N4 offD hws => ?_)
    clear F3 N3
    rw [aw_eq hes] at hws
    have nd4 : ND ((D, listOf (vals ws).toArray kd) :: (I, io) :: (hA, listOf (vals ds').toArray eh) :: LC Lf o1 o2 o3' o4'' o5 o6 o7 o8 TT) := ND.cons (nd2.same rfl) offD
    have hwj : ∀ q ∈ ws, 0 ≤ q.1 ∧ q.1 < n := fun q hq => by
      have : q.1 ∈ ws.map (·.1) := List.mem_map_of_mem hq
      rw [hws] at this
      exact mem_jobsI.mp (List.mem_filter.mp this).1
    have hwn : (ws.map (·.1)).Nodup := by rw [hws]; exact List.Nodup.sublist List.filter_sublist (nodup_jobsI n)
    have hwl' : ws.length = (awL n (bs.map (·.1)) hsI (tmAt ts) i).length := by rw [← hws, List.length_map]
    have hwl : ws.length ≤ 12 := by
      have h1 : (awL n (bs.map (·.1)) hsI (tmAt ts) i).length ≤ (jobsI n).length := List.length_filter_le _ _
      have h2 : (jobsI n).length = n := by unfold jobsI; simp
      omega
    refine wpAny_execs_cons (lU1 lx F4 N4 nd4 (if_pos rfl) (Eq.trans (if_neg (by decide)) mwr) (Eq.trans (if_neg (by decide)) mi') (Eq.trans (if_neg (by decide)) mhr) d3' d4'' d7 it hn hdl' hwj hwn hwl (by omega) (by omega) htl fun h5 tk5 m5 o35 v35 ds5 t5 S5 mi5 F5 N5 d35 hdl5 hds5 => ?_)
    clear F4 N4
    refine wpAny_execs_nil ?_
    have eA : gI (ts.map (·.1)) ((i + 1 : Nat) : Int) = tmAt ts (i + 1) := rfl
    have eB : gI (ts.map (·.1)) (((i + 1 : Nat) : Int) - 1) = tmAt ts i := by unfold gI; rw [show (((i + 1 : Nat) : Int) - 1).toNat = i by omega]
    rw [eA, eB] at mi5 hds5
    have hid : ((ws.length : Int) < W) ↔ idleAt n (bs.map (·.1)) hsI W (tmAt ts) i = true := by
      unfold idleAt; rw [decide_eq_true_eq, hwl']
    refine hQt _ _ (TurnP.next (nx := (hA, listOf (vals ds5).toArray eh) :: LC Lf o1 o2 o35 o4'' o5 o6 o7 o8 TT) F5 N5 (fun p hp => .tail _ hp) (off_same hnI rfl) ⟨?_, o35, v35, o4'', _, ds5, t5, d35, d4'', hdl5, ?_, fun j j1 j2 => ?_⟩)
    · exact (S5.mono fun z hz => by
        simp only [List.contains_cons, List.contains_nil, Bool.or_false, Bool.or_eq_false_iff] at hz ⊢
        exact hz.2).trans (Same.put' same_of_mm)
    · rw [mi5]
      show some (Value.int (acc i _ + _) t5) = some (Value.int (acc i _ + _) t5)
      congr 3
      show (if (ws.length : Int) < W then tmAt ts (i + 1) - tmAt ts i else 0) = if idleAt n (bs.map (·.1)) hsI W (tmAt ts) i = true then tmAt ts (i + 1) - tmAt ts i else 0
      by_cases e : (ws.length : Int) < W
      · rw [if_pos e, if_pos (hid.mp e)]
      · rw [if_neg e, if_neg fun z => e (hid.mpr z)]
    · rw [hds5 j j1 j2, hds' j j1 j2]
      show _ = heldOf n (bs.map (·.1)) hsI W (tmAt ts) i j + _
      congr 1
      have hmem : j ∈ ws.map (·.1) ↔ gI (bs.map (·.1)) j ≤ tmAt ts i ∧ tmAt ts (i + 1) ≤ gI (bs.map (·.1)) j + gI hsI j := by
        rw [hws]
        unfold awL
        rw [List.mem_filter, decide_eq_true_eq]
        exact ⟨fun z => z.2, fun z => ⟨mem_jobsI.mpr ⟨j1, j2⟩, z⟩⟩
      show (if (ws.length : Int) < W ∧ j ∈ ws.map (·.1) then tmAt ts (i + 1) - tmAt ts i else 0) = if idleAt n (bs.map (·.1)) hsI W (tmAt ts) i = true ∧ gI (bs.map (·.1)) j ≤ tmAt ts i ∧ tmAt ts (i + 1) ≤ gI (bs.map (·.1)) j + gI hsI j then tmAt ts (i + 1) - tmAt ts i else 0
      by_cases e : (ws.length : Int) < W ∧ j ∈ ws.map (·.1)
      · rw [if_pos e, if_pos ⟨hid.mp e.1, hmem.mp e.2⟩]
      · rw [if_neg e, if_neg fun z => e ⟨hid.mpr z.1, hmem.mpr z.2⟩]
  · rintro mu nx h2 tk2 ⟨o3', v3', o4', v4', ds', t', d3', d4', hdl', mi', hds'⟩ F2 N2
    exact h _ _ _ o3' v3' o4' v4' ds' t' same_of_mm mi' F2 N2 d3' d4' hdl' hds'
end
/-! part D9 -/
set_option maxHeartbeats 1000000
set_option maxHeartbeats 1000000
section
variable {w : World} {A : Around} {g : Heap} {Lf fa : Addr} {cd : Value} {m : Str → Option Value} {s : Shared} {Q : Flow → Shared → Prop} {o1 o2 o3 o4 o5 o6 o7 o8 : Obj} {TT nx : List (Addr × Obj)} {n : Nat}
  {A₀ : Around} {base : Heap} {p : Program} {loose : List Str} {mean : ExcName → Option Value} {mg mb : Str → Option Value} {nA jA hA mA : Addr} {ds ms : List (Int × Tok)} {eh e6 em' : Nat} {NL : List Gr} {t1 t2 t3 ti : Tok} {V : Int → Int} {idl : Int}
theorem lT8 (lx : Lx w p loose mean mg mb A₀ base A g Lf fa cd) (F : Fr g Lf s.heap m) (N : News g Lf s.heap ((mA, listOf (vals []).toArray em') :: LC Lf o1 o2 o3 o4 o5 o6 o7 o8 TT)) (nd : ND ((mA, listOf (vals []).toArray em') :: LC Lf o1 o2 o3 o4 o5 o6 o7 o8 TT))
    (mj : m (Str.ofString "jobs") = some (.ref jA)) (mn : m (Str.ofString "needs") = some (.ref nA)) (mh : m (Str.ofString "held") = some (.ref hA)) {v3 : Option Value} (d3 : o3.data = .cell v3) (d8 : o8.data = .cell (some (.ref mA))) (ij : (jA, rngObj 0 n 1 t1 t2 t3) ∈ TT) (ih : (hA, listOf (vals ds).toArray eh) ∈ TT)
    (iN : (nA, listOf (refsN NL).toArray e6) ∈ TT) (iG : ∀ q ∈ gobjs NL, q ∈ TT) (hNL : NL.length = n) (hn : n ≤ 12) (hlow : ∀ (j : Nat) y, NL[j]? = some y → ∀ q ∈ y.ps, 0 ≤ q.1 ∧ q.1 < j) (hps : ∀ q ∈ NL, q.ps.length ≤ 8) (hdl : ds.length = n)
    (hV : ∀ j : Int, 0 ≤ j → j < n → ∀ M, M ∈ 0 :: (needsF NL j).map V → (∀ x ∈ 0 :: (needsF NL j).map V, x ≤ M) → gI (ds.map (·.1)) j + M = V j)
    (h : ∀ h' tk o3' v3' ms e, Fr g Lf h' m → News g Lf h' ((mA, listOf (vals ms).toArray e) :: LC Lf o1 o2 o3' o4 o5 o6 o7 o8 TT) → o3'.data = .cell v3' → ms.map (·.1) = (jobsI n).map V → Q .next { s with heap := h', toks := tk }) :
    wpAny (model PR w) A (exec (lT 8) (lEnv Lf fa cd)) Q (fun _ _ => False) s := by
  show wpAny _ _ (exec (.For _ _ _ _ _) _) _ _ _
  have X := lx.G.X
  have B := lx.G.B
  have TP := lx.G.T
  have hh := lx.hh
  have em := fix3 mj mn mh
  rw [em] at F
  have mT : ∀ a o3 q, q ∈ TT → q ∈ a :: LC Lf o1 o2 o3 o4 o5 o6 o7 o8 TT := fun a o3 q hq => .tail _ (.tail _ (.tail _ (.tail _ (.tail _ (.tail _ (.tail _ (.tail _ (.tail _ hq))))))))
  refine for_rule ?_
  refine abs_post fun Q1 hQ1 => ?_
  (repeat' ((fail_if_success (with_reducible first | (refine at1 ?_ ?_; constructor) | (refine at3 ?_ ?_; constructor) | show @ite Prop _ _ _ _ | (refine at6 ?_ ?_; constructor) )); (first | ((with_reducible first | refine' l_numbers ?N ?m ?d ?_ | refine' l_hours ?N ?m ?d ?_ | refine' l_job ?N ?m ?d ?_ | refine' l_k ?N ?m ?d ?_ | refine' l_begun ?N ?m ?d ?_ | refine' l_ends ?N ?m ?d ?_ | refine' l_times ?N ?m ?d ?_ | refine' l_most ?N ?m ?d ?_ ); (case N => assumption); (case m => first | assumption | (repeat (first | exact List.Mem.head _ | refine List.Mem.tail _ ?_))); (case d => assumption)) | ((with_reducible show wpAny _ _ (eval (Expr.Name _ _) (lEnv _ _ _)) _ _ _); refine' l_local ?F ?v ?_; (case F => assumption); (case v => (repeat (first | exact if_pos rfl | refine Eq.trans (if_neg (by decide)) ?_))))  | (k_unfold; (try dsimp only)) | (k_end; wrow_close) | walk1 | (dsimp only; walk1) | (leave1; walk_say "STEP leave1"; try dsimp only) | fail "no step")))
  refine hQ1 _ _ ?_
  refine iter_jobs (n := n) [] (fun i m' nx => JT8 mA Lf o1 o2 o4 o5 o6 o7 o8 TT ((jobsI i).map V) nx) hh (N _ (mT _ _ _ ij)).1 (by omega) (fun _ _ => rfl) F N ⟨o3, v3, [], em', d3, rfl⟩ ?_ ?_
  · rintro i tv mu nx h2 tk2 I io Qt hQt hi ⟨o3', v3', ms, e, d3', hms⟩ hnI F2 N2
    clear F N
    have hml : ms.length = i := by have := congrArg List.length hms; unfold jobsI at this; simpa using this
    have nd2 : ND ((I, io) :: (mA, listOf (vals ms).toArray e) :: LC Lf o1 o2 o3' o4 o5 o6 o7 o8 TT) := ND.cons (nd.same rfl) hnI
    refine wpAny_assign_Name (storeX_C F2 N2 (c := Lf + 3) rfl (updF_nd (pre := [_, _, _, _]) nd2) d3' ?_)
    intro h3 o3'' F3 N3 d3''
    clear F2 N2
    dsimp only [List.cons_append, List.nil_append] at N3
    have hy : NL[i]? = some (NL[i]'(by omega)) := List.getElem?_eq_getElem (by omega)
    generalize NL[i]'(by omega) = y at hy
    have hyl := hps y (List.mem_of_getElem? hy)
    (repeat' ((fail_if_success (with_reducible first | (refine at1 ?_ ?_; constructor) | (refine at3 ?_ ?_; constructor) | show @ite Prop _ _ _ _ | (refine at6 ?_ ?_; constructor) )); (first | ((with_reducible first | refine' l_numbers ?N ?m ?d ?_ | refine' l_hours ?N ?m ?d ?_ | refine' l_job ?N ?m ?d ?_ | refine' l_k ?N ?m ?d ?_ | refine' l_begun ?N ?m ?d ?_ | refine' l_ends ?N ?m ?d ?_ | refine' l_times ?N ?m ?d ?_ | refine' l_most ?N ?m ?d ?_ ); (case N => assumption); (case m => first | assumption | (repeat (first | exact List.Mem.head _ | refine List.Mem.tail _ ?_))); (case d => assumption)) | ((with_reducible show wpAny _ _ (eval (Expr.Name _ _) (lEnv _ _ _)) _ _ _); refine' l_local ?F ?v ?_; (case F => assumption); (case v => (repeat (first | exact if_pos rfl | refine Eq.trans (if_neg (by decide)) ?_))))  | (k_unfold; (try dsimp only)) | (k_end; wrow_close) | walk1 | (dsimp only; walk1) | (leave1; walk_say "STEP leave1"; try dsimp only) | fail "no step")))
    have ix := Ix.of hi (by omega)
    refine sub_V N3 (.tail _ (mT _ _ _ ih)) hdl ix (fun ta => ?_)
    (repeat' ((fail_if_success (with_reducible first | (refine at1 ?_ ?_; constructor) | (refine at3 ?_ ?_; constructor) | show @ite Prop _ _ _ _ | (refine at6 ?_ ?_; constructor) )); (first | ((with_reducible first | refine' l_numbers ?N ?m ?d ?_ | refine' l_hours ?N ?m ?d ?_ | refine' l_job ?N ?m ?d ?_ | refine' l_k ?N ?m ?d ?_ | refine' l_begun ?N ?m ?d ?_ | refine' l_ends ?N ?m ?d ?_ | refine' l_times ?N ?m ?d ?_ | refine' l_most ?N ?m ?d ?_ ); (case N => assumption); (case m => first | assumption | (repeat (first | exact List.Mem.head _ | refine List.Mem.tail _ ?_))); (case d => assumption)) | ((with_reducible show wpAny _ _ (eval (Expr.Name _ _) (lEnv _ _ _)) _ _ _); refine' l_local ?F ?v ?_; (case F => assumption); (case v => (repeat (first | exact if_pos rfl | refine Eq.trans (if_neg (by decide)) ?_))))  | (k_unfold; (try dsimp only)) | (k_end; wrow_close) | walk1 | (dsimp only; walk1) | (leave1; walk_say "STEP leave1"; try dsimp only) | fail "no step")))
    rename Fr _ _ _ _ => F4
    rename News _ _ _ _ => N4
    refine eval_comp (cl := [(Str.ofString "most", Lf + 8)]) (fun _ => true) (fun v y => ∃ k t t', v = Value.int k t ∧ y = Value.int (gI (ms.map (·.1)) k) t') rfl (by decide) rfl (by decide) rfl ?_
    (repeat' ((fail_if_success (with_reducible first | (refine at1 ?_ ?_; constructor) | (refine at3 ?_ ?_; constructor) | show @ite Prop _ _ _ _ | (refine at6 ?_ ?_; constructor) )); (first | ((with_reducible first | refine' l_numbers ?N ?m ?d ?_ | refine' l_hours ?N ?m ?d ?_ | refine' l_job ?N ?m ?d ?_ | refine' l_k ?N ?m ?d ?_ | refine' l_begun ?N ?m ?d ?_ | refine' l_ends ?N ?m ?d ?_ | refine' l_times ?N ?m ?d ?_ | refine' l_most ?N ?m ?d ?_ ); (case N => assumption); (case m => first | assumption | (repeat (first | exact List.Mem.head _ | refine List.Mem.tail _ ?_))); (case d => assumption)) | ((with_reducible show wpAny _ _ (eval (Expr.Name _ _) (lEnv _ _ _)) _ _ _); refine' l_local ?F ?v ?_; (case F => assumption); (case v => (repeat (first | exact if_pos rfl | refine Eq.trans (if_neg (by decide)) ?_))))  | (k_unfold; (try dsimp only)) | (k_end; wrow_close) | walk1 | (dsimp only; walk1) | (leave1; walk_say "STEP leave1"; try dsimp only) | fail "no step")))
    refine item_litK (News.isList N4 (.tail _ (.tail _ (mT _ _ _ iN)))) ix.lo ix.fit (by rw [Int.toNat_natCast]; exact refs_get hy) ?_
    refine comp_list (vs := vals y.ps) (n := y.n) hh (.tail _ (.tail _ (mT _ _ _ (iG _ (mem_gobjs (List.mem_of_getElem? hy)))))) F4 N4 (v_line hyl) ?q ?_
    case q =>
      refine ⟨fun C i v s₃ m₃ E' hP hc => tests_nil ⟨rfl, _, rfl⟩, ?_⟩
      intro C i' v s₃ m₃ E' hP _ hc
      obtain ⟨q, hq, rfl⟩ := vals_get hP
      have hqi := hlow i y hy q (List.mem_of_getElem? hq)
      have hns := hc.ns
      have hvr := hc.var
      have hc8 := hc.led (Lf + 8, o8) (by ((repeat (first | exact List.Mem.head _ | refine List.Mem.tail _ ?_))))
      have hle : s₃.heap.IsList mA (vals ms).toArray := ⟨_, hc.led (mA, _) (.tail _ (.tail _ (.head _))), rfl, ⟨_, rfl⟩⟩
      dsimp only at hc8
      clear F4 N4 hc
      (repeat' ((fail_if_success (with_reducible first | (refine at1 ?_ ?_; constructor) | (refine at3 ?_ ?_; constructor) | show @ite Prop _ _ _ _ | (refine at6 ?_ ?_; constructor) )); (first | ((with_reducible show wpAny _ _ (eval (Expr.Name _ _) (compEnvC _ _ _ _)) _ _ _); first | (refine' comp_var ?k1 ?k2 ?_ ?k3 ?k4 ?k5; (case k2 => with_reducible assumption); (case k1 => with_reducible assumption); (case k3 => exact rfl); (case k4 => exact rfl); (case k5 => decide)) | (refine' comp_free ?k1 ?k2 ?_ ?k3 ?k4 ?k5 ?k6; (case k3 => exact rfl); (case k1 => with_reducible assumption); (case k2 => with_reducible assumption); (case k4 => exact rfl); (case k5 => exact rfl); (case k6 => decide))) | (k_unfold; (try dsimp only)) | (k_end; wrow_close) | walk1 | (dsimp only; walk1) | (leave1; walk_say "STEP leave1"; try dsimp only) | fail "no step")))
      refine item_V hle hml ⟨hqi.1, hqi.2, by omega⟩ (fun t1 => ?_)
      (repeat' ((fail_if_success (with_reducible first | (refine at1 ?_ ?_; constructor) | (refine at3 ?_ ?_; constructor) | show @ite Prop _ _ _ _ | (refine at6 ?_ ?_; constructor) )); (first | ((with_reducible show wpAny _ _ (eval (Expr.Name _ _) (compEnvC _ _ _ _)) _ _ _); first | (refine' comp_var ?k1 ?k2 ?_ ?k3 ?k4 ?k5; (case k2 => with_reducible assumption); (case k1 => with_reducible assumption); (case k3 => exact rfl); (case k4 => exact rfl); (case k5 => decide)) | (refine' comp_free ?k1 ?k2 ?_ ?k3 ?k4 ?k5 ?k6; (case k3 => exact rfl); (case k1 => with_reducible assumption); (case k2 => with_reducible assumption); (case k4 => exact rfl); (case k5 => exact rfl); (case k6 => decide))) | (k_unfold; (try dsimp only)) | (k_end; wrow_close) | walk1 | (dsimp only; walk1) | (leave1; walk_say "STEP leave1"; try dsimp only) | fail "no step")))
    intro D5 h5 tk5 ys5 k5 F5 N5 hD5 hpr
    rw [filter_all] at hpr
    obtain ⟨l', e1', e2'⟩ := paired_ints (f := fun k => gI (ms.map (·.1)) k) hpr
    have hys : ys5 = (vals l').toArray := by apply Array.toList_inj.mp; rw [e1']
    subst hys
    have hll : l'.length = y.ps.length := by have := congrArg List.length e2'; simpa using this
    clear F4 N4
    (repeat' ((fail_if_success (with_reducible first | (refine at1 ?_ ?_; constructor) | (refine at3 ?_ ?_; constructor) | show @ite Prop _ _ _ _ | (refine at6 ?_ ?_; constructor) )); (first | ((with_reducible first | refine' l_numbers ?N ?m ?d ?_ | refine' l_hours ?N ?m ?d ?_ | refine' l_job ?N ?m ?d ?_ | refine' l_k ?N ?m ?d ?_ | refine' l_begun ?N ?m ?d ?_ | refine' l_ends ?N ?m ?d ?_ | refine' l_times ?N ?m ?d ?_ | refine' l_most ?N ?m ?d ?_ ); (case N => assumption); (case m => first | assumption | (repeat (first | exact List.Mem.head _ | refine List.Mem.tail _ ?_))); (case d => assumption)) | ((with_reducible show wpAny _ _ (eval (Expr.Name _ _) (lEnv _ _ _)) _ _ _); refine' l_local ?F ?v ?_; (case F => assumption); (case v => (repeat (first | exact if_pos rfl | refine Eq.trans (if_neg (by decide)) ?_))))  | (k_unfold; (try dsimp only)) | (k_end; wrow_close) | walk1 | (dsimp only; walk1) | (leave1; walk_say "STEP leave1"; try dsimp only) | fail "no step")))
    refine kmk_add_lit (zs := vals ((0, _) :: l')) F5 N5 (News.isList N5 (.tail _ (.head _))) (News.isList N5 (.head _)) rfl ?_ (by show 1 + (vals l').length ≤ _; rw [vals_len, sizeLine_eq]; omega)
    intro D6 h6 F6 N6 _
    clear F5 N5
    (repeat' ((fail_if_success (with_reducible first | (refine at1 ?_ ?_; constructor) | (refine at3 ?_ ?_; constructor) | show @ite Prop _ _ _ _ | (refine at6 ?_ ?_; constructor) )); (first | ((with_reducible first | refine' l_numbers ?N ?m ?d ?_ | refine' l_hours ?N ?m ?d ?_ | refine' l_job ?N ?m ?d ?_ | refine' l_k ?N ?m ?d ?_ | refine' l_begun ?N ?m ?d ?_ | refine' l_ends ?N ?m ?d ?_ | refine' l_times ?N ?m ?d ?_ | refine' l_most ?N ?m ?d ?_ ); (case N => assumption); (case m => first | assumption | (repeat (first | exact List.Mem.head _ | refine List.Mem.tail _ ?_))); (case d => assumption)) | ((with_reducible show wpAny _ _ (eval (Expr.Name _ _) (lEnv _ _ _)) _ _ _); refine' l_local ?F ?v ?_; (case F => assumption); (case v => (repeat (first | exact if_pos rfl | refine Eq.trans (if_neg (by decide)) ?_))))  | (k_unfold; (try dsimp only)) | (k_end; wrow_close) | walk1 | (dsimp only; walk1) | (leave1; walk_say "STEP leave1"; try dsimp only) | fail "no step")))
    refine kso_max F6 N6 (News.isList N6 (.head _)) (ints_vals _) (by simp) hh ?_
    intro h7 M tM tk7 F7 N7 hM hmax
    clear F6 N6
    have hneq : (needsF NL (i : Int)).map V = l'.map (·.1) := by
      rw [e2']
      unfold needsF psAt
      rw [Int.toNat_natCast, hy]
      show (y.ps.map (·.1)).map V = _
      rw [List.map_map]
      apply List.map_congr_left
      intro q hq
      have hqi := hlow i y hy q hq
      show V q.1 = gI (ms.map (·.1)) q.1
      rw [hms, gI_jobs hqi.1 hqi.2]
    rw [List.map_cons, ← hneq] at hM hmax
    have hval := hV i (by omega) (by omega) M hM hmax
    (repeat' ((fail_if_success (with_reducible first | (refine at1 ?_ ?_; constructor) | (refine at3 ?_ ?_; constructor) | show @ite Prop _ _ _ _ | (refine at6 ?_ ?_; constructor) )); (first | ((with_reducible first | refine' l_numbers ?N ?m ?d ?_ | refine' l_hours ?N ?m ?d ?_ | refine' l_job ?N ?m ?d ?_ | refine' l_k ?N ?m ?d ?_ | refine' l_begun ?N ?m ?d ?_ | refine' l_ends ?N ?m ?d ?_ | refine' l_times ?N ?m ?d ?_ | refine' l_most ?N ?m ?d ?_ ); (case N => assumption); (case m => first | assumption | (repeat (first | exact List.Mem.head _ | refine List.Mem.tail _ ?_))); (case d => assumption)) | ((with_reducible show wpAny _ _ (eval (Expr.Name _ _) (lEnv _ _ _)) _ _ _); refine' l_local ?F ?v ?_; (case F => assumption); (case v => (repeat (first | exact if_pos rfl | refine Eq.trans (if_neg (by decide)) ?_))))  | (k_unfold; (try dsimp only)) | (k_end; wrow_close) | walk1 | (dsimp only; walk1) | (leave1; walk_say "STEP leave1"; try dsimp only) | fail "no step")))
    rename Fr _ _ _ _ => F8
    rename News _ _ _ _ => N8
    have N9 := News.sub (n2 := (I, io) :: (mA, listOf (vals ms).toArray e) :: LC Lf o1 o2 o3'' o4 o5 o6 o7 o8 TT) N8 fun q hq => by
      first | exact .tail _ (.tail _ (.tail _ hq)) | exact .tail _ (.tail _ hq) | exact .tail _ (.tail _ (.tail _ (.tail _ hq)))
    clear N8
    refine append_K F8 N9 (upd_nd (pre := [_]) (nd2.same rfl)) ?_ (by rw [List.size_toArray, vals_len, sizeLine_eq]; omega)
    intro h6 F9 N10
    clear F8 N9
    rw [vals_push] at N10
    dsimp only [List.cons_append, List.nil_append] at N10
    (repeat' ((fail_if_success (with_reducible first | (refine at1 ?_ ?_; constructor) | (refine at3 ?_ ?_; constructor) | show @ite Prop _ _ _ _ | (refine at6 ?_ ?_; constructor) )); (first | ((with_reducible first | refine' l_numbers ?N ?m ?d ?_ | refine' l_hours ?N ?m ?d ?_ | refine' l_job ?N ?m ?d ?_ | refine' l_k ?N ?m ?d ?_ | refine' l_begun ?N ?m ?d ?_ | refine' l_ends ?N ?m ?d ?_ | refine' l_times ?N ?m ?d ?_ | refine' l_most ?N ?m ?d ?_ ); (case N => assumption); (case m => first | assumption | (repeat (first | exact List.Mem.head _ | refine List.Mem.tail _ ?_))); (case d => assumption)) | ((with_reducible show wpAny _ _ (eval (Expr.Name _ _) (lEnv _ _ _)) _ _ _); refine' l_local ?F ?v ?_; (case F => assumption); (case v => (repeat (first | exact if_pos rfl | refine Eq.trans (if_neg (by decide)) ?_))))  | (k_unfold; (try dsimp only)) | (k_end; wrow_close) | walk1 | (dsimp only; walk1) | (leave1; walk_say "STEP leave1"; try dsimp only) | fail "no step")))
    refine hQt _ _ (TurnP.next (nx := (mA, listOf (vals (ms ++ [(_, _)])).toArray (e + 1)) :: LC Lf o1 o2 o3'' o4 o5 o6 o7 o8 TT) F9 N10 (fun q hq => hq) (off_same hnI rfl) ⟨same_of_mm, o3'', _, _, _, d3'', ?_⟩)
    rw [List.map_append, hms]
    unfold jobsI
    rw [List.range_succ, List.map_append, List.map_append]
    congr 1
    show [_] = [V (i : Int)]
    rw [← hval]
  · rintro mu nx h2 tk2 ⟨o3', v3', ms, e, d3', hms⟩ F2 N2
    exact h _ _ o3' v3' ms e (by rw [em]; exact F2) N2 d3' hms
theorem lT9 (lx : Lx w p loose mean mg mb A₀ base A g Lf fa cd) (F : Fr g Lf s.heap m) (N : News g Lf s.heap ((mA, listOf (vals ms).toArray em') :: LC Lf o1 o2 o3 o4 o5 o6 o7 o8 TT))
    (mi : m (Str.ofString "idle") = some (.int idl ti)) (d8 : o8.data = .cell (some (.ref mA))) (hml : 0 < ms.length) (hmx : ∀ M, M ∈ ms.map (·.1) → (∀ x ∈ ms.map (·.1), x ≤ M) → M = idl)
    (h : ∀ h' tk, Fr g Lf h' m → News g Lf h' ((mA, listOf (vals ms).toArray em') :: LC Lf o1 o2 o3 o4 o5 o6 o7 o8 TT) → Q .next { s with heap := h', toks := tk }) :
    wpAny (model PR w) A (exec (lT 9) (lEnv Lf fa cd)) Q (fun _ _ => False) s := by
  show wpAny _ _ (exec (.If _ _ _ _) _) _ _ _
  have X := lx.G.X
  have B := lx.G.B
  have TP := lx.G.T
  have hh := lx.hh
  have em := fix_name mi
  rw [em] at F
  refine abs_post fun Q1 hQ1 => ?_
  (repeat' ((fail_if_success (with_reducible first | (refine at1 ?_ ?_; constructor) | (refine at3 ?_ ?_; constructor) | show @ite Prop _ _ _ _ | (refine at6 ?_ ?_; constructor) )); (first | ((with_reducible first | refine' l_numbers ?N ?m ?d ?_ | refine' l_hours ?N ?m ?d ?_ | refine' l_job ?N ?m ?d ?_ | refine' l_k ?N ?m ?d ?_ | refine' l_begun ?N ?m ?d ?_ | refine' l_ends ?N ?m ?d ?_ | refine' l_times ?N ?m ?d ?_ | refine' l_most ?N ?m ?d ?_ ); (case N => assumption); (case m => first | assumption | (repeat (first | exact List.Mem.head _ | refine List.Mem.tail _ ?_))); (case d => assumption)) | ((with_reducible show wpAny _ _ (eval (Expr.Name _ _) (lEnv _ _ _)) _ _ _); refine' l_local ?F ?v ?_; (case F => assumption); (case v => (repeat (first | exact if_pos rfl | refine Eq.trans (if_neg (by decide)) ?_))))  | (k_unfold; (try dsimp only)) | (k_end; wrow_close) | walk1 | (dsimp only; walk1) | (leave1; walk_say "STEP leave1"; try dsimp only) | fail "no step")))
  refine kso_max F N (News.isList N (.head _)) (ints_vals _) (by rw [List.length_map]; exact hml) hh ?_
  intro h7 M tM tk7 F7 N7 hM hmax
  clear F N
  have e := hmx M hM hmax
  subst e
  (repeat' ((fail_if_success (with_reducible first | (refine at1 ?_ ?_; constructor) | (refine at3 ?_ ?_; constructor) | show @ite Prop _ _ _ _ | (refine at6 ?_ ?_; constructor) )); (first | ((with_reducible first | refine' l_numbers ?N ?m ?d ?_ | refine' l_hours ?N ?m ?d ?_ | refine' l_job ?N ?m ?d ?_ | refine' l_k ?N ?m ?d ?_ | refine' l_begun ?N ?m ?d ?_ | refine' l_ends ?N ?m ?d ?_ | refine' l_times ?N ?m ?d ?_ | refine' l_most ?N ?m ?d ?_ ); (case N => assumption); (case m => first | assumption | (repeat (first | exact List.Mem.head _ | refine List.Mem.tail _ ?_))); (case d => assumption)) | ((with_reducible show wpAny _ _ (eval (Expr.Name _ _) (lEnv _ _ _)) _ _ _); refine' l_local ?F ?v ?_; (case F => assumption); (case v => (repeat (first | exact if_pos rfl | refine Eq.trans (if_neg (by decide)) ?_))))  | (k_unfold; (try dsimp only)) | (k_end; wrow_close) | walk1 | (dsimp only; walk1) | (leave1; walk_say "STEP leave1"; try dsimp only) | fail "no step")))
  rw [if_neg (by simp)]
  (repeat' ((fail_if_success (with_reducible first | (refine at1 ?_ ?_; constructor) | (refine at3 ?_ ?_; constructor) | show @ite Prop _ _ _ _ | (refine at6 ?_ ?_; constructor) )); (first | ((with_reducible first | refine' l_numbers ?N ?m ?d ?_ | refine' l_hours ?N ?m ?d ?_ | refine' l_job ?N ?m ?d ?_ | refine' l_k ?N ?m ?d ?_ | refine' l_begun ?N ?m ?d ?_ | refine' l_ends ?N ?m ?d ?_ | refine' l_times ?N ?m ?d ?_ | refine' l_most ?N ?m ?d ?_ ); (case N => assumption); (case m => first | assumption | (repeat (first | exact List.Mem.head _ | refine List.Mem.tail _ ?_))); (case d => assumption)) | ((with_reducible show wpAny _ _ (eval (Expr.Name _ _) (lEnv _ _ _)) _ _ _); refine' l_local ?F ?v ?_; (case F => assumption); (case v => (repeat (first | exact if_pos rfl | refine Eq.trans (if_neg (by decide)) ?_))))  | (k_unfold; (try dsimp only)) | (k_end; wrow_close) | walk1 | (dsimp only; walk1) | (leave1; walk_say "STEP leave1"; try dsimp only) | fail "no step")))
  refine hQ1 _ _ ?_
  exact h _ _ (by rw [em]; exact F7) N7
end
/-! part L13 -/
set_option maxHeartbeats 1000000
set_option maxHeartbeats 4000000
section
variable {prog : Program} {w : World} {A : Around} {s : Shared} {env : Env} {h₀ : Heap} {t1 t2 : PySem.Expr} {tk0 : Nat} {tpos : Pos} {body : List Stmt} {Q : Flow → Shared → Prop}
variable {m₀ : Str → Option Value} {news : List (Addr × Obj)} {l : Addr}
/-- for a, b in enumerate(l), l a list of the ledger -/
theorem iter_enum {vs : List Value} {n : Nat} (xs : List Str) (J : Nat → (Str → Option Value) → List (Addr × Obj) → Prop) (hh : A.handled = none) (hl : (l, listOf vs.toArray n) ∈ news) (hks : ∀ i m nx, J i m nx → (l, listOf vs.toArray n) ∈ nx)
    (F : Fr h₀ env.locals s.heap m₀) (N : News h₀ env.locals s.heap news) (hj : J 0 m₀ news)
    (hae : assignEach [t1, t2] env = [(false, assign t1 env), (false, assign t2 env)])
    (turn : ∀ i t v mu news₁ h tk I1 I2 io1 io2 (Qt : Flow → Shared → Prop), (∀ f s', TurnT h₀ env.locals s [(I1, io1), (I2, io2)] (fun m' nx => Same xs m' m₀ ∧ J (i + 1) m' nx) Q f s' → Qt f s') → vs[i]? = some v → J i (mm xs mu m₀) news₁ → (∀ p ∈ news₁, p.1 ≠ I1) → (∀ p ∈ news₁, p.1 ≠ I2) → I1 ≠ I2 → Fr h₀ env.locals h (mm xs mu m₀) → News h₀ env.locals h ((I1, io1) :: (I2, io2) :: news₁) →
      wpAny (model prog w) A (assign t1 env (.int (i : Int) t)) (fun _ s₂ => wpAny (model prog w) A (assign t2 env v) (fun _ s₃ => wpAny (model prog w) A (execs body env) Qt (fun _ _ => False) s₃) (fun _ _ => False) s₂) (fun _ _ => False) { s with heap := h, toks := tk })
    (done : ∀ mu news₁ h tk, J vs.length (mm xs mu m₀) news₁ → Fr h₀ env.locals h (mm xs mu m₀) → News h₀ env.locals h news₁ → Q .next { s with heap := h, toks := tk }) :
    wpAny (model prog w) A (call (.type "enumerate") [.ref l]) (fun xv s₁ => wpAny (model prog w) A (pyIter xv) (fun it s₂ => LoopT prog w A env (.Tuple [t1, t2] tk0 tpos) body Q it s₂) (fun _ _ => False) s₁) (fun _ _ => False) s := by
  have hls : s.heap.IsList l vs.toArray := ⟨_, (N _ hl).1, rfl, ⟨_, rfl⟩⟩
  have hlt : l < s.heap.objs.size := news_lt N _ hl
  have hLs : env.locals < s.heap.objs.size := F.ns.lt
  refine call_enumerate_list hls fun h' hE hI hsz hk => ?_
  refine wpAny_pyIter_enum hE ?_
  have W := WalksT.enumerate (prog := prog) (w := w) hh (s.heap.objs.size + 1) s.heap.objs.size l (Nat.succ_ne_self _) (Nat.ne_of_lt (Nat.lt_succ_of_lt hlt)) (Nat.ne_of_lt hlt) vs.toArray
  rw [show vs.toArray.size = vs.length from List.size_toArray ..] at W
  have F' : Fr h₀ env.locals h' m₀ := F.keeps hk
  have N' : News h₀ env.locals h' news := fun p hp => ⟨hk _ _ (N p hp).1, (N p hp).2⟩
  have none1 : ∀ b, s.heap.objs.size ≤ b → h₀.get? b = none := fun b hb => by
    cases e : h₀.get? b with
    | none => rfl
    | some o => exact absurd (Heap.lt_size (F.keep _ _ e)) (Nat.not_lt.mpr hb)
  have wrc : ∀ b ∈ [s.heap.objs.size + 1, s.heap.objs.size], s.heap.objs.size ≤ b := fun b hb => by
    rcases List.mem_cons.mp hb with rfl | hb
    · exact Nat.le_succ _
    · rw [List.mem_singleton.mp hb]; exact Nat.le_refl _
  refine loopT_of (s := { s with heap := h' }) (ks := [(l, listOf vs.toArray n)]) xs J W hh ?_ (fun b hb => none1 b (wrc b hb)) (fun p hp hm => absurd (news_lt N p hp) (Nat.not_lt.mpr (wrc _ hm))) ?_
    (fun i m nx h p hp => by rw [List.mem_singleton.mp hp]; exact hks i m nx h) ?_ ?_ ⟨⟨_, hE⟩, hI, hls.at fun o e => hk l o e⟩ F' N' hj hae ?_ done
  · intro hm
    rcases List.mem_cons.mp hm with e | hm
    · exact absurd hLs (by rw [e]; exact Nat.not_lt.mpr (Nat.le_succ _))
    rcases List.mem_cons.mp hm with e | hm
    · exact absurd hLs (by rw [e]; exact Nat.lt_irrefl _)
    · exact (N _ hl).2.1 (List.mem_singleton.mp hm).symm
  · intro b hb
    rcases List.mem_cons.mp hb with rfl | hb
    · exact .inl (.head _)
    rcases List.mem_cons.mp hb with rfl | hb
    · exact .inl (.tail _ (.head _))
    · rw [List.mem_singleton.mp hb]; exact .inr (.inr ⟨_, .head _⟩)
  · rintro i h ⟨⟨old, he⟩, ⟨oi, hoi, _⟩, _⟩
    have he' : ∃ oe : Obj, h.get? (s.heap.objs.size + 1) = some oe := ⟨_, he⟩
    obtain ⟨oe, he'⟩ := he'
    refine ⟨[(s.heap.objs.size + 1, oe), (s.heap.objs.size, oi)], rfl, fun p hp => ?_⟩
    rcases List.mem_cons.mp hp with rfl | hp
    · exact he'
    · rw [List.mem_singleton.mp hp]; exact hoi
  · rintro i vs' ⟨t, x, _, rfl⟩
    exact ⟨_, _, rfl⟩
  · intro i v0 v1 mu news₁ h tk own hi hP hJ how hn F1 N1
    obtain ⟨t, x, hx, e⟩ := hP
    simp only [Array.mk.injEq, List.cons.injEq, and_true] at e
    obtain ⟨rfl, rfl⟩ := e
    obtain ⟨⟨I1, io1⟩, ⟨I2, io2⟩, rfl⟩ : ∃ p q, own = [p, q] := by
      have hl := congrArg List.length how
      rw [List.length_map] at hl
      cases own with
      | nil => cases hl
      | cons p r => cases r with
        | nil => cases hl
        | cons q r => cases r with
          | nil => exact ⟨p, q, rfl⟩
          | cons _ _ => cases hl
    have h1 : I1 = s.heap.objs.size + 1 := (List.cons.inj how).1
    have h2 : I2 = s.heap.objs.size := (List.cons.inj (List.cons.inj how).2).1
    have ht := turn i t v1 mu news₁ h tk I1 I2 io1 io2 _ (fun _ _ h => h) (by simpa using hx) hJ (fun p hp e => hn p hp (by rw [e, h1]; exact .head _)) (fun p hp e => hn p hp (by rw [e, h2]; exact .tail _ (.head _))) (by rw [h1, h2]; exact Nat.succ_ne_self _) F1 N1
    refine wpAny_mono ht (fun _ s₂ h₂ => ?_) fun _ _ e => e
    refine wpAny_mono h₂ (fun _ s₃ h₃ => ?_) fun _ _ e => e
    refine wpAny_mono h₃ (fun f s₄ h₄ => ?_) fun _ _ e => e
    have fin : TurnTE h₀ env.locals s [(I1, io1), (I2, io2)] (fun m' nx => Same xs m' m₀ ∧ J (i + 1) m' nx) s₄ → TurnTE h₀ env.locals { s with heap := h' } [(I1, io1), (I2, io2)] (fun m' nx => Same xs m' m₀ ∧ J (i + 1) m' nx) s₄ := by
      rintro ⟨h', tk, m', nx, F₁, N₁, hn₁, hJ₁⟩
      exact ⟨h', tk, m', nx, F₁, N₁, hn₁, hJ₁⟩
    cases f with
    | ret v => exact h₄
    | brk => exact h₄
    | next => exact fin h₄
    | cont => exact fin h₄
end
/-! part D10 -/
set_option maxHeartbeats 1000000
set_option maxHeartbeats 1000000
/-- a builtin's name inside a comprehension -/
theorem comp_built {M : Model} {A : Around} {E : Value → Shared → Prop} {s : Shared} {K : Frag} {h₀ : Heap} {C : Addr} {mg mb : Str → Option Value} {scope : Scope} {cl : List (Str × Addr)} {env : Env} {p : Program} {loose : List Str} {mean : ExcName → Option Value} {x : Str} {pos : Pos} {v : Value} {Q : Value → Shared → Prop}
    (hk0 : ∀ b o, h₀.get? b = some o → s.heap.get? b = some o) (X : K.In h₀) (T : Top p loose mean mg mb h₀) (e : nsIn K mainGlobals x = some none) (hv : bootBuiltins x = some v) (hn : x ≠ "__name__") (h : Q v s) (hg : env.globals = mainGlobals := by rfl) (hb : env.builtins = builtinsNs := by rfl)
    (hk : (compEnvC scope cl C env).scope.kind = .function := by rfl) (hx : (compEnvC scope cl C env).kindOf x = some .globalImplicit := by rfl) (hd : (x == ("__debug__" : Str)) = false := by decide) :
    wpAny M A (eval (.Name x pos) (compEnvC scope cl C env)) Q E s :=
  Calls.Name_function_global hk hx (Calls.loadGlobal_builtin (env := compEnvC scope cl C env) (show s.heap.Ns env.globals mg from hg ▸ (T.keeps hk0).g) (mg_none_of X T.g e) (show s.heap.Ns env.builtins mb from hb ▸ (T.keeps hk0).b) ((T.builtins x hn).trans hv) h) hd
section
variable {w : World} {A : Around} {g : Heap} {Lf fa : Addr} {cd : Value} {m : Str → Option Value} {s : Shared} {Q : Flow → Shared → Prop} {o1 o2 o3 o4 o5 o6 o7 o8 : Obj} {TT nx : List (Addr × Obj)} {n : Nat}
  {A₀ : Around} {base : Heap} {p : Program} {loose : List Str} {mean : ExcName → Option Value} {mg mb : Str → Option Value} {a jA nA : Addr} {sl nl : List (Int × Tok)} {en : Nat}
theorem lS0 (lx : Lx w p loose mean mg mb A₀ base A g Lf fa cd) (F : Fr g Lf s.heap m) (N : News g Lf s.heap (LC Lf o1 o2 o3 o4 o5 o6 o7 o8 TT)) (nd : ND (LC Lf o1 o2 o3 o4 o5 o6 o7 o8 TT))
    (ms : m (Str.ofString "script") = some (.ref a)) (hl : g.IsList a (vals sl).toArray) (hsl : sl.length ≤ 63) {v1 : Option Value} (d1 : o1.data = .cell v1)
    (h : ∀ h' tk nA nl o1', Fr g Lf h' m → News g Lf h' ((nA, listOf (vals nl).toArray 0) :: LC Lf o1' o2 o3 o4 o5 o6 o7 o8 TT) → (∀ q ∈ LC Lf o1 o2 o3 o4 o5 o6 o7 o8 TT, q.1 ≠ nA) → o1'.data = .cell (some (.ref nA)) → 4 ≤ nl.length → nl.length ≤ 12 → Q .next { s with heap := h', toks := tk }) :
    wpAny (model PR w) A (exec (lS 0) (lEnv Lf fa cd)) Q (fun _ _ => False) s := by
  show wpAny _ _ (exec (.Assign _ _ _) _) _ _ _
  have X := lx.G.X
  have B := lx.G.B
  have TP := lx.G.T
  have hh := lx.hh
  have em := fix_name ms
  rw [em] at F
  refine abs_post fun Q1 hQ1 => ?_
  (repeat' ((fail_if_success (with_reducible first | (refine at1 ?_ ?_; constructor) | (refine at3 ?_ ?_; constructor) | show @ite Prop _ _ _ _ | (refine at6 ?_ ?_; constructor) )); (first | ((with_reducible first | refine' l_numbers ?N ?m ?d ?_ | refine' l_hours ?N ?m ?d ?_ | refine' l_job ?N ?m ?d ?_ | refine' l_k ?N ?m ?d ?_ | refine' l_begun ?N ?m ?d ?_ | refine' l_ends ?N ?m ?d ?_ | refine' l_times ?N ?m ?d ?_ | refine' l_most ?N ?m ?d ?_ ); (case N => assumption); (case m => first | assumption | (repeat (first | exact List.Mem.head _ | refine List.Mem.tail _ ?_))); (case d => assumption)) | ((with_reducible show wpAny _ _ (eval (Expr.Name _ _) (lEnv _ _ _)) _ _ _); refine' l_local ?F ?v ?_; (case F => assumption); (case v => (repeat (first | exact if_pos rfl | refine Eq.trans (if_neg (by decide)) ?_))))  | (k_unfold; (try dsimp only)) | (k_end; wrow_close) | walk1 | (dsimp only; walk1) | (leave1; walk_say "STEP leave1"; try dsimp only) | fail "no step")))
  rename Fr _ _ _ _ => F1
  rename News _ _ _ _ => N1
  refine slice_KA (items := (vals sl).toArray) (zs := vals (sl.take 8)) F1 N1 (hl.at fun o e => F1.keep _ o e) (.none) (.int _ _) (pick_upto (by decide)) ?_ (by with_unfolding_all rfl) (a_line hsl)
  intro D2 h2 F2 N2a l2
  clear F1 N1
  (repeat' ((fail_if_success (with_reducible first | (refine at1 ?_ ?_; constructor) | (refine at3 ?_ ?_; constructor) | show @ite Prop _ _ _ _ | (refine at6 ?_ ?_; constructor) )); (first | ((with_reducible first | refine' l_numbers ?N ?m ?d ?_ | refine' l_hours ?N ?m ?d ?_ | refine' l_job ?N ?m ?d ?_ | refine' l_k ?N ?m ?d ?_ | refine' l_begun ?N ?m ?d ?_ | refine' l_ends ?N ?m ?d ?_ | refine' l_times ?N ?m ?d ?_ | refine' l_most ?N ?m ?d ?_ ); (case N => assumption); (case m => first | assumption | (repeat (first | exact List.Mem.head _ | refine List.Mem.tail _ ?_))); (case d => assumption)) | ((with_reducible show wpAny _ _ (eval (Expr.Name _ _) (lEnv _ _ _)) _ _ _); refine' l_local ?F ?v ?_; (case F => assumption); (case v => (repeat (first | exact if_pos rfl | refine Eq.trans (if_neg (by decide)) ?_))))  | (k_unfold; (try dsimp only)) | (k_end; wrow_close) | walk1 | (dsimp only; walk1) | (leave1; walk_say "STEP leave1"; try dsimp only) | fail "no step")))
  refine kmk_add_lit (zs := vals ((48, _) :: (32, _) :: (19, _) :: (66, _) :: sl.take 8)) F2 N2a (News.isList N2a (.tail _ (.head _))) (News.isList N2a (.head _)) rfl ?_ (by show 4 + (vals (sl.take 8)).length ≤ _; rw [vals_len, sizeLine_eq, List.length_take]; omega)
  intro D3 h3 F3 N3a l3
  clear F2 N2a
  obtain ⟨nl, N3, hn1, hn2⟩ : ∃ nl : List (Int × Tok), News g Lf h3 ((D3, listOf (vals nl).toArray 0) :: LC Lf o1 o2 o3 o4 o5 o6 o7 o8 TT) ∧ 4 ≤ nl.length ∧ nl.length ≤ 12 := ⟨_, News.sub N3a fun q hq => by
    rcases List.mem_cons.mp hq with rfl | hq
    · exact .head _
    · exact .tail _ (.tail _ (.tail _ hq)), by rw [List.length_cons, List.length_cons, List.length_cons, List.length_cons]; omega, by rw [List.length_cons, List.length_cons, List.length_cons, List.length_cons, List.length_take]; omega⟩
  have off3 : ∀ q ∈ LC Lf o1 o2 o3 o4 o5 o6 o7 o8 TT, q.1 ≠ D3 := fun q hq => Nat.ne_of_lt (l3 q (.tail _ (.tail _ hq)))
  clear N3a
  (repeat' ((fail_if_success (with_reducible first | (refine at1 ?_ ?_; constructor) | (refine at3 ?_ ?_; constructor) | show @ite Prop _ _ _ _ | (refine at6 ?_ ?_; constructor) )); (first | ((with_reducible first | refine' l_numbers ?N ?m ?d ?_ | refine' l_hours ?N ?m ?d ?_ | refine' l_job ?N ?m ?d ?_ | refine' l_k ?N ?m ?d ?_ | refine' l_begun ?N ?m ?d ?_ | refine' l_ends ?N ?m ?d ?_ | refine' l_times ?N ?m ?d ?_ | refine' l_most ?N ?m ?d ?_ ); (case N => assumption); (case m => first | assumption | (repeat (first | exact List.Mem.head _ | refine List.Mem.tail _ ?_))); (case d => assumption)) | ((with_reducible show wpAny _ _ (eval (Expr.Name _ _) (lEnv _ _ _)) _ _ _); refine' l_local ?F ?v ?_; (case F => assumption); (case v => (repeat (first | exact if_pos rfl | refine Eq.trans (if_neg (by decide)) ?_))))  | (k_unfold; (try dsimp only)) | (k_end; wrow_close) | walk1 | (dsimp only; walk1) | (leave1; walk_say "STEP leave1"; try dsimp only) | fail "no step")))
  refine storeX_C F3 N3 (c := Lf + 1) rfl (updF_nd (pre := [_]) (ND.cons nd off3)) d1 ?_
  intro h5 o1' F5 N5 d1'
  refine hQ1 _ _ ?_
  exact h _ _ D3 nl o1' (by rw [← em] at F5; exact F5) N5 off3 d1' hn1 hn2
theorem lS2 (lx : Lx w p loose mean mg mb A₀ base A g Lf fa cd) (F : Fr g Lf s.heap m) (N : News g Lf s.heap nx)
    (i1 : (Lf + 1, o1) ∈ nx) (d1 : o1.data = .cell (some (.ref nA))) (iN : (nA, listOf (vals nl).toArray en) ∈ nx) (hnl : nl.length = n) (hn : n ≤ 12)
    (h : ∀ h' tk jA t1 t2 t3, Fr g Lf h' (putm (Str.ofString "jobs") (.ref jA) m) → News g Lf h' ((jA, rngObj 0 n 1 t1 t2 t3) :: nx) → (∀ q ∈ nx, q.1 ≠ jA) → Q .next { s with heap := h', toks := tk }) :
    wpAny (model PR w) A (exec (lS 2) (lEnv Lf fa cd)) Q (fun _ _ => False) s := by
  show wpAny _ _ (exec (.Assign _ _ _) _) _ _ _
  have X := lx.G.X
  have B := lx.G.B
  have TP := lx.G.T
  have hh := lx.hh
  refine abs_post fun Q1 hQ1 => ?_
  (repeat' ((fail_if_success (with_reducible first | (refine at1 ?_ ?_; constructor) | (refine at3 ?_ ?_; constructor) | show @ite Prop _ _ _ _ | (refine at6 ?_ ?_; constructor) )); (first | ((with_reducible first | refine' l_numbers ?N ?m ?d ?_ | refine' l_hours ?N ?m ?d ?_ | refine' l_job ?N ?m ?d ?_ | refine' l_k ?N ?m ?d ?_ | refine' l_begun ?N ?m ?d ?_ | refine' l_ends ?N ?m ?d ?_ | refine' l_times ?N ?m ?d ?_ | refine' l_most ?N ?m ?d ?_ ); (case N => assumption); (case m => first | assumption | (repeat (first | exact List.Mem.head _ | refine List.Mem.tail _ ?_))); (case d => assumption)) | ((with_reducible show wpAny _ _ (eval (Expr.Name _ _) (lEnv _ _ _)) _ _ _); refine' l_local ?F ?v ?_; (case F => assumption); (case v => (repeat (first | exact if_pos rfl | refine Eq.trans (if_neg (by decide)) ?_))))  | (k_unfold; (try dsimp only)) | (k_end; wrow_close) | walk1 | (dsimp only; walk1) | (leave1; walk_say "STEP leave1"; try dsimp only) | fail "no step")))
  refine len_V N iN hnl (by omega) ?_
  (repeat' ((fail_if_success (with_reducible first | (refine at1 ?_ ?_; constructor) | (refine at3 ?_ ?_; constructor) | show @ite Prop _ _ _ _ | (refine at6 ?_ ?_; constructor) )); (first | ((with_reducible first | refine' l_numbers ?N ?m ?d ?_ | refine' l_hours ?N ?m ?d ?_ | refine' l_job ?N ?m ?d ?_ | refine' l_k ?N ?m ?d ?_ | refine' l_begun ?N ?m ?d ?_ | refine' l_ends ?N ?m ?d ?_ | refine' l_times ?N ?m ?d ?_ | refine' l_most ?N ?m ?d ?_ ); (case N => assumption); (case m => first | assumption | (repeat (first | exact List.Mem.head _ | refine List.Mem.tail _ ?_))); (case d => assumption)) | ((with_reducible show wpAny _ _ (eval (Expr.Name _ _) (lEnv _ _ _)) _ _ _); refine' l_local ?F ?v ?_; (case F => assumption); (case v => (repeat (first | exact if_pos rfl | refine Eq.trans (if_neg (by decide)) ?_))))  | (k_unfold; (try dsimp only)) | (k_end; wrow_close) | walk1 | (dsimp only; walk1) | (leave1; walk_say "STEP leave1"; try dsimp only) | fail "no step")))
  refine range1_K F N fun jA h2 t1 t2 t3 tk2 F2 N2 off2 => ?_
  clear F N
  (repeat' ((fail_if_success (with_reducible first | (refine at1 ?_ ?_; constructor) | (refine at3 ?_ ?_; constructor) | show @ite Prop _ _ _ _ | (refine at6 ?_ ?_; constructor) )); (first | ((with_reducible first | refine' l_numbers ?N ?m ?d ?_ | refine' l_hours ?N ?m ?d ?_ | refine' l_job ?N ?m ?d ?_ | refine' l_k ?N ?m ?d ?_ | refine' l_begun ?N ?m ?d ?_ | refine' l_ends ?N ?m ?d ?_ | refine' l_times ?N ?m ?d ?_ | refine' l_most ?N ?m ?d ?_ ); (case N => assumption); (case m => first | assumption | (repeat (first | exact List.Mem.head _ | refine List.Mem.tail _ ?_))); (case d => assumption)) | ((with_reducible show wpAny _ _ (eval (Expr.Name _ _) (lEnv _ _ _)) _ _ _); refine' l_local ?F ?v ?_; (case F => assumption); (case v => (repeat (first | exact if_pos rfl | refine Eq.trans (if_neg (by decide)) ?_))))  | (k_unfold; (try dsimp only)) | (k_end; wrow_close) | walk1 | (dsimp only; walk1) | (leave1; walk_say "STEP leave1"; try dsimp only) | fail "no step")))
  rename Fr _ _ _ _ => F3
  rename News _ _ _ _ => N3
  refine hQ1 _ _ ?_
  exact h _ _ jA t1 t2 t3 F3 N3 off2
theorem lS4 (lx : Lx w p loose mean mg mb A₀ base A g Lf fa cd) (F : Fr g Lf s.heap m) (N : News g Lf s.heap nx)
    (h : ∀ h' tk D, Fr g Lf h' (putm (Str.ofString "needs") (.ref D) m) → News g Lf h' ((D, listOf (refsN []).toArray 0) :: nx) → (∀ q ∈ nx, q.1 ≠ D) → Q .next { s with heap := h', toks := tk }) :
    wpAny (model PR w) A (exec (lS 4) (lEnv Lf fa cd)) Q (fun _ _ => False) s := by
  show wpAny _ _ (exec (.Assign _ _ _) _) _ _ _
  have X := lx.G.X
  have B := lx.G.B
  have TP := lx.G.T
  have hh := lx.hh
  refine abs_post fun Q1 hQ1 => ?_
  (repeat' ((fail_if_success (with_reducible first | (refine at1 ?_ ?_; constructor) | (refine at3 ?_ ?_; constructor) | show @ite Prop _ _ _ _ | (refine at6 ?_ ?_; constructor) )); (first | ((with_reducible first | refine' l_numbers ?N ?m ?d ?_ | refine' l_hours ?N ?m ?d ?_ | refine' l_job ?N ?m ?d ?_ | refine' l_k ?N ?m ?d ?_ | refine' l_begun ?N ?m ?d ?_ | refine' l_ends ?N ?m ?d ?_ | refine' l_times ?N ?m ?d ?_ | refine' l_most ?N ?m ?d ?_ ); (case N => assumption); (case m => first | assumption | (repeat (first | exact List.Mem.head _ | refine List.Mem.tail _ ?_))); (case d => assumption)) | ((with_reducible show wpAny _ _ (eval (Expr.Name _ _) (lEnv _ _ _)) _ _ _); refine' l_local ?F ?v ?_; (case F => assumption); (case v => (repeat (first | exact if_pos rfl | refine Eq.trans (if_neg (by decide)) ?_))))  | (k_unfold; (try dsimp only)) | (k_end; wrow_close) | walk1 | (dsimp only; walk1) | (leave1; walk_say "STEP leave1"; try dsimp only) | fail "no step")))
  rename Fr _ _ _ _ => F2
  rename News _ _ _ _ => N2
  refine hQ1 _ _ ?_
  exact h _ _ _ F2 N2 (by first | assumption | (intro q hq; exact Nat.ne_of_lt ((by assumption : ∀ p ∈ nx, p.1 < _) q hq)) | (intro q hq; exact Nat.ne_of_lt (allLt_mem (by assumption) q hq)))
theorem lS3 (lx : Lx w p loose mean mg mb A₀ base A g Lf fa cd) (F : Fr g Lf s.heap m) (N : News g Lf s.heap (LC Lf o1 o2 o3 o4 o5 o6 o7 o8 TT)) (nd : ND (LC Lf o1 o2 o3 o4 o5 o6 o7 o8 TT))
    (d1 : o1.data = .cell (some (.ref nA))) {v2 : Option Value} (d2 : o2.data = .cell v2) (iN : (nA, listOf (vals nl).toArray en) ∈ TT) (hnl : nl.length = n) (hn : n ≤ 12)
    (h : ∀ h' tk hA hs e4 o2', Fr g Lf h' m → News g Lf h' ((hA, listOf (vals hs).toArray e4) :: LC Lf o1 o2' o3 o4 o5 o6 o7 o8 TT) → (∀ q ∈ LC Lf o1 o2 o3 o4 o5 o6 o7 o8 TT, q.1 ≠ hA) → o2'.data = .cell (some (.ref hA)) → hs.length = n → (∀ j : Int, 0 ≤ gI (hs.map (·.1)) j) → Q .next { s with heap := h', toks := tk }) :
    wpAny (model PR w) A (exec (lS 3) (lEnv Lf fa cd)) Q (fun _ _ => False) s := by
  show wpAny _ _ (exec (.Assign _ _ _) _) _ _ _
  have X := lx.G.X
  have B := lx.G.B
  have TP := lx.G.T
  have hh := lx.hh
  have mT : ∀ q ∈ TT, q ∈ LC Lf o1 o2 o3 o4 o5 o6 o7 o8 TT := fun q hq => .tail _ (.tail _ (.tail _ (.tail _ (.tail _ (.tail _ (.tail _ (.tail _ hq)))))))
  refine abs_post fun Q1 hQ1 => ?_
  walk1
  refine eval_comp (cl := []) (fun _ => true) (fun v y => ∃ k t t', v = Value.int k t ∧ y = Value.int ((fun x => if x.fdiv 16 < 0 then -x.fdiv 16 else x.fdiv 16) k) t') rfl (by decide) rfl (by decide) rfl ?_
  (repeat' ((fail_if_success (with_reducible first | (refine at1 ?_ ?_; constructor) | (refine at3 ?_ ?_; constructor) | show @ite Prop _ _ _ _ | (refine at6 ?_ ?_; constructor) )); (first | ((with_reducible first | refine' l_numbers ?N ?m ?d ?_ | refine' l_hours ?N ?m ?d ?_ | refine' l_job ?N ?m ?d ?_ | refine' l_k ?N ?m ?d ?_ | refine' l_begun ?N ?m ?d ?_ | refine' l_ends ?N ?m ?d ?_ | refine' l_times ?N ?m ?d ?_ | refine' l_most ?N ?m ?d ?_ ); (case N => assumption); (case m => first | assumption | (repeat (first | exact List.Mem.head _ | refine List.Mem.tail _ ?_))); (case d => assumption)) | ((with_reducible show wpAny _ _ (eval (Expr.Name _ _) (lEnv _ _ _)) _ _ _); refine' l_local ?F ?v ?_; (case F => assumption); (case v => (repeat (first | exact if_pos rfl | refine Eq.trans (if_neg (by decide)) ?_))))  | (k_unfold; (try dsimp only)) | (k_end; wrow_close) | walk1 | (dsimp only; walk1) | (leave1; walk_say "STEP leave1"; try dsimp only) | fail "no step")))
  refine comp_list (vs := vals nl) (n := en) hh (mT _ iN) F N (v_line (hnl ▸ hn)) ?q ?_
  case q =>
    refine ⟨fun C i v s₃ m₃ E' hP hc => tests_nil ⟨rfl, _, rfl⟩, ?_⟩
    intro C i' v s₃ m₃ E' hP _ hc
    obtain ⟨q, hq, rfl⟩ := vals_get hP
    have hns := hc.ns
    have hvr := hc.var
    have hkp := hc.keep
    clear F N hc
    (repeat' ((fail_if_success (with_reducible first | (refine at1 ?_ ?_; constructor) | (refine at3 ?_ ?_; constructor) | show @ite Prop _ _ _ _ | (refine at6 ?_ ?_; constructor) )); (first | ((with_reducible show wpAny _ _ (eval (Expr.Name _ _) (compEnvC _ _ _ _)) _ _ _); first | (refine' comp_var ?k1 ?k2 ?_ ?k3 ?k4 ?k5; (case k2 => with_reducible assumption); (case k1 => with_reducible assumption); (case k3 => exact rfl); (case k4 => exact rfl); (case k5 => decide)) | (refine' comp_free ?k1 ?k2 ?_ ?k3 ?k4 ?k5 ?k6; (case k3 => exact rfl); (case k1 => with_reducible assumption); (case k2 => with_reducible assumption); (case k4 => exact rfl); (case k5 => exact rfl); (case k6 => decide))) | (k_unfold; (try dsimp only)) | (k_end; wrow_close) | walk1 | (dsimp only; walk1) | (leave1; walk_say "STEP leave1"; try dsimp only) | fail "no step")))
    refine comp_built hkp X TP (by k_is) (by boot_fast) (by decide) ?_
    (repeat' ((fail_if_success (with_reducible first | (refine at1 ?_ ?_; constructor) | (refine at3 ?_ ?_; constructor) | show @ite Prop _ _ _ _ | (refine at6 ?_ ?_; constructor) )); (first | ((with_reducible show wpAny _ _ (eval (Expr.Name _ _) (compEnvC _ _ _ _)) _ _ _); first | (refine' comp_var ?k1 ?k2 ?_ ?k3 ?k4 ?k5; (case k2 => with_reducible assumption); (case k1 => with_reducible assumption); (case k3 => exact rfl); (case k4 => exact rfl); (case k5 => decide)) | (refine' comp_free ?k1 ?k2 ?_ ?k3 ?k4 ?k5 ?k6; (case k3 => exact rfl); (case k1 => with_reducible assumption); (case k2 => with_reducible assumption); (case k4 => exact rfl); (case k5 => exact rfl); (case k6 => decide))) | (k_unfold; (try dsimp only)) | (k_end; wrow_close) | walk1 | (dsimp only; walk1) | (leave1; walk_say "STEP leave1"; try dsimp only) | fail "no step")))
  intro D5 h5 tk5 ys5 k5 F5 N5 hD5 hpr
  rw [filter_all] at hpr
  obtain ⟨l', e1', e2'⟩ := paired_ints (f := fun x => if x.fdiv 16 < 0 then -x.fdiv 16 else x.fdiv 16) hpr
  have hys : ys5 = (vals l').toArray := by apply Array.toList_inj.mp; rw [e1']
  subst hys
  have hll : l'.length = nl.length := by have := congrArg List.length e2'; simpa using this
  clear F N
  (repeat' ((fail_if_success (with_reducible first | (refine at1 ?_ ?_; constructor) | (refine at3 ?_ ?_; constructor) | show @ite Prop _ _ _ _ | (refine at6 ?_ ?_; constructor) )); (first | ((with_reducible first | refine' l_numbers ?N ?m ?d ?_ | refine' l_hours ?N ?m ?d ?_ | refine' l_job ?N ?m ?d ?_ | refine' l_k ?N ?m ?d ?_ | refine' l_begun ?N ?m ?d ?_ | refine' l_ends ?N ?m ?d ?_ | refine' l_times ?N ?m ?d ?_ | refine' l_most ?N ?m ?d ?_ ); (case N => assumption); (case m => first | assumption | (repeat (first | exact List.Mem.head _ | refine List.Mem.tail _ ?_))); (case d => assumption)) | ((with_reducible show wpAny _ _ (eval (Expr.Name _ _) (lEnv _ _ _)) _ _ _); refine' l_local ?F ?v ?_; (case F => assumption); (case v => (repeat (first | exact if_pos rfl | refine Eq.trans (if_neg (by decide)) ?_))))  | (k_unfold; (try dsimp only)) | (k_end; wrow_close) | walk1 | (dsimp only; walk1) | (leave1; walk_say "STEP leave1"; try dsimp only) | fail "no step")))
  refine storeX_C F5 N5 (c := Lf + 2) rfl (updF_nd (pre := [_, _]) (ND.cons nd hD5)) d2 ?_
  intro h2 o2' F2 N2 d2'
  refine hQ1 _ _ ?_
  refine h _ _ D5 l' k5 o2' F2 N2 hD5 d2' (by omega) fun j => ?_
  rw [e2']
  unfold gI
  rw [List.getD_eq_getElem?_getD, List.getElem?_map]
  cases nl[j.toNat]? with
  | none => exact Int.le_refl _
  | some q =>
    show 0 ≤ if q.1.fdiv 16 < 0 then -q.1.fdiv 16 else q.1.fdiv 16
    split
    · omega
    · omega
end
/-! part D11 -/
set_option maxHeartbeats 1000000
set_option maxHeartbeats 1000000
section
variable {w : World} {A : Around} {g : Heap} {Lf fa : Addr} {cd : Value} {m : Str → Option Value} {s : Shared} {Q : Flow → Shared → Prop} {o1 o2 o3 o4 o5 o6 o7 o8 : Obj} {TT nx : List (Addr × Obj)} {n : Nat}
  {A₀ : Around} {base : Heap} {p : Program} {loose : List Str} {mean : ExcName → Option Value} {mg mb : Str → Option Value} {a nA : Addr} {sl nl : List (Int × Tok)} {en : Nat}
theorem lS1 (lx : Lx w p loose mean mg mb A₀ base A g Lf fa cd) (F : Fr g Lf s.heap m) (N : News g Lf s.heap ((nA, listOf (vals nl).toArray en) :: LC Lf o1 o2 o3 o4 o5 o6 o7 o8 TT)) (nd : ND ((nA, listOf (vals nl).toArray en) :: LC Lf o1 o2 o3 o4 o5 o6 o7 o8 TT))
    (ms : m (Str.ofString "script") = some (.ref a)) (hl : g.IsList a (vals sl).toArray) (hsl : sl.length ≤ 63) (d1 : o1.data = .cell (some (.ref nA))) (hnl : nl.length = n) (hn4 : 4 ≤ n) (hn : n ≤ 12)
    (h : ∀ h' tk m' nl', Same ["place", "x"] m' m → Fr g Lf h' m' → News g Lf h' ((nA, listOf (vals nl').toArray en) :: LC Lf o1 o2 o3 o4 o5 o6 o7 o8 TT) → nl'.length = n → Q .next { s with heap := h', toks := tk }) :
    wpAny (model PR w) A (exec (lS 1) (lEnv Lf fa cd)) Q (fun _ _ => False) s := by
  show wpAny _ _ (exec (.For _ _ _ _ _) _) _ _ _
  have X := lx.G.X
  have B := lx.G.B
  have TP := lx.G.T
  have hh := lx.hh
  have em := fix_name ms
  rw [em] at F
  refine forT_rule ?_
  (repeat' ((fail_if_success (with_reducible first | (refine at1 ?_ ?_; constructor) | (refine at3 ?_ ?_; constructor) | show @ite Prop _ _ _ _ | (refine at6 ?_ ?_; constructor) )); (first | ((with_reducible first | refine' l_numbers ?N ?m ?d ?_ | refine' l_hours ?N ?m ?d ?_ | refine' l_job ?N ?m ?d ?_ | refine' l_k ?N ?m ?d ?_ | refine' l_begun ?N ?m ?d ?_ | refine' l_ends ?N ?m ?d ?_ | refine' l_times ?N ?m ?d ?_ | refine' l_most ?N ?m ?d ?_ ); (case N => assumption); (case m => first | assumption | (repeat (first | exact List.Mem.head _ | refine List.Mem.tail _ ?_))); (case d => assumption)) | ((with_reducible show wpAny _ _ (eval (Expr.Name _ _) (lEnv _ _ _)) _ _ _); refine' l_local ?F ?v ?_; (case F => assumption); (case v => (repeat (first | exact if_pos rfl | refine Eq.trans (if_neg (by decide)) ?_))))  | (k_unfold; (try dsimp only)) | (k_end; wrow_close) | walk1 | (dsimp only; walk1) | (leave1; walk_say "STEP leave1"; try dsimp only) | fail "no step")))
  rename Fr _ _ _ _ => F1
  rename News _ _ _ _ => N1
  refine slice_KA (items := (vals sl).toArray) (zs := vals (sl.drop 8)) F1 N1 (hl.at fun o e => F1.keep _ o e) (.int _ _) (.none) (pick_from (by decide)) ?_ (by with_unfolding_all rfl) (a_line hsl)
  intro D2 h2 F2 N2 l2
  clear F1 N1
  (repeat' ((fail_if_success (with_reducible first | (refine at1 ?_ ?_; constructor) | (refine at3 ?_ ?_; constructor) | show @ite Prop _ _ _ _ | (refine at6 ?_ ?_; constructor) )); (first | ((with_reducible first | refine' l_numbers ?N ?m ?d ?_ | refine' l_hours ?N ?m ?d ?_ | refine' l_job ?N ?m ?d ?_ | refine' l_k ?N ?m ?d ?_ | refine' l_begun ?N ?m ?d ?_ | refine' l_ends ?N ?m ?d ?_ | refine' l_times ?N ?m ?d ?_ | refine' l_most ?N ?m ?d ?_ ); (case N => assumption); (case m => first | assumption | (repeat (first | exact List.Mem.head _ | refine List.Mem.tail _ ?_))); (case d => assumption)) | ((with_reducible show wpAny _ _ (eval (Expr.Name _ _) (lEnv _ _ _)) _ _ _); refine' l_local ?F ?v ?_; (case F => assumption); (case v => (repeat (first | exact if_pos rfl | refine Eq.trans (if_neg (by decide)) ?_))))  | (k_unfold; (try dsimp only)) | (k_end; wrow_close) | walk1 | (dsimp only; walk1) | (leave1; walk_say "STEP leave1"; try dsimp only) | fail "no step")))
  have off2 : ∀ q ∈ (nA, listOf (vals nl).toArray en) :: LC Lf o1 o2 o3 o4 o5 o6 o7 o8 TT, q.1 ≠ D2 := fun q hq => Nat.ne_of_lt (l2 q hq)
  have nd2 := ND.cons (p := (D2, listOf (vals (sl.drop 8)).toArray 0)) nd off2
  refine iter_enum (vs := vals (sl.drop 8)) (n := 0) ["place", "x"] (fun i m' nx => JS1 D2 (listOf (vals (sl.drop 8)).toArray 0) nA en Lf o1 o2 o3 o4 o5 o6 o7 o8 TT n nx) hh (.head _) ?_ F2 N2 ⟨nl, hnl⟩ rfl ?_ ?_
  · rintro i m' nx ⟨nl', _⟩
    exact .head _
  · rintro i t v mu nx h3 tk3 I1 I2 io1 io2 Qt hQt hv ⟨nl', hnl'⟩ hn1 hn2 h12 F3 N3
    clear F2 N2
    obtain ⟨q, hq, rfl⟩ := vals_get hv
    have nd3 : ND ((I1, io1) :: (I2, io2) :: (D2, listOf (vals (sl.drop 8)).toArray 0) :: (nA, listOf (vals nl').toArray en) :: LC Lf o1 o2 o3 o4 o5 o6 o7 o8 TT) := ND.cons (ND.cons (nd2.same rfl) hn2) (List.forall_mem_cons.mpr ⟨h12.symm, hn1⟩)
    refine wpAny_assign_Name (storeX_L F3 N3 fun h4 F4 N4 => ?_)
    clear F3 N3
    refine wpAny_assign_Name (storeX_L F4 N4 fun h5 F5 N5 => ?_)
    clear F4 N4
    (repeat' ((fail_if_success (with_reducible first | (refine at1 ?_ ?_; constructor) | (refine at3 ?_ ?_; constructor) | show @ite Prop _ _ _ _ | (refine at6 ?_ ?_; constructor) )); (first | ((with_reducible first | refine' l_numbers ?N ?m ?d ?_ | refine' l_hours ?N ?m ?d ?_ | refine' l_job ?N ?m ?d ?_ | refine' l_k ?N ?m ?d ?_ | refine' l_begun ?N ?m ?d ?_ | refine' l_ends ?N ?m ?d ?_ | refine' l_times ?N ?m ?d ?_ | refine' l_most ?N ?m ?d ?_ ); (case N => assumption); (case m => first | assumption | (repeat (first | exact List.Mem.head _ | refine List.Mem.tail _ ?_))); (case d => assumption)) | ((with_reducible show wpAny _ _ (eval (Expr.Name _ _) (lEnv _ _ _)) _ _ _); refine' l_local ?F ?v ?_; (case F => assumption); (case v => (repeat (first | exact if_pos rfl | refine Eq.trans (if_neg (by decide)) ?_))))  | (k_unfold; (try dsimp only)) | (k_end; wrow_close) | walk1 | (dsimp only; walk1) | (leave1; walk_say "STEP leave1"; try dsimp only) | fail "no step")))
    refine len_V N5 (.tail _ (.tail _ (.tail _ (.head _)))) hnl' (by omega) ?_
    have hn0 : (n : Int) ≠ 0 := by omega
    (repeat' ((fail_if_success (with_reducible first | (refine at1 ?_ ?_; constructor) | (refine at3 ?_ ?_; constructor) | show @ite Prop _ _ _ _ | (refine at6 ?_ ?_; constructor) )); (first | ((with_reducible first | refine' l_numbers ?N ?m ?d ?_ | refine' l_hours ?N ?m ?d ?_ | refine' l_job ?N ?m ?d ?_ | refine' l_k ?N ?m ?d ?_ | refine' l_begun ?N ?m ?d ?_ | refine' l_ends ?N ?m ?d ?_ | refine' l_times ?N ?m ?d ?_ | refine' l_most ?N ?m ?d ?_ ); (case N => assumption); (case m => first | assumption | (repeat (first | exact List.Mem.head _ | refine List.Mem.tail _ ?_))); (case d => assumption)) | ((with_reducible show wpAny _ _ (eval (Expr.Name _ _) (lEnv _ _ _)) _ _ _); refine' l_local ?F ?v ?_; (case F => assumption); (case v => (repeat (first | exact if_pos rfl | refine Eq.trans (if_neg (by decide)) ?_))))  | (k_unfold; (try dsimp only)) | (k_end; wrow_close) | walk1 | (dsimp only; walk1) | (leave1; walk_say "STEP leave1"; try dsimp only) | fail "no step")))
    have hr1 : 0 ≤ (i : Int).fmod n := Int.fmod_nonneg_of_pos _ (by omega)
    have hr2 : (i : Int).fmod n < n := Int.fmod_lt_of_pos _ (by omega)
    generalize (i : Int).fmod n = r at hr1 hr2
    have ir : Ix r n := ⟨hr1, hr2, by omega⟩
    refine get_V N5 (.tail _ (.tail _ (.tail _ (.head _)))) hnl' ir (fun t0 => ?_)
    (repeat' ((fail_if_success (with_reducible first | (refine at1 ?_ ?_; constructor) | (refine at3 ?_ ?_; constructor) | show @ite Prop _ _ _ _ | (refine at6 ?_ ?_; constructor) )); (first | ((with_reducible first | refine' l_numbers ?N ?m ?d ?_ | refine' l_hours ?N ?m ?d ?_ | refine' l_job ?N ?m ?d ?_ | refine' l_k ?N ?m ?d ?_ | refine' l_begun ?N ?m ?d ?_ | refine' l_ends ?N ?m ?d ?_ | refine' l_times ?N ?m ?d ?_ | refine' l_most ?N ?m ?d ?_ ); (case N => assumption); (case m => first | assumption | (repeat (first | exact List.Mem.head _ | refine List.Mem.tail _ ?_))); (case d => assumption)) | ((with_reducible show wpAny _ _ (eval (Expr.Name _ _) (lEnv _ _ _)) _ _ _); refine' l_local ?F ?v ?_; (case F => assumption); (case v => (repeat (first | exact if_pos rfl | refine Eq.trans (if_neg (by decide)) ?_))))  | (k_unfold; (try dsimp only)) | (k_end; wrow_close) | walk1 | (dsimp only; walk1) | (leave1; walk_say "STEP leave1"; try dsimp only) | fail "no step")))
    refine set_V F5 N5 hnl' ir (upd_nd (pre := [_, _, _]) nd3) ?_
    intro h6 F6 N6
    clear F5 N5
    dsimp only [List.cons_append, List.nil_append] at N6
    (repeat' ((fail_if_success (with_reducible first | (refine at1 ?_ ?_; constructor) | (refine at3 ?_ ?_; constructor) | show @ite Prop _ _ _ _ | (refine at6 ?_ ?_; constructor) )); (first | ((with_reducible first | refine' l_numbers ?N ?m ?d ?_ | refine' l_hours ?N ?m ?d ?_ | refine' l_job ?N ?m ?d ?_ | refine' l_k ?N ?m ?d ?_ | refine' l_begun ?N ?m ?d ?_ | refine' l_ends ?N ?m ?d ?_ | refine' l_times ?N ?m ?d ?_ | refine' l_most ?N ?m ?d ?_ ); (case N => assumption); (case m => first | assumption | (repeat (first | exact List.Mem.head _ | refine List.Mem.tail _ ?_))); (case d => assumption)) | ((with_reducible show wpAny _ _ (eval (Expr.Name _ _) (lEnv _ _ _)) _ _ _); refine' l_local ?F ?v ?_; (case F => assumption); (case v => (repeat (first | exact if_pos rfl | refine Eq.trans (if_neg (by decide)) ?_))))  | (k_unfold; (try dsimp only)) | (k_end; wrow_close) | walk1 | (dsimp only; walk1) | (leave1; walk_say "STEP leave1"; try dsimp only) | fail "no step")))
    refine hQt _ _ (TurnT.next F6 N6 (fun p hp => hp) (fun p hp => ?_) ⟨Same.put' (Same.put' same_of_mm), _, by rw [List.length_set]; exact hnl'⟩)
    have h1 := off_same hn1 (l' := (D2, listOf (vals (sl.drop 8)).toArray 0) :: (nA, listOf (vals (nl'.set r.toNat _)).toArray en) :: LC Lf o1 o2 o3 o4 o5 o6 o7 o8 TT) rfl p hp
    have h2 := off_same hn2 (l' := (D2, listOf (vals (sl.drop 8)).toArray 0) :: (nA, listOf (vals (nl'.set r.toNat _)).toArray en) :: LC Lf o1 o2 o3 o4 o5 o6 o7 o8 TT) rfl p hp
    intro hm
    rcases List.mem_cons.mp hm with e | hm
    · exact h1 e
    · exact h2 (List.mem_singleton.mp hm)
  · rintro mu nx h3 tk3 ⟨nl', hnl'⟩ F3 N3
    exact h _ _ _ nl' (same_of_mm.trans (Same.of_eq em.symm)) F3 (News.sub N3 fun q hq => .tail _ hq) hnl'
end
/-! part D12 -/
set_option maxHeartbeats 1000000
set_option maxHeartbeats 1000000
theorem paired_bound {f : Int → Int} {P : Int → Prop} : ∀ {l zs : List Value}, Paired (fun v y => ∃ k t t', v = Value.int k t ∧ y = Value.int (f k) t') l zs → (∀ v ∈ l, ∀ k t, v = Value.int k t → P (f k)) → ∃ l' : List (Int × Tok), zs = vals l' ∧ l'.length = l.length ∧ ∀ q ∈ l', P q.1
  | [], _, h, _ => by cases h; exact ⟨[], rfl, rfl, (fun _ h => nomatch h)⟩
  | v :: l, _, h, hb => by
    cases h with
    | cons h1 h2 =>
      obtain ⟨k, t, t', e, rfl⟩ := h1
      obtain ⟨l', e1, e2, e3⟩ := paired_bound h2 fun x hx => hb x (.tail _ hx)
      refine ⟨(f k, t') :: l', by rw [e1]; rfl, by rw [List.length_cons, List.length_cons, e2], fun q hq => ?_⟩
      rcases List.mem_cons.mp hq with rfl | hq
      · exact hb v (.head _) k t e
      · exact e3 q hq
theorem rep_flat (l : List (Int × Tok)) : ∀ n : Nat, (List.replicate n (vals l)).flatten = vals (List.replicate n l).flatten
  | 0 => rfl
  | n + 1 => by
    rw [List.replicate_succ, List.replicate_succ, List.flatten_cons, List.flatten_cons, rep_flat l n]
    unfold vals
    rw [List.map_append]
theorem min_val {i : Nat} {t u : Tok} : ∃ (c : Nat) (tc : Tok), (if (i : Int) < 4 then Value.int i u else Value.int 4 t) = Value.int c tc ∧ c ≤ 4 ∧ c ≤ i := by
  by_cases e : (i : Int) < 4
  · exact ⟨i, u, if_pos e, by omega, Nat.le_refl _⟩
  · exact ⟨4, t, if_neg e, Nat.le_refl _, by omega⟩
theorem gobjs_snoc (NL : List Gr) (x : Gr) (TT : List (Addr × Obj)) : gobjs (NL ++ [x]) ++ TT = gobjs NL ++ (x.a, listOf (vals x.ps).toArray x.n) :: TT := by
  unfold gobjs; rw [List.map_append, List.append_assoc]; rfl
def lV (i : Nat) : Stmt := nthS (bodyS (lS 5)) i
section
variable {w : World} {A : Around} {g : Heap} {Lf fa : Addr} {cd : Value} {m : Str → Option Value} {s : Shared} {Q : Flow → Shared → Prop} {o1 o2 o3 o4 o5 o6 o7 o8 : Obj} {TT nx : List (Addr × Obj)} {n i : Nat}
  {A₀ : Around} {base : Heap} {p : Program} {loose : List Str} {mean : ExcName → Option Value} {mg mb : Str → Option Value} {zA nA jA : Addr} {nl : List (Int × Tok)} {en e : Nat} {t1 t2 t3 tj : Tok} {NL : List Gr}
theorem lV0 (lx : Lx w p loose mean mg mb A₀ base A g Lf fa cd) (F : Fr g Lf s.heap m) (N : News g Lf s.heap nx)
    (i1 : (Lf + 1, o1) ∈ nx) (i3 : (Lf + 3, o3) ∈ nx) (d1 : o1.data = .cell (some (.ref zA))) (d3 : o3.data = .cell (some (.int i tj))) (iz : (zA, listOf (vals nl).toArray en) ∈ nx) (hnl : nl.length = n) (hn : n ≤ 12) (hi : i < n)
    (h : ∀ h' tk D ps kd, Fr g Lf h' (putm (Str.ofString "near") (.ref D) m) → News g Lf h' ((D, listOf (vals ps).toArray kd) :: nx) → (∀ q ∈ nx, q.1 ≠ D) → ps.length ≤ 4 → (∀ q ∈ ps, 0 ≤ q.1 ∧ q.1 < i) → Q .next { s with heap := h', toks := tk }) :
    wpAny (model PR w) A (exec (lV 0) (lEnv Lf fa cd)) Q (fun _ _ => False) s := by
  show wpAny _ _ (exec (.Assign _ _ _) _) _ _ _
  have X := lx.G.X
  have B := lx.G.B
  have TP := lx.G.T
  have hh := lx.hh
  refine abs_post fun Q1 hQ1 => ?_
  refine asg_comp (cl := [(Str.ofString "numbers", Lf + 1), (Str.ofString "job", Lf + 3)]) (tI (fun k => decide (((gI (nl.map (·.1)) i).fdiv (2 ^ k.toNat)).fmod 2 = 1))) (fun v y => ∃ k t t', v = Value.int k t ∧ y = Value.int ((fun k => (i : Int) - 1 - k) k) t') rfl rfl (by decide) rfl (by decide) rfl rfl rfl ?_
  (repeat' ((fail_if_success (with_reducible first | (refine at1 ?_ ?_; constructor) | (refine at3 ?_ ?_; constructor) | show @ite Prop _ _ _ _ | (refine at6 ?_ ?_; constructor) )); (first | ((with_reducible first | refine' l_numbers ?N ?m ?d ?_ | refine' l_hours ?N ?m ?d ?_ | refine' l_job ?N ?m ?d ?_ | refine' l_k ?N ?m ?d ?_ | refine' l_begun ?N ?m ?d ?_ | refine' l_ends ?N ?m ?d ?_ | refine' l_times ?N ?m ?d ?_ | refine' l_most ?N ?m ?d ?_ ); (case N => assumption); (case m => first | assumption | (repeat (first | exact List.Mem.head _ | refine List.Mem.tail _ ?_))); (case d => assumption)) | ((with_reducible show wpAny _ _ (eval (Expr.Name _ _) (lEnv _ _ _)) _ _ _); refine' l_local ?F ?v ?_; (case F => assumption); (case v => (repeat (first | exact if_pos rfl | refine Eq.trans (if_neg (by decide)) ?_))))  | (k_unfold; (try dsimp only)) | (k_end; wrow_close) | walk1 | (dsimp only; walk1) | (leave1; walk_say "STEP leave1"; try dsimp only) | fail "no step")))
  refine min_two_ints hh fun h2 tk2 hk2 => ?_
  have F2 := F.keeps hk2
  have N2 : News g Lf h2 nx := fun q hq => ⟨hk2 _ _ (N q hq).1, (N q hq).2⟩
  clear F N
  obtain ⟨c, tc, ec, hc4, hci⟩ := min_val (i := i) (t := _) (u := tj)
  rw [ec]
  (repeat' ((fail_if_success (with_reducible first | (refine at1 ?_ ?_; constructor) | (refine at3 ?_ ?_; constructor) | show @ite Prop _ _ _ _ | (refine at6 ?_ ?_; constructor) )); (first | ((with_reducible first | refine' l_numbers ?N ?m ?d ?_ | refine' l_hours ?N ?m ?d ?_ | refine' l_job ?N ?m ?d ?_ | refine' l_k ?N ?m ?d ?_ | refine' l_begun ?N ?m ?d ?_ | refine' l_ends ?N ?m ?d ?_ | refine' l_times ?N ?m ?d ?_ | refine' l_most ?N ?m ?d ?_ ); (case N => assumption); (case m => first | assumption | (repeat (first | exact List.Mem.head _ | refine List.Mem.tail _ ?_))); (case d => assumption)) | ((with_reducible show wpAny _ _ (eval (Expr.Name _ _) (lEnv _ _ _)) _ _ _); refine' l_local ?F ?v ?_; (case F => assumption); (case v => (repeat (first | exact if_pos rfl | refine Eq.trans (if_neg (by decide)) ?_))))  | (k_unfold; (try dsimp only)) | (k_end; wrow_close) | walk1 | (dsimp only; walk1) | (leave1; walk_say "STEP leave1"; try dsimp only) | fail "no step")))
  refine range1_K F2 N2 fun rA h3 u1 u2 u3 tk3 F3 N3 off3 => ?_
  clear F2 N2
  refine compA_jobs (n := c) hh (N3 _ (.head _)).1 (Nat.le_trans hc4 (by decide)) F3 N3 ?q ?_
  case q =>
    refine ⟨?_, ?_⟩
    · intro C i' v s₃ m₃ E' hP hc
      obtain ⟨hi', t, rfl⟩ := hP
      have hns := hc.ns
      have hvr := hc.var
      have hc1 := hc.led (Lf + 1, o1) (.tail _ i1)
      have hc3 := hc.led (Lf + 3, o3) (.tail _ i3)
      have hlz : s₃.heap.IsList zA (vals nl).toArray := ⟨_, hc.led (zA, _) (.tail _ iz), rfl, ⟨_, rfl⟩⟩
      dsimp only at hc1 hc3
      clear F3 N3 hc
      refine tests_one ?_
      (repeat' ((fail_if_success (with_reducible first | (refine at1 ?_ ?_; constructor) | (refine at3 ?_ ?_; constructor) | show @ite Prop _ _ _ _ | (refine at6 ?_ ?_; constructor) )); (first | ((with_reducible show wpAny _ _ (eval (Expr.Name _ _) (compEnvC _ _ _ _)) _ _ _); first | (refine' comp_var ?k1 ?k2 ?_ ?k3 ?k4 ?k5; (case k2 => with_reducible assumption); (case k1 => with_reducible assumption); (case k3 => exact rfl); (case k4 => exact rfl); (case k5 => decide)) | (refine' comp_free ?k1 ?k2 ?_ ?k3 ?k4 ?k5 ?k6; (case k3 => exact rfl); (case k1 => with_reducible assumption); (case k2 => with_reducible assumption); (case k4 => exact rfl); (case k5 => exact rfl); (case k6 => decide))) | (k_unfold; (try dsimp only)) | (k_end; wrow_close) | walk1 | (dsimp only; walk1) | (leave1; walk_say "STEP leave1"; try dsimp only) | fail "no step")))
      refine item_V hlz hnl (Ix.of hi (by omega)) (fun ta => ?_)
      (repeat' ((fail_if_success (with_reducible first | (refine at1 ?_ ?_; constructor) | (refine at3 ?_ ?_; constructor) | show @ite Prop _ _ _ _ | (refine at6 ?_ ?_; constructor) )); (first | ((with_reducible show wpAny _ _ (eval (Expr.Name _ _) (compEnvC _ _ _ _)) _ _ _); first | (refine' comp_var ?k1 ?k2 ?_ ?k3 ?k4 ?k5; (case k2 => with_reducible assumption); (case k1 => with_reducible assumption); (case k3 => exact rfl); (case k4 => exact rfl); (case k5 => decide)) | (refine' comp_free ?k1 ?k2 ?_ ?k3 ?k4 ?k5 ?k6; (case k3 => exact rfl); (case k1 => with_reducible assumption); (case k2 => with_reducible assumption); (case k4 => exact rfl); (case k5 => exact rfl); (case k6 => decide))) | (k_unfold; (try dsimp only)) | (k_end; wrow_close) | walk1 | (dsimp only; walk1) | (leave1; walk_say "STEP leave1"; try dsimp only) | fail "no step")))
    · intro C i' v s₃ m₃ E' hP _ hc
      obtain ⟨hi', t, rfl⟩ := hP
      have hns := hc.ns
      have hvr := hc.var
      have hc3 := hc.led (Lf + 3, o3) (.tail _ i3)
      dsimp only at hc3
      clear F3 N3 hc
      (repeat' ((fail_if_success (with_reducible first | (refine at1 ?_ ?_; constructor) | (refine at3 ?_ ?_; constructor) | show @ite Prop _ _ _ _ | (refine at6 ?_ ?_; constructor) )); (first | ((with_reducible show wpAny _ _ (eval (Expr.Name _ _) (compEnvC _ _ _ _)) _ _ _); first | (refine' comp_var ?k1 ?k2 ?_ ?k3 ?k4 ?k5; (case k2 => with_reducible assumption); (case k1 => with_reducible assumption); (case k3 => exact rfl); (case k4 => exact rfl); (case k5 => decide)) | (refine' comp_free ?k1 ?k2 ?_ ?k3 ?k4 ?k5 ?k6; (case k3 => exact rfl); (case k1 => with_reducible assumption); (case k2 => with_reducible assumption); (case k4 => exact rfl); (case k5 => exact rfl); (case k6 => decide))) | (k_unfold; (try dsimp only)) | (k_end; wrow_close) | walk1 | (dsimp only; walk1) | (leave1; walk_say "STEP leave1"; try dsimp only) | fail "no step")))
  intro D h1 tk1 ys1 kd vs F1 N1 hDn hvl hvv hpr
  obtain ⟨l', e1', e2', e3'⟩ := paired_bound (f := fun k => (i : Int) - 1 - k) (P := fun x => 0 ≤ x ∧ x < i) hpr (fun v hv k t hk => by
    obtain ⟨j, hj⟩ := List.mem_iff_getElem?.mp (List.mem_filter.mp hv).1
    obtain ⟨t', ht⟩ := hvv j v hj
    have hjl := (List.getElem?_eq_some_iff.mp hj).1
    rw [ht] at hk
    cases hk
    show 0 ≤ (i : Int) - 1 - (j : Int) ∧ (i : Int) - 1 - (j : Int) < i
    omega)
  have hys : ys1 = (vals l').toArray := by apply Array.toList_inj.mp; rw [e1']
  subst hys
  clear F3 N3
  refine hQ1 _ _ ?_
  refine h _ _ D l' kd F1 (News.sub N1 fun q hq => ?_) (fun q hq => hDn q (.tail _ hq)) ?_ e3'
  · rcases List.mem_cons.mp hq with rfl | hq
    · exact .head _
    · exact .tail _ (.tail _ hq)
  · have := List.length_filter_le (tI (fun k => decide (((gI (nl.map (·.1)) i).fdiv (2 ^ k.toNat)).fmod 2 = 1))) vs
    omega
end
/-! part D13 -/
set_option maxHeartbeats 1000000
set_option maxHeartbeats 1000000
theorem refs_push (NL : List Gr) (x : Gr) : (refsN NL).toArray.push (.ref x.a) = (refsN (NL ++ [x])).toArray := by
  unfold refsN; simp
section
variable {w : World} {A : Around} {g : Heap} {Lf fa : Addr} {cd : Value} {m : Str → Option Value} {s : Shared} {Q : Flow → Shared → Prop} {o1 o2 o3 o4 o5 o6 o7 o8 : Obj} {TT nx : List (Addr × Obj)} {n i : Nat}
  {A₀ : Around} {base : Heap} {p : Program} {loose : List Str} {mean : ExcName → Option Value} {mg mb : Str → Option Value} {zA nA jA D I : Addr} {io : Obj} {nl ps : List (Int × Tok)} {en e kd : Nat} {t1 t2 t3 tj : Tok} {NL : List Gr}
theorem lV1 (lx : Lx w p loose mean mg mb A₀ base A g Lf fa cd) (F : Fr g Lf s.heap m) (N : News g Lf s.heap ((D, listOf (vals ps).toArray kd) :: (I, io) :: (nA, listOf (refsN NL).toArray e) :: LC Lf o1 o2 o3 o4 o5 o6 o7 o8 TT)) (nd : ND ((I, io) :: (nA, listOf (refsN NL).toArray e) :: LC Lf o1 o2 o3 o4 o5 o6 o7 o8 TT))
    (mn : m (Str.ofString "needs") = some (.ref nA)) (mD : m (Str.ofString "near") = some (.ref D)) (d3 : o3.data = .cell (some (.int i tj))) (hps : ps.length ≤ 4) (hNL : NL.length ≤ 12)
    (h : ∀ h' tk (x : Gr), Fr g Lf h' m → News g Lf h' ((x.a, listOf (vals x.ps).toArray x.n) :: (I, io) :: (nA, listOf (refsN (NL ++ [x])).toArray (e + 1)) :: LC Lf o1 o2 o3 o4 o5 o6 o7 o8 TT) → (∀ q ∈ (I, io) :: (nA, listOf (refsN NL).toArray e) :: LC Lf o1 o2 o3 o4 o5 o6 o7 o8 TT, q.1 ≠ x.a) → x.ps.length ≤ 8 → (∀ q ∈ x.ps, q ∈ ps) → Q .next { s with heap := h', toks := tk }) :
    wpAny (model PR w) A (exec (lV 1) (lEnv Lf fa cd)) Q (fun _ _ => False) s := by
  show wpAny _ _ (exec (.Expr _ _) _) _ _ _
  have X := lx.G.X
  have B := lx.G.B
  have TP := lx.G.T
  have hh := lx.hh
  have em := fix2 mn mD
  rw [em] at F
  refine abs_post fun Q1 hQ1 => ?_
  (repeat' ((fail_if_success (with_reducible first | (refine at1 ?_ ?_; constructor) | (refine at3 ?_ ?_; constructor) | show @ite Prop _ _ _ _ | (refine at6 ?_ ?_; constructor) )); (first | ((with_reducible first | refine' l_numbers ?N ?m ?d ?_ | refine' l_hours ?N ?m ?d ?_ | refine' l_job ?N ?m ?d ?_ | refine' l_k ?N ?m ?d ?_ | refine' l_begun ?N ?m ?d ?_ | refine' l_ends ?N ?m ?d ?_ | refine' l_times ?N ?m ?d ?_ | refine' l_most ?N ?m ?d ?_ ); (case N => assumption); (case m => first | assumption | (repeat (first | exact List.Mem.head _ | refine List.Mem.tail _ ?_))); (case d => assumption)) | ((with_reducible show wpAny _ _ (eval (Expr.Name _ _) (lEnv _ _ _)) _ _ _); refine' l_local ?F ?v ?_; (case F => assumption); (case v => (repeat (first | exact if_pos rfl | refine Eq.trans (if_neg (by decide)) ?_))))  | (k_unfold; (try dsimp only)) | (k_end; wrow_close) | walk1 | (dsimp only; walk1) | (leave1; walk_say "STEP leave1"; try dsimp only) | fail "no step")))
  rename Fr _ _ _ _ => F1
  rename News _ _ _ _ => N1
  have hr1 : 0 ≤ (i : Int).fmod 2 := Int.fmod_nonneg_of_pos _ (by omega)
  have hr2 : (i : Int).fmod 2 < 2 := Int.fmod_lt_of_pos _ (by omega)
  have hc2 : (1 + (i : Int).fmod 2).toNat ≤ 2 := by omega
  refine KMa.mul (ws := vals (List.replicate (1 + (i : Int).fmod 2).toNat ps).flatten) F1 N1 (News.isList N1 (by first | exact .head _ | exact .tail _ (.head _))) (by omega) (by omega) (by rw [vals_len]; exact Nat.le_trans (Nat.mul_le_mul hps hc2) (by omega)) (rep_flat ps _) ?_
  intro D2 h2 F2 N2a l2
  clear F1 N1
  have hfl : (List.replicate (1 + (i : Int).fmod 2).toNat ps).flatten.length ≤ 8 := by
    rw [List.length_flatten, List.map_replicate, List.sum_replicate_nat]
    exact Nat.le_trans (Nat.mul_le_mul hc2 hps) (by omega)
  have hfm : ∀ q ∈ (List.replicate (1 + (i : Int).fmod 2).toNat ps).flatten, q ∈ ps := fun q hq => by
    obtain ⟨l, hl, hq⟩ := List.mem_flatten.mp hq
    rw [(List.mem_replicate.mp hl).2] at hq
    exact hq
  generalize (List.replicate (1 + (i : Int).fmod 2).toNat ps).flatten = fl at N2a hfl hfm
  (repeat' ((fail_if_success (with_reducible first | (refine at1 ?_ ?_; constructor) | (refine at3 ?_ ?_; constructor) | show @ite Prop _ _ _ _ | (refine at6 ?_ ?_; constructor) )); (first | ((with_reducible first | refine' l_numbers ?N ?m ?d ?_ | refine' l_hours ?N ?m ?d ?_ | refine' l_job ?N ?m ?d ?_ | refine' l_k ?N ?m ?d ?_ | refine' l_begun ?N ?m ?d ?_ | refine' l_ends ?N ?m ?d ?_ | refine' l_times ?N ?m ?d ?_ | refine' l_most ?N ?m ?d ?_ ); (case N => assumption); (case m => first | assumption | (repeat (first | exact List.Mem.head _ | refine List.Mem.tail _ ?_))); (case d => assumption)) | ((with_reducible show wpAny _ _ (eval (Expr.Name _ _) (lEnv _ _ _)) _ _ _); refine' l_local ?F ?v ?_; (case F => assumption); (case v => (repeat (first | exact if_pos rfl | refine Eq.trans (if_neg (by decide)) ?_))))  | (k_unfold; (try dsimp only)) | (k_end; wrow_close) | walk1 | (dsimp only; walk1) | (leave1; walk_say "STEP leave1"; try dsimp only) | fail "no step")))
  have off2 : ∀ q ∈ (I, io) :: (nA, listOf (refsN NL).toArray e) :: LC Lf o1 o2 o3 o4 o5 o6 o7 o8 TT, q.1 ≠ D2 := fun q hq => Nat.ne_of_lt (l2 q (by first | exact .tail _ hq | exact .tail _ (.tail _ hq)))
  have N2 := News.sub (n2 := (D2, listOf (vals fl).toArray 0) :: (I, io) :: (nA, listOf (refsN NL).toArray e) :: LC Lf o1 o2 o3 o4 o5 o6 o7 o8 TT) N2a fun q hq => by
    rcases List.mem_cons.mp hq with rfl | hq
    · exact .head _
    · first | exact .tail _ (.tail _ hq) | exact .tail _ (.tail _ (.tail _ hq))
  clear N2a
  refine append_K F2 N2 (upd_nd (pre := [_, _]) (ND.cons (p := (D2, listOf (vals fl).toArray 0)) nd off2)) ?_ (by rw [List.size_toArray, List.length_map, sizeLine_eq]; omega)
  intro h3 F3 N3
  clear F2 N2
  rw [show (refsN NL).toArray.push (.ref D2) = (refsN (NL ++ [⟨0, D2, fl, 0⟩])).toArray from refs_push NL ⟨0, D2, fl, 0⟩] at N3
  dsimp only [List.cons_append, List.nil_append] at N3
  (repeat' ((fail_if_success (with_reducible first | (refine at1 ?_ ?_; constructor) | (refine at3 ?_ ?_; constructor) | show @ite Prop _ _ _ _ | (refine at6 ?_ ?_; constructor) )); (first | ((with_reducible first | refine' l_numbers ?N ?m ?d ?_ | refine' l_hours ?N ?m ?d ?_ | refine' l_job ?N ?m ?d ?_ | refine' l_k ?N ?m ?d ?_ | refine' l_begun ?N ?m ?d ?_ | refine' l_ends ?N ?m ?d ?_ | refine' l_times ?N ?m ?d ?_ | refine' l_most ?N ?m ?d ?_ ); (case N => assumption); (case m => first | assumption | (repeat (first | exact List.Mem.head _ | refine List.Mem.tail _ ?_))); (case d => assumption)) | ((with_reducible show wpAny _ _ (eval (Expr.Name _ _) (lEnv _ _ _)) _ _ _); refine' l_local ?F ?v ?_; (case F => assumption); (case v => (repeat (first | exact if_pos rfl | refine Eq.trans (if_neg (by decide)) ?_))))  | (k_unfold; (try dsimp only)) | (k_end; wrow_close) | walk1 | (dsimp only; walk1) | (leave1; walk_say "STEP leave1"; try dsimp only) | fail "no step")))
  refine hQ1 _ _ ?_
  exact h _ _ ⟨0, D2, fl, 0⟩ (by rw [← em] at F3; exact F3) N3 off2 hfl hfm
theorem lS5 (lx : Lx w p loose mean mg mb A₀ base A g Lf fa cd) (F : Fr g Lf s.heap m) (N : News g Lf s.heap ((nA, listOf (refsN []).toArray 0) :: LC Lf o1 o2 o3 o4 o5 o6 o7 o8 TT)) (nd : ND ((nA, listOf (refsN []).toArray 0) :: LC Lf o1 o2 o3 o4 o5 o6 o7 o8 TT))
    (mj : m (Str.ofString "jobs") = some (.ref jA)) (mn : m (Str.ofString "needs") = some (.ref nA)) (d1 : o1.data = .cell (some (.ref zA))) {v3 : Option Value} (d3 : o3.data = .cell v3) (ij : (jA, rngObj 0 n 1 t1 t2 t3) ∈ TT) (iz : (zA, listOf (vals nl).toArray en) ∈ TT) (hnl : nl.length = n) (hn : n ≤ 12)
    (h : ∀ h' tk m' NL e o3' v3', Same ["near"] m' m → Fr g Lf h' m' → News g Lf h' ((nA, listOf (refsN NL).toArray e) :: LC Lf o1 o2 o3' o4 o5 o6 o7 o8 (gobjs NL ++ TT)) → ND ((nA, listOf (refsN NL).toArray e) :: LC Lf o1 o2 o3' o4 o5 o6 o7 o8 (gobjs NL ++ TT)) → o3'.data = .cell v3' → NL.length = n → (∀ (j : Nat) y, NL[j]? = some y → ∀ q ∈ y.ps, 0 ≤ q.1 ∧ q.1 < j) → (∀ q ∈ NL, q.ps.length ≤ 8) → Q .next { s with heap := h', toks := tk }) :
    wpAny (model PR w) A (exec (lS 5) (lEnv Lf fa cd)) Q (fun _ _ => False) s := by
  show wpAny _ _ (exec (.For _ _ _ _ _) _) _ _ _
  have X := lx.G.X
  have B := lx.G.B
  have TP := lx.G.T
  have hh := lx.hh
  have em := fix2 mj mn
  rw [em] at F
  have mT : ∀ a o3 (l : List (Addr × Obj)) q, q ∈ TT → q ∈ a :: LC Lf o1 o2 o3 o4 o5 o6 o7 o8 (l ++ TT) := fun a o3 l q hq => .tail _ (.tail _ (.tail _ (.tail _ (.tail _ (.tail _ (.tail _ (.tail _ (.tail _ (List.mem_append_right _ hq)))))))))
  refine for_rule ?_
  refine abs_post fun Q1 hQ1 => ?_
  (repeat' ((fail_if_success (with_reducible first | (refine at1 ?_ ?_; constructor) | (refine at3 ?_ ?_; constructor) | show @ite Prop _ _ _ _ | (refine at6 ?_ ?_; constructor) )); (first | ((with_reducible first | refine' l_numbers ?N ?m ?d ?_ | refine' l_hours ?N ?m ?d ?_ | refine' l_job ?N ?m ?d ?_ | refine' l_k ?N ?m ?d ?_ | refine' l_begun ?N ?m ?d ?_ | refine' l_ends ?N ?m ?d ?_ | refine' l_times ?N ?m ?d ?_ | refine' l_most ?N ?m ?d ?_ ); (case N => assumption); (case m => first | assumption | (repeat (first | exact List.Mem.head _ | refine List.Mem.tail _ ?_))); (case d => assumption)) | ((with_reducible show wpAny _ _ (eval (Expr.Name _ _) (lEnv _ _ _)) _ _ _); refine' l_local ?F ?v ?_; (case F => assumption); (case v => (repeat (first | exact if_pos rfl | refine Eq.trans (if_neg (by decide)) ?_))))  | (k_unfold; (try dsimp only)) | (k_end; wrow_close) | walk1 | (dsimp only; walk1) | (leave1; walk_say "STEP leave1"; try dsimp only) | fail "no step")))
  refine hQ1 _ _ ?_
  refine iter_jobs (n := n) ["near"] (fun i m' nx => JS5 nA Lf o1 o2 o4 o5 o6 o7 o8 TT i nx) hh (N _ (mT _ _ [] _ ij)).1 (by omega) (fun _ _ => rfl) F N ⟨o3, v3, [], 0, nd, d3, rfl, (fun _ _ h => by cases h), (fun _ h => nomatch h)⟩ ?_ ?_
  · rintro i tv mu nx h2 tk2 I io Qt hQt hi ⟨o3', v3', NL, e, nd', d3', hNL, hlow, hps⟩ hnI F2 N2
    clear F N
    have nd2 : ND ((I, io) :: (nA, listOf (refsN NL).toArray e) :: LC Lf o1 o2 o3' o4 o5 o6 o7 o8 (gobjs NL ++ TT)) := ND.cons nd' hnI
    refine wpAny_assign_Name (storeX_C F2 N2 (c := Lf + 3) rfl (updF_nd (pre := [_, _, _, _]) nd2) d3' ?_)
    intro h3 o3'' F3 N3 d3''
    clear F2 N2
    dsimp only [List.cons_append, List.nil_append] at N3
    show wpAny _ _ (execs [lV 0, lV 1] (lEnv Lf fa cd)) _ _ _
    have mnr : mm ["near"] mu (putm (Str.ofString "jobs") (Value.ref jA) (putm (Str.ofString "needs") (Value.ref nA) m)) (Str.ofString "needs") = some (.ref nA) := Eq.trans (if_neg (by decide)) (Eq.trans (if_neg (by decide)) (if_pos rfl))
    refine wpAny_execs_cons (lV0 lx F3 N3 (.tail _ (.tail _ (.head _))) (.tail _ (.tail _ (.tail _ (.tail _ (.head _))))) d1 d3'' (.tail _ (mT _ _ _ _ iz)) hnl hn hi fun h4 tk4 D ps kd F4 N4 offD hpl hpb => ?_)
    clear F3 N3
    refine wpAny_execs_cons (lV1 (TT := gobjs NL ++ TT) lx F4 N4 (nd2.same rfl) (Eq.trans (if_neg (by decide)) mnr) (if_pos rfl) d3'' hpl (by omega) fun h5 tk5 x F5 N5 offx hxl hxm => ?_)
    clear F4 N4
    refine wpAny_execs_nil ?_
    have ndx : ND ((x.a, listOf (vals x.ps).toArray x.n) :: (nA, listOf (refsN (NL ++ [x])).toArray (e + 1)) :: LC Lf o1 o2 o3'' o4 o5 o6 o7 o8 (gobjs NL ++ TT)) := ND.cons (nd'.same rfl) fun q hq => off_same offx (l' := (I, io) :: (nA, listOf (refsN (NL ++ [x])).toArray (e + 1)) :: LC Lf o1 o2 o3'' o4 o5 o6 o7 o8 (gobjs NL ++ TT)) rfl q (.tail _ hq)
    have hpm : ((nA, listOf (refsN (NL ++ [x])).toArray (e + 1)) :: LC Lf o1 o2 o3'' o4 o5 o6 o7 o8 (gobjs (NL ++ [x]) ++ TT)).Perm ((x.a, listOf (vals x.ps).toArray x.n) :: (nA, listOf (refsN (NL ++ [x])).toArray (e + 1)) :: LC Lf o1 o2 o3'' o4 o5 o6 o7 o8 (gobjs NL ++ TT)) := by
      rw [gobjs_snoc]
      exact List.perm_middle (l₁ := (nA, listOf (refsN (NL ++ [x])).toArray (e + 1)) :: LC Lf o1 o2 o3'' o4 o5 o6 o7 o8 (gobjs NL))
    refine hQt _ _ (TurnP.next (nx := (nA, listOf (refsN (NL ++ [x])).toArray (e + 1)) :: LC Lf o1 o2 o3'' o4 o5 o6 o7 o8 (gobjs (NL ++ [x]) ++ TT)) F5 N5 (fun q hq => ?_) (fun q hq => ?_) ⟨Same.put' same_of_mm, o3'', _, NL ++ [x], e + 1, ndx.perm hpm, d3'', by rw [List.length_append, hNL]; rfl, fun j y hy q hq => ?_, fun q hq => ?_⟩)
    · rcases List.mem_cons.mp hq with rfl | hq
      · exact .tail _ (.head _)
      · rcases List.mem_cons.mp (hpm.mem_iff.mp hq) with rfl | hq
        · exact .head _
        · exact .tail _ (.tail _ hq)
    · rcases List.mem_cons.mp (hpm.mem_iff.mp hq) with rfl | hq
      · exact fun e => offx (I, io) (.head _) e.symm
      · exact off_same hnI (l' := (nA, listOf (refsN (NL ++ [x])).toArray (e + 1)) :: LC Lf o1 o2 o3'' o4 o5 o6 o7 o8 (gobjs NL ++ TT)) rfl q hq
    · by_cases ej : j < NL.length
      · rw [List.getElem?_append_left ej] at hy
        exact hlow j y hy q hq
      · rw [List.getElem?_append_right (by omega)] at hy
        have hj0 : j - NL.length = 0 := by
          cases hz : j - NL.length with
          | zero => rfl
          | succ k => rw [hz] at hy; cases hy
        rw [hj0] at hy
        cases hy
        have := hpb q (hxm q hq)
        omega
    · rcases List.mem_append.mp hq with hq | hq
      · exact hps q hq
      · rw [List.mem_singleton.mp hq]; exact hxl
  · rintro mu nx h2 tk2 ⟨o3', v3', NL, e, nd', d3', hNL, hlow, hps⟩ F2 N2
    exact h _ _ _ NL e o3' v3' (same_of_mm.trans (Same.of_eq em.symm)) F2 N2 nd' d3' hNL hlow hps
end
/-! part P7 -/
set_option maxHeartbeats 1000000
set_option maxHeartbeats 1000000
theorem getD_mem {l : List Int} {i : Nat} (h : i < l.length) : l.getD i 0 ∈ l := by
  rw [List.getD_eq_getElem?_getD, List.getElem?_eq_getElem h]
  exact List.getElem_mem h
theorem mem_getD {l : List Int} {x : Int} (h : x ∈ l) : ∃ i, i < l.length ∧ l.getD i 0 = x := by
  obtain ⟨i, hi, e⟩ := List.getElem_of_mem h
  exact ⟨i, hi, by rw [List.getD_eq_getElem?_getD, List.getElem?_eq_getElem hi]; exact e⟩
theorem tms_of {n N : Nat} {bs ts es hs : List Int} {needs : Int → List Int} {W : Int} (hbl : bs.length = n) (hn1 : 1 ≤ n) (hes : es = (jobsI n).map (fun j => gI bs j + gI hs j)) (htN : ts.length = N + 1) (hp : ts.Perm (0 :: (bs ++ es))) (hso : ts.Pairwise (· ≤ ·))
    (hg : Good n needs hs W bs) (hh : ∀ j : Int, 0 ≤ gI hs j) : Tms n N bs hs (fun i => ts.getD i 0) := by
  have mono : ∀ i j, i ≤ j → j ≤ N → ts.getD i 0 ≤ ts.getD j 0 := fun i j hij hj => by
    rw [List.getD_eq_getElem?_getD, List.getD_eq_getElem?_getD, List.getElem?_eq_getElem (by omega), List.getElem?_eq_getElem (by omega)]
    show ts[i]'(by omega) ≤ ts[j]'(by omega)
    by_cases e : i = j
    · subst e; exact Int.le_refl _
    · exact List.pairwise_iff_getElem.mp hso i j (by omega) (by omega) (by omega)
  have inT : ∀ x, x ∈ 0 :: (bs ++ es) → ∃ i, i ≤ N ∧ ts.getD i 0 = x := fun x hx => by
    obtain ⟨i, hi, e⟩ := mem_getD (hp.mem_iff.mpr hx)
    exact ⟨i, by omega, e⟩
  have hb : ∀ j : Int, 0 ≤ j → j < n → gI bs j ∈ 0 :: (bs ++ es) := fun j j1 j2 => .tail _ (List.mem_append_left _ (getD_mem (by omega)))
  have he : ∀ j : Int, 0 ≤ j → j < n → gI bs j + gI hs j ∈ 0 :: (bs ++ es) := fun j j1 j2 => .tail _ (List.mem_append_right _ (by rw [hes]; exact List.mem_map.mpr ⟨j, mem_jobsI.mpr ⟨j1, j2⟩, rfl⟩))
  have cases : ∀ x, x ∈ 0 :: (bs ++ es) → x = 0 ∨ (∃ j : Int, 0 ≤ j ∧ j < n ∧ x = gI bs j) ∨ ∃ j : Int, 0 ≤ j ∧ j < n ∧ x = gI bs j + gI hs j := fun x hx => by
    rcases List.mem_cons.mp hx with e | hx
    · exact .inl e
    rcases List.mem_append.mp hx with hx | hx
    · obtain ⟨i, hi, e⟩ := mem_getD hx
      refine .inr (.inl ⟨(i : Int), by omega, by omega, ?_⟩)
      unfold gI; rw [Int.toNat_natCast]; exact e.symm
    · rw [hes] at hx
      obtain ⟨j, hj, e⟩ := List.mem_map.mp hx
      have := mem_jobsI.mp hj
      exact .inr (.inr ⟨j, this.1, this.2, e.symm⟩)
  have memT : ∀ i, i ≤ N → ts.getD i 0 ∈ 0 :: (bs ++ es) := fun i hi => hp.mem_iff.mp (getD_mem (by omega))
  refine ⟨mono, fun i hi => ?_, inT 0 (.head _), fun j j1 j2 => inT _ (hb j j1 j2), fun j j1 j2 => inT _ (he j j1 j2), ?_⟩
  · rcases cases _ (memT i hi) with e | ⟨j, j1, j2, e⟩ | ⟨j, j1, j2, e⟩
    · show 0 ≤ ts.getD i 0; omega
    · have := hg.nn j j1 j2
      show 0 ≤ ts.getD i 0; omega
    · have := hg.nn j j1 j2
      have := hh j
      show 0 ≤ ts.getD i 0; omega
  · have leN : ∀ j : Int, 0 ≤ j → j < n → gI bs j + gI hs j ≤ ts.getD N 0 := fun j j1 j2 => by
      obtain ⟨i, hi, e⟩ := inT _ (he j j1 j2)
      rw [← e]; exact mono i N hi (Nat.le_refl _)
    rcases cases _ (memT N (Nat.le_refl _)) with e | ⟨j, j1, j2, e⟩ | ⟨j, j1, j2, e⟩
    · have h1 := leN 0 (by omega) (by omega)
      have h2 := hg.nn 0 (by omega) (by omega)
      have h3 := hh 0
      exact ⟨0, by omega, by omega, by show ts.getD N 0 = _; omega⟩
    · have h1 := leN j j1 j2
      have h3 := hh j
      exact ⟨j, j1, j2, by show ts.getD N 0 = _; omega⟩
    · exact ⟨j, j1, j2, e⟩
/-! part D14 -/
set_option maxHeartbeats 1000000
set_option maxHeartbeats 1000000
theorem LCp {Lf : Addr} {o1 o2 o3 o4 o5 o6 o7 o8 : Obj} {x : Addr × Obj} {TT : List (Addr × Obj)} : (LC Lf o1 o2 o3 o4 o5 o6 o7 o8 (x :: TT)).Perm (x :: LC Lf o1 o2 o3 o4 o5 o6 o7 o8 TT) := List.perm_middle (l₁ := [_, _, _, _, _, _, _, _])
theorem LCn {g : Heap} {Lf : Addr} {h : Heap} {o1 o2 o3 o4 o5 o6 o7 o8 : Obj} {x : Addr × Obj} {TT : List (Addr × Obj)} (N : News g Lf h (x :: LC Lf o1 o2 o3 o4 o5 o6 o7 o8 TT)) : News g Lf h (LC Lf o1 o2 o3 o4 o5 o6 o7 o8 (x :: TT)) := News.sub N fun _ hq => LCp.mem_iff.mp hq
theorem LCnd {Lf : Addr} {o1 o2 o3 o4 o5 o6 o7 o8 o1' o2' o3' o4' o5' o6' o7' o8' : Obj} {a : Addr} {ob : Obj} {TT TT' : List (Addr × Obj)} (nd : ND (LC Lf o1' o2' o3' o4' o5' o6' o7' o8' TT')) (off : ∀ q ∈ LC Lf o1 o2 o3 o4 o5 o6 o7 o8 TT, q.1 ≠ a) (e : TT'.map (·.1) = TT.map (·.1) := by rfl) : ND (LC Lf o1 o2 o3 o4 o5 o6 o7 o8 ((a, ob) :: TT)) :=
  (ND.cons (p := (a, ob)) (nd.same (by unfold LC; simp only [List.map_cons, e])) off).perm LCp
section
variable {w : World} {A : Around} {g : Heap} {Lf fa : Addr} {cd : Value} {m : Str → Option Value} {s : Shared} {Q : Flow → Shared → Prop} {o1 o2 o3 o4 o5 o6 o7 o8 : Obj} {TT nx : List (Addr × Obj)} {n : Nat}
  {A₀ : Around} {base : Heap} {p : Program} {loose : List Str} {mean : ExcName → Option Value} {mg mb : Str → Option Value} {nA jA zA hA : Addr} {hs nl : List (Int × Tok)} {e4 e6 en : Nat} {NL : List Gr} {W : Int} {tW t1 t2 t3 : Tok}
theorem lTurn (lx : Lx w p loose mean mg mb A₀ base A g Lf fa cd) (F : Fr g Lf s.heap m) (N : News g Lf s.heap (LC Lf o1 o2 o3 o4 o5 o6 o7 o8 TT)) (nd : ND (LC Lf o1 o2 o3 o4 o5 o6 o7 o8 TT))
    (mj : m (Str.ofString "jobs") = some (.ref jA)) (mn : m (Str.ofString "needs") = some (.ref nA)) (mW : m (Str.ofString "workers") = some (.int W tW)) (d2 : o2.data = .cell (some (.ref hA))) {v3 v4 v5 v6 v7 v8 : Option Value} (d3 : o3.data = .cell v3) (d4 : o4.data = .cell v4) (d5 : o5.data = .cell v5) (d6 : o6.data = .cell v6) (d7 : o7.data = .cell v7) (d8 : o8.data = .cell v8)
    (ij : (jA, rngObj 0 n 1 t1 t2 t3) ∈ TT) (iN : (nA, listOf (refsN NL).toArray e6) ∈ TT) (iH : (hA, listOf (vals hs).toArray e4) ∈ TT) (iG : ∀ q ∈ gobjs NL, q ∈ TT)
    (hNL : NL.length = n) (hn1 : 1 ≤ n) (hn : n ≤ 12) (hlow : ∀ (j : Nat) y, NL[j]? = some y → ∀ q ∈ y.ps, 0 ≤ q.1 ∧ q.1 < j) (hps : ∀ q ∈ NL, q.ps.length ≤ 8) (hhs : hs.length = n) (hh0 : ∀ j : Int, 0 ≤ gI (hs.map (·.1)) j) (hW : 1 ≤ W) (hW2 : W ≤ 12)
    (h : ∀ h' tk m' o3' o4' o5' o6' o7' o8' v3 v4 v5 v6 v7 v8, Same ["idle", "held", "at_work"] m' m → Fr g Lf h' m' → News g Lf h' (LC Lf o1 o2 o3' o4' o5' o6' o7' o8' TT) → o3'.data = .cell v3 → o4'.data = .cell v4 → o5'.data = .cell v5 → o6'.data = .cell v6 → o7'.data = .cell v7 → o8'.data = .cell v8 → Q .next { s with heap := h', toks := tk }) :
    wpAny (model PR w) A (execs [lT 0, lT 1, lT 2, lT 3, lT 4, lT 5, lT 6, lT 7, lT 8, lT 9] (lEnv Lf fa cd)) Q (fun _ _ => False) s := by
  refine wpAny_execs_cons (lT0 lx F N nd mn mW d2 d5 iN iH iG hNL hn hlow hps hhs hh0 hW hW2 fun h0 tk0 bA bs e1 o5' F0 N0 off0 d5' hg => ?_)
  have hbl : bs.length = n := by have := hg.len; rwa [List.length_map] at this
  refine wpAny_execs_cons (lT1 lx F0 (LCn N0) ((LCnd nd off0).same rfl) mj d2 d5' d6 (.tail _ ij) (.head _) (.tail _ iH) hbl hhs hn fun h1 tk1 eA es e5 o6' F1 N1 off1 d6' hes => ?_)
  have hel : es.length = n := by have := congrArg List.length hes; unfold jobsI at this; simpa using this
  have nd1 := LCnd (ob := listOf (vals es).toArray e5) (LCnd (ob := listOf (vals bs).toArray e1) nd off0) off1
  refine wpAny_execs_cons (lT2 lx F1 (LCn N1) (nd1.same rfl) mj mn d3 d5' d6' (.tail _ (.tail _ ij)) (.tail _ (.head _)) (.head _) (.tail _ (.tail _ iN)) (fun q hq => .tail _ (.tail _ (iG q hq))) hNL hn hlow hps hbl hes hg fun h2 tk2 o3' v3' F2 N2 d3' => ?_)
  refine wpAny_execs_cons (lT3 lx F2 N2 (nd1.same rfl) d5' d6' d7 (.tail _ (.head _)) (.head _) hbl hel hn fun h3 tk3 tA ts et o7' F3 N3 off3 d7' hp hso => ?_)
  have nd3 := LCnd (ob := listOf (vals ts).toArray et) nd1 off3
  refine wpAny_execs_cons (lT4 lx F3 (LCn N3) fun h4 tk4 ti F4 N4 => ?_)
  refine wpAny_execs_cons (lT5 lx F4 N4 (Eq.trans (if_neg (by decide)) mj) (List.mem_append_right [_, _, _, _, _, _, _, _] (.tail _ (.tail _ (.tail _ ij)))) hn fun h5 tk5 D ds k F5 N5 off5 hd0 => ?_)
  have hdl : ds.length = n := by have := congrArg List.length hd0; unfold jobsI at this; simpa using this
  have htN : ts.length = (2 * n) + 1 := by
    have := hp.length_eq
    rw [List.length_map, List.length_cons, List.length_append, List.length_map, List.length_map] at this
    omega
  have tms := tms_of (hs := hs.map (·.1)) (needs := needsF NL) (W := W) (by rw [List.length_map]; exact hbl) hn1 hes (by rw [List.length_map]; exact htN) hp hso hg hh0
  refine wpAny_execs_cons (lT6 (N := 2 * n) (hsI := hs.map (·.1)) lx F5 N5 (ND.cons (p := (D, listOf (vals ds).toArray k)) (nd3.same rfl) off5) (Eq.trans (if_neg (by decide)) (Eq.trans (if_neg (by decide)) mj)) (Eq.trans (if_neg (by decide)) (Eq.trans (if_neg (by decide)) mW)) (Eq.trans (if_neg (by decide)) (if_pos rfl)) (if_pos rfl) d3' d4 d5' d6' d7' (.tail _ (.tail _ (.tail _ ij))) (.tail _ (.tail _ (.head _))) (.tail _ (.head _)) (.head _) hn hbl hdl hd0 hes htN (by omega)
    fun h6 tk6 m6 o36 v36 o46 v46 ds6 t6 S6 mi6 F6 N6 d36 d46 hdl6 hheld => ?_)
  have nd6 := LCnd (ob := listOf (vals ds6).toArray k) nd3 off5
  refine wpAny_execs_cons (lT7 lx F6 (LCn N6) (nd6.same rfl) d8 fun h7 tk7 mA o8' F7 N7 off7 d8' => ?_)
  have m6' : ∀ x v, m x = some v → (["at_work", "idle"] : List Str).contains x = false → (x == Str.ofString "held") = false → (x == Str.ofString "idle") = false → m6 x = some v := fun x v hx h1 h2 h3 => (S6 x h1).trans (Eq.trans (if_neg (by simpa using h2)) (Eq.trans (if_neg (by simpa using h3)) hx))
  refine wpAny_execs_cons (lT8 (V := fun j => idleTo n (bs.map (·.1)) (hs.map (·.1)) W (tmAt ts) (2 * n) (gI (bs.map (·.1)) j + gI (hs.map (·.1)) j)) lx F7 N7 (ND.same (ND.cons (p := (mA, listOf (vals []).toArray 0)) (l := LC Lf o1 o2 o36 o46 o5' o6' o7' o8 ((D, listOf (vals ds6).toArray k) :: (tA, listOf (vals ts).toArray et) :: (eA, listOf (vals es).toArray e5) :: (bA, listOf (vals bs).toArray e1) :: TT)) (nd6.same rfl) off7) rfl) (m6' _ _ mj (by decide) (by decide) (by decide)) (m6' _ _ mn (by decide) (by decide) (by decide)) (S6.get (if_pos rfl)) d36 d8' (.tail _ (.tail _ (.tail _ (.tail _ ij)))) (.head _) (.tail _ (.tail _ (.tail _ (.tail _ iN)))) (fun q hq => .tail _ (.tail _ (.tail _ (.tail _ (iG q hq))))) hNL hn hlow hps hdl6
    (fun j j1 j2 M hM hmax => by rw [hheld j j1 j2]; exact most_step tms hg hh0 (needs_low hNL hlow) j1 j2 hM hmax) fun h8 tk8 o38 v38 ms e8 F8 N8 d38 hms => ?_)
  have hml : ms.length = n := by have := congrArg List.length hms; unfold jobsI at this; simpa using this
  refine wpAny_execs_cons (lT9 lx F8 N8 mi6 d8' (by omega) (fun M hM hmax => ?_) fun h9 tk9 F9 N9 => ?_)
  · obtain ⟨j, j1, j2, hall, hbest⟩ := idle_all (W := W) tms
    have hall' : (acc (2 * n) fun k => if idleAt n (bs.map (·.1)) (hs.map (·.1)) W (tmAt ts) k = true then tmAt ts (k + 1) - tmAt ts k else 0) = idleTo n (bs.map (·.1)) (hs.map (·.1)) W (tmAt ts) (2 * n) (gI (bs.map (·.1)) j + gI (hs.map (·.1)) j) := hall
    rw [hall']
    rw [hms] at hM hmax
    apply Int.le_antisymm
    · obtain ⟨i, hi, rfl⟩ := List.mem_map.mp hM
      have hi' := mem_jobsI.mp hi
      exact hbest i hi'.1 hi'.2
    · exact hmax _ (List.mem_map.mpr ⟨j, mem_jobsI.mpr ⟨j1, j2⟩, rfl⟩)
  refine wpAny_execs_nil ?_
  refine h _ _ _ o38 o46 o5' o6' o7' o8' _ _ _ _ _ _ ?_ F9 (News.sub N9 fun q hq => ?_) d38 d46 d5' d6' d7' d8'
  · refine Same.trans (S6.mono fun z hz => ?_) (Same.put' (Same.put' (Same.refl _ _)))
    simp only [List.contains_cons, List.contains_nil, Bool.or_false, Bool.or_eq_false_iff] at hz ⊢
    exact ⟨hz.2.2, hz.1⟩
  · refine .tail _ ?_
    exact LCp.mem_iff.mpr (.tail _ (LCp.mem_iff.mpr (.tail _ (LCp.mem_iff.mpr (.tail _ (LCp.mem_iff.mpr (.tail _ hq)))))))
end
/-! part D15 -/
set_option maxHeartbeats 1000000
set_option maxHeartbeats 1000000
section
variable {w : World} {A : Around} {g : Heap} {Lf fa : Addr} {cd : Value} {m : Str → Option Value} {s : Shared} {Q : Flow → Shared → Prop} {o1 o2 o3 o4 o5 o6 o7 o8 : Obj} {TT nx : List (Addr × Obj)} {n : Nat}
  {A₀ : Around} {base : Heap} {p : Program} {loose : List Str} {mean : ExcName → Option Value} {mg mb : Str → Option Value} {nA jA zA hA a : Addr} {hs nl sl : List (Int × Tok)} {e4 e6 en : Nat} {NL : List Gr} {t1 t2 t3 : Tok}
theorem lS6 (lx : Lx w p loose mean mg mb A₀ base A g Lf fa cd) (F : Fr g Lf s.heap m) (N : News g Lf s.heap (LC Lf o1 o2 o3 o4 o5 o6 o7 o8 TT)) (nd : ND (LC Lf o1 o2 o3 o4 o5 o6 o7 o8 TT))
    (mj : m (Str.ofString "jobs") = some (.ref jA)) (mn : m (Str.ofString "needs") = some (.ref nA)) (d1 : o1.data = .cell (some (.ref zA))) (d2 : o2.data = .cell (some (.ref hA))) {v3 v4 v5 v6 v7 v8 : Option Value} (d3 : o3.data = .cell v3) (d4 : o4.data = .cell v4) (d5 : o5.data = .cell v5) (d6 : o6.data = .cell v6) (d7 : o7.data = .cell v7) (d8 : o8.data = .cell v8)
    (ij : (jA, rngObj 0 n 1 t1 t2 t3) ∈ TT) (iz : (zA, listOf (vals nl).toArray en) ∈ TT) (iN : (nA, listOf (refsN NL).toArray e6) ∈ TT) (iH : (hA, listOf (vals hs).toArray e4) ∈ TT) (iG : ∀ q ∈ gobjs NL, q ∈ TT)
    (hnl : nl.length = n) (hNL : NL.length = n) (hn1 : 1 ≤ n) (hn : n ≤ 12) (hlow : ∀ (j : Nat) y, NL[j]? = some y → ∀ q ∈ y.ps, 0 ≤ q.1 ∧ q.1 < j) (hps : ∀ q ∈ NL, q.ps.length ≤ 8) (hhs : hs.length = n) (hh0 : ∀ j : Int, 0 ≤ gI (hs.map (·.1)) j)
    (h : ∀ h' tk m', Fr g Lf h' m' → Q .next { s with heap := h', toks := tk }) :
    wpAny (model PR w) A (exec (lS 6) (lEnv Lf fa cd)) Q (fun _ _ => False) s := by
  show wpAny _ _ (exec (.For _ _ _ _ _) _) _ _ _
  have X := lx.G.X
  have B := lx.G.B
  have TP := lx.G.T
  have hh := lx.hh
  refine for_rule ?_
  (repeat' ((fail_if_success (with_reducible first | (refine at1 ?_ ?_; constructor) | (refine at3 ?_ ?_; constructor) | show @ite Prop _ _ _ _ | (refine at6 ?_ ?_; constructor) )); (first | ((with_reducible first | refine' l_numbers ?N ?m ?d ?_ | refine' l_hours ?N ?m ?d ?_ | refine' l_job ?N ?m ?d ?_ | refine' l_k ?N ?m ?d ?_ | refine' l_begun ?N ?m ?d ?_ | refine' l_ends ?N ?m ?d ?_ | refine' l_times ?N ?m ?d ?_ | refine' l_most ?N ?m ?d ?_ ); (case N => assumption); (case m => first | assumption | (repeat (first | exact List.Mem.head _ | refine List.Mem.tail _ ?_))); (case d => assumption)) | ((with_reducible show wpAny _ _ (eval (Expr.Name _ _) (lEnv _ _ _)) _ _ _); refine' l_local ?F ?v ?_; (case F => assumption); (case v => (repeat (first | exact if_pos rfl | refine Eq.trans (if_neg (by decide)) ?_))))  | (k_unfold; (try dsimp only)) | (k_end; wrow_close) | walk1 | (dsimp only; walk1) | (leave1; walk_say "STEP leave1"; try dsimp only) | fail "no step")))
  refine len_V N (List.mem_append_right [_, _, _, _, _, _, _, _] iz) hnl (by omega) ?_
  (repeat' ((fail_if_success (with_reducible first | (refine at1 ?_ ?_; constructor) | (refine at3 ?_ ?_; constructor) | show @ite Prop _ _ _ _ | (refine at6 ?_ ?_; constructor) )); (first | ((with_reducible first | refine' l_numbers ?N ?m ?d ?_ | refine' l_hours ?N ?m ?d ?_ | refine' l_job ?N ?m ?d ?_ | refine' l_k ?N ?m ?d ?_ | refine' l_begun ?N ?m ?d ?_ | refine' l_ends ?N ?m ?d ?_ | refine' l_times ?N ?m ?d ?_ | refine' l_most ?N ?m ?d ?_ ); (case N => assumption); (case m => first | assumption | (repeat (first | exact List.Mem.head _ | refine List.Mem.tail _ ?_))); (case d => assumption)) | ((with_reducible show wpAny _ _ (eval (Expr.Name _ _) (lEnv _ _ _)) _ _ _); refine' l_local ?F ?v ?_; (case F => assumption); (case v => (repeat (first | exact if_pos rfl | refine Eq.trans (if_neg (by decide)) ?_))))  | (k_unfold; (try dsimp only)) | (k_end; wrow_close) | walk1 | (dsimp only; walk1) | (leave1; walk_say "STEP leave1"; try dsimp only) | fail "no step")))
  refine for_range1 (n := n) ["workers", "idle", "held", "at_work"] (fun i m' nx => JS6 Lf o1 o2 TT nx) hh (by omega) (fun _ _ => rfl) F N ⟨o3, o4, o5, o6, o7, o8, v3, v4, v5, v6, v7, v8, d3, d4, d5, d6, d7, d8⟩ ?_ ?_
  · rintro i tv mu nx h2 tk2 I io Qt hQt hi ⟨o3', o4', o5', o6', o7', o8', w3, w4, w5, w6, w7, w8, d3', d4', d5', d6', d7', d8'⟩ hnI F2 N2
    clear F N
    refine wpAny_assign_Name (storeX_L F2 N2 fun h3 F3 N3 => ?_)
    clear F2 N2
    show wpAny _ _ (execs [lT 0, lT 1, lT 2, lT 3, lT 4, lT 5, lT 6, lT 7, lT 8, lT 9] (lEnv Lf fa cd)) _ _ _
    have nd3 := LCnd (ob := io) nd hnI
    refine lTurn (TT := (I, io) :: TT) lx F3 (LCn N3) nd3 (Eq.trans (if_neg (by decide)) (Eq.trans (if_neg (by decide)) mj)) (Eq.trans (if_neg (by decide)) (Eq.trans (if_neg (by decide)) mn)) (if_pos rfl) d2 d3' d4' d5' d6' d7' d8' (.tail _ ij) (.tail _ iN) (.tail _ iH) (fun q hq => .tail _ (iG q hq)) hNL hn1 hn hlow hps hhs hh0 (by omega) (by omega) ?_
    intro h4 tk4 m4 p3 p4 p5 p6 p7 p8 x3 x4 x5 x6 x7 x8 S4 F4 N4 q3 q4 q5 q6 q7 q8
    refine hQt _ _ (TurnP.next F4 N4 (fun q hq => LCp.mem_iff.mpr hq) (off_same hnI rfl) ⟨?_, p3, p4, p5, p6, p7, p8, x3, x4, x5, x6, x7, x8, q3, q4, q5, q6, q7, q8⟩)
    refine Same.trans (S4.mono fun z hz => ?_) (Same.put' same_of_mm)
    rw [List.contains_cons, Bool.or_eq_false_iff] at hz
    exact hz.2
  · rintro mu nx h2 tk2 ⟨o3', o4', o5', o6', o7', o8', w3, w4, w5, w6, w7, w8, d3', d4', d5', d6', d7', d8'⟩ F2 N2
    exact h _ _ _ F2
theorem lS7 (lx : Lx w p loose mean mg mb A₀ base A g Lf fa cd)
    (h : ∀ tk, Q (.ret (.bool true)) { s with toks := tk }) :
    wpAny (model PR w) A (exec (lS 7) (lEnv Lf fa cd)) Q (fun _ _ => False) s := by
  show wpAny _ _ (exec (.Return _ _) _) _ _ _
  refine abs_post fun Q1 hQ1 => ?_
  (repeat' ((fail_if_success (with_reducible first | (refine at1 ?_ ?_; constructor) | (refine at3 ?_ ?_; constructor) | show @ite Prop _ _ _ _ | (refine at6 ?_ ?_; constructor) )); (first | ((with_reducible first | refine' l_numbers ?N ?m ?d ?_ | refine' l_hours ?N ?m ?d ?_ | refine' l_job ?N ?m ?d ?_ | refine' l_k ?N ?m ?d ?_ | refine' l_begun ?N ?m ?d ?_ | refine' l_ends ?N ?m ?d ?_ | refine' l_times ?N ?m ?d ?_ | refine' l_most ?N ?m ?d ?_ ); (case N => assumption); (case m => first | assumption | (repeat (first | exact List.Mem.head _ | refine List.Mem.tail _ ?_))); (case d => assumption)) | ((with_reducible show wpAny _ _ (eval (Expr.Name _ _) (lEnv _ _ _)) _ _ _); refine' l_local ?F ?v ?_; (case F => assumption); (case v => (repeat (first | exact if_pos rfl | refine Eq.trans (if_neg (by decide)) ?_))))  | (k_unfold; (try dsimp only)) | (k_end; wrow_close) | walk1 | (dsimp only; walk1) | (leave1; walk_say "STEP leave1"; try dsimp only) | fail "no step")))
  refine hQ1 _ _ ?_
  exact h _
theorem lawAll (lx : Lx w p loose mean mg mb A₀ base A g Lf fa cd) (F : Fr g Lf s.heap m) (N : News g Lf s.heap (LC Lf o1 o2 o3 o4 o5 o6 o7 o8 [])) (nd : ND (LC Lf o1 o2 o3 o4 o5 o6 o7 o8 []))
    (ms : m (Str.ofString "script") = some (.ref a)) (hl : g.IsList a (vals sl).toArray) (hsl : sl.length ≤ 63) {v1 v2 v3 v4 v5 v6 v7 v8 : Option Value} (d1 : o1.data = .cell v1) (d2 : o2.data = .cell v2) (d3 : o3.data = .cell v3) (d4 : o4.data = .cell v4) (d5 : o5.data = .cell v5) (d6 : o6.data = .cell v6) (d7 : o7.data = .cell v7) (d8 : o8.data = .cell v8)
    (h : ∀ h' tk m', Fr g Lf h' m' → Q (.ret (.bool true)) { s with heap := h', toks := tk }) :
    wpAny (model PR w) A (execs [lS 0, lS 1, lS 2, lS 3, lS 4, lS 5, lS 6, lS 7] (lEnv Lf fa cd)) Q (fun _ _ => False) s := by
  refine wpAny_execs_cons (lS0 lx F N nd ms hl hsl d1 fun h0 tk0 zA nl o1' F0 N0 off0 d1' hn4 hn12 => ?_)
  have nd0 := LCnd (ob := listOf (vals nl).toArray 0) nd off0
  obtain ⟨n, hn⟩ : ∃ n, n = nl.length := ⟨_, rfl⟩
  refine wpAny_execs_cons (lS1 (n := n) lx F0 N0 (ND.same (ND.cons (p := (zA, listOf (vals nl).toArray 0)) nd off0) rfl) ms hl hsl d1' hn.symm (by omega) (by omega) fun h1 tk1 m1 nl1 S1 F1 N1 hnl1 => ?_)
  have mz : ∀ q (TT : List (Addr × Obj)), q ∈ TT → q ∈ LC Lf o1' o2 o3 o4 o5 o6 o7 o8 TT := fun q TT hq => List.mem_append_right [_, _, _, _, _, _, _, _] hq
  refine wpAny_execs_cons (lS2 lx F1 (LCn N1) (.head _) d1' (mz _ _ (.head _)) hnl1 (by omega) fun h2 tk2 jA t1 t2 t3 F2 N2 off2 => ?_)
  have nd2 := LCnd (ob := rngObj 0 n 1 t1 t2 t3) nd0 off2
  refine wpAny_execs_cons (lS3 lx F2 (LCn N2) nd2 d1' d2 (.tail _ (.head _)) hnl1 (by omega) fun h3 tk3 hA hs e4 o2' F3 N3 off3 d2' hhs hh0 => ?_)
  have nd3 := LCnd (ob := listOf (vals hs).toArray e4) nd2 off3
  refine wpAny_execs_cons (lS4 lx F3 (LCn N3) fun h4 tk4 nA F4 N4 off4 => ?_)
  refine wpAny_execs_cons (lS5 lx F4 N4 (ND.cons (p := (nA, listOf (refsN []).toArray 0)) (nd3.same rfl) off4) (Eq.trans (if_neg (by decide)) (if_pos rfl)) (if_pos rfl) d1' d3 (.tail _ (.head _)) (.tail _ (.tail _ (.head _))) hnl1 (by omega) fun h5 tk5 m5 NL e o3' v3' S5 F5 N5 nd5 d3' hNL hlow hps => ?_)
  refine wpAny_execs_cons (lS6 (n := n) lx F5 (LCn N5) (nd5.perm LCp) (S5.get (Eq.trans (if_neg (by decide)) (if_pos rfl))) (S5.get (if_pos rfl)) d1' d2' d3' d4 d5 d6 d7 d8 (.tail _ (List.mem_append_right _ (.tail _ (.head _)))) (.tail _ (List.mem_append_right _ (.tail _ (.tail _ (.head _))))) (.head _) (.tail _ (List.mem_append_right _ (.head _))) (fun q hq => .tail _ (List.mem_append_left _ hq)) hnl1 hNL (by omega) (by omega) hlow hps hhs hh0 fun h6 tk6 m6 F6 => ?_)
  exact wpAny_execs_cons (lS7 lx fun tk7 => h _ _ _ F6)
end
/-! part E0 -/
set_option maxHeartbeats 1000000
theorem cells_nd {Lf : Addr} {o1 o2 o3 o4 o5 o6 o7 o8 : Obj} : ND (LC Lf o1 o2 o3 o4 o5 o6 o7 o8 []) := by
  have e : ND (LC Lf o1 o2 o3 o4 o5 o6 o7 o8 []) = ([1, 2, 3, 4, 5, 6, 7, 8].map (Lf + ·)).Nodup := rfl
  rw [e]
  exact List.pairwise_map.mpr (List.Pairwise.imp (fun h e => h (Nat.add_left_cancel e)) (by decide : [1, 2, 3, 4, 5, 6, 7, 8].Nodup))
theorem cells_back {g : Heap} {Lf : Addr} {h : Heap} {o1 o2 o3 o4 o5 o6 o7 o8 : Obj} (N : News g Lf h [(Lf + 8, o8), (Lf + 7, o7), (Lf + 6, o6), (Lf + 5, o5), (Lf + 4, o4), (Lf + 3, o3), (Lf + 2, o2), (Lf + 1, o1)]) : News g Lf h (LC Lf o1 o2 o3 o4 o5 o6 o7 o8 []) :=
  News.sub N fun q hq => List.mem_reverse.mp hq
theorem law_test : PySem.Challenge.rw_dm0134_02.Holds := Mine.hd (by
  k_go0
  rename IntsAre _ _ => hI
  rename Heap.IsList _ _ _ => hL
  rename Fr _ _ _ _ => F
  rename News _ _ _ _ => N
  rename Below _ _ _ _ => K0
  rename Top _ _ _ _ _ _ => T
  rename Frag.In _ _ => KX
  rename ¬ _ < _ => hlen
  obtain ⟨sl, hv, hsn⟩ := ints_list hI
  subst hv
  refine abs_post fun Q0 hQ0 => ?_
  show wpAny (model PR _) (callerA.deeper (lEnv _ _ _)) (execs [lS 0, lS 1, lS 2, lS 3, lS 4, lS 5, lS 6, lS 7] (lEnv _ _ _)) _ _ _
  have hlen' : sl.length ≤ 63 := by
    have := congrArg List.length hsn
    rw [List.length_map] at this
    omega
  refine wpAny_mono (lawAll ⟨⟨K0, KX, T, KX, T, (fun _ h => nomatch h)⟩, rfl, rfl, rfl, by show callerA.depth + 1 + 60 < 900; decide, by show callerA.units + 3 + 600 < 9000; decide⟩ F (cells_back N) cells_nd rfl hL hlen' (by assumption) (by assumption) (by assumption) (by assumption) (by assumption) (by assumption) (by assumption) (by assumption) fun h' tk m' F' => ?_) (fun _ _ h => h) (fun _ _ h => h.elim)
  refine hQ0 _ _ ?_
  dsimp only
  k_end
  wrow_close)
end Mine
theorem PySem.Challenge.cw_dm0134_02_holds : PySem.Challenge.rw_dm0134_02.Holds :=
  Mine.law_test
