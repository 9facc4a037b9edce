import PyProof.Rows.All
import Wide.All
import OpenK.AllK
import Wide.FinOn
import PySem.Challenge.RW_mq0180_01
set_option Elab.async false
set_option rowWalk.seconds 3000
open PySem PySem.W PyProof.Rows
local macro_rules | `(tactic| walk_at $s:str) => `(tactic| k_dflt k_extra $s)
local macro_rules | `(tactic| ktr_room) => `(tactic| exact Nat.lt_of_le_of_lt (Nat.le_add_right _ _) (by assumption))

section
open PySem PySem.W PyProof.Rows
set_option maxRecDepth 100000
set_option maxHeartbeats 8000000
namespace Mine

/-- the text without its rows that write a name: the defs alone -/
def hd.view_39 : Program := { PySem.Challenge.pw_mq0180_01 with main := { PySem.Challenge.pw_mq0180_01.main with body := PySem.Challenge.pw_mq0180_01.main.body.filter fun s => match s with | .FunctionDef .. => true | _ => false } }

/- the head by hand: the top's 986 steps are run by the kernel at once, not in pieces (16 MB less in the compiled file) -/
local macro_rules | `(tactic| o_head $H) => `(tactic| (refine holds_open (q := hd.view_39) (loose := []) (Xt := fun s => xlAt hd.view_39 [] s && recOk (RowW.records (OpenRow.toRowW (OpenLaw.row PySem.Challenge.rw_mq0180_01))) s) (XP := XL hd.view_39 []) (Yf := Hook.obs $H) (Ya := Hook.val $H) (YP := Hook.says $H) (N := 2072) ?hl (Hook.of $H) (Hook.keeps $H) (fun s e => xl_of s (Bool.and_eq_true_iff.mp e).1) XL.keeps (by rfl) (by rfl) (by rfl) (fun s e => recFacts_of (Bool.and_eq_true_iff.mp e).2) (by rfl) (by first | assumption | decide +kernel) (by decide +kernel) ⟨rfl, rfl, rfl, rfl, rfl, by decide +kernel⟩ ?hw ?hc; (case hl => exact fun w => by kernel_rfl)))
open_top hd for PySem.Challenge.rw_mq0180_01
end Mine
end

section
open PySem PySem.W PyProof.Rows PySem.Spec PySem.Calls
set_option maxRecDepth 100000
set_option linter.unusedSimpArgs false
namespace Mine

/-- a triple that lies in the heap: its place in memory, its three items -/
structure Ent where
  a : Addr
  t : Int
  tt : Tok
  p : Int
  tp : Tok
  x : Value

def dEnt : Ent := ⟨0, 0, 0, 0, 0, .none⟩

abbrev tupO (e : Ent) : Obj := { cls := .type "tuple", data := .seq [.int e.t e.tt, .int e.p e.tp, e.x].toArray 0 }
def vals (xs : List Ent) : List Value := xs.map fun e => .ref e.a
abbrev hO (xs : List Ent) (n : Nat) : Obj := listOf (vals xs).toArray n
def elt (x y : Ent) : Bool := decide (x.t < y.t) || (decide (x.t = y.t) && decide (x.p < y.p))

theorem vals_length (xs : List Ent) : (vals xs).length = xs.length := by simp [vals]
theorem vals_get {xs : List Ent} {k : Nat} (h : k < xs.length) : (vals xs)[k]? = some (.ref (xs.getD k dEnt).a) := by
  simp [vals, h]
theorem vals_set (xs : List Ent) (k : Nat) (e : Ent) : (vals xs).set k (.ref e.a) = vals (xs.set k e) := by
  simp [vals, List.map_set]

section
variable {prog : Program} {w : World} {A : Around} {E : Value → Shared → Prop} {s : Shared} {h₀ : Heap} {L H : Addr} {m : Str → Option Value} {news news' rest : List (Addr × Obj)} {xs : List Ent} {n : Nat} {k : Int} {u t : Tok}

theorem lt_tree {x y : Ent} {P : Fin → Shared → Prop} (hx : s.heap.get? x.a = some (tupO x)) (hy : s.heap.get? y.a = some (tupO y)) (hne : x.p ≠ y.p)
    (h : P (.done (.ret (.bool (elt x y)))) s) : wpAny (model prog w) A (Builtin.«tuple.__lt__» ⟨[.ref x.a, .ref y.a], []⟩) P E s := by
  have hTb : s.TypeIs (.ref y.a) "tuple" := ⟨_, hy, rfl⟩
  show wpAny _ _ (isInstance (.ref y.a) (.type "tuple") >>= _) _ _ s
  refine wpAny_bind (wpAny_isInstance hTb isSubtype_tuple_tuple ?_)
  simp only [Bool.not_true, Bool.false_eq_true, if_false]
  refine wpAny_bind (wpAny_tupleItemsOf hx rfl ?_)
  refine wpAny_bind (wpAny_tupleItemsOf hy rfl ?_)
  refine wpAny_bind ?_
  simp only [List.zip_cons_cons, List.forIn_cons]
  refine wpAny_bind (wpAny_bind (wpAny_eqBool_int ?_))
  by_cases ht : x.t = y.t
  · have e1 : (x.t == y.t) = true := by simp [ht]
    rw [e1]
    simp only [Bool.not_true, Bool.false_eq_true, if_false]
    refine wpAny_pure ?_
    refine wpAny_bind (wpAny_bind (wpAny_eqBool_int ?_))
    have e2 : (x.p == y.p) = false := by simp [hne]
    rw [e2]
    simp only [Bool.not_false, if_true]
    refine wpAny_bind (wpAny_rule (wpAny_bind (show wpAny _ _ (compareOp .Lt (.int x.p x.tp) (.int y.p y.tp)) _ _ _ from lt_int ?_)))
    refine wpAny_bind (wpAny_pure (wpAny_pure (wpAny_pure ?_)))
    have e3 : elt x y = decide (x.p < y.p) := by simp [elt, ht]
    rw [← e3]; exact wpAny_pure h
  · have e1 : (x.t == y.t) = false := by simp [ht]
    rw [e1]
    simp only [Bool.not_false, if_true]
    refine wpAny_bind (wpAny_rule (wpAny_bind (show wpAny _ _ (compareOp .Lt (.int x.t x.tt) (.int y.t y.tt)) _ _ _ from lt_int ?_)))
    refine wpAny_bind (wpAny_pure (wpAny_pure (wpAny_pure ?_)))
    have e3 : elt x y = decide (x.t < y.t) := by simp [elt, ht]
    rw [← e3]; exact wpAny_pure h

theorem lt_ent {x y : Ent} {Q : Value → Shared → Prop} (hx : s.heap.get? x.a = some (tupO x)) (hy : s.heap.get? y.a = some (tupO y)) (hne : x.p ≠ y.p) (hu : A.units < cLine)
    (h : Q (.bool (elt x y)) s) : wpAny (model prog w) A (compareOp .Lt (.ref x.a) (.ref y.a)) Q E s :=
  cmp_ofLt (wpAny_richCompare_same_room (op := .Lt) (T := "tuple") ⟨_, hx, rfl⟩ ⟨_, hy, rfl⟩ F.slot_tuple_lt
    (wpAny_call_entry F.slot_tuple_lt ⟨_, hx, rfl⟩ F.entry_tuple_lt (lt_tree hx hy hne ⟨_, rfl, (fun e => nomatch e), h⟩) (F.args_tuple_lt_2 _ _)) hu)

theorem get_tree {value slice : PySem.Expr} {Q : Value → Shared → Prop} (N : News h₀ L s.heap news) (hm : (H, hO xs n) ∈ news) (h0 : 0 ≤ k) (h1 : k < xs.length) (hz : xs.length ≤ 1000)
    (h : Q (.ref (xs.getD k.toNat dEnt).a) s)
    (hs : subscripted slice false (.ref H) (.int k u) = operate [.ref H, .int k u] (getItem (.ref H) (.int k u)) := by with_unfolding_all rfl) (hg : ∀ r, letTemporaryGo value (.ref H) r = pure () := by intro _; with_unfolding_all rfl) :
    wpAny (model prog w) A (subscriptTail value slice (.ref H) (.int k u)) Q E s :=
  kim_list N hm rfl rfl h0 (by omega) (vals_get (by omega)) h hs hg

theorem get_item {Q : Value → Shared → Prop} (N : News h₀ L s.heap news) (hm : (H, hO xs n) ∈ news) (h0 : 0 ≤ k) (h1 : k < xs.length) (hz : xs.length ≤ 1000)
    (h : Q (.ref (xs.getD k.toNat dEnt).a) s) : wpAny (model prog w) A (getItem (.ref H) (.int k u)) Q E s :=
  wpAny_getItem_list (PySem.IsL.isList (n := n) (N _ hm).1) h0 (by omega) (by simpa using vals_get (xs := xs) (k := k.toNat) (by omega)) h

theorem set_item {e : Ent} {Q : Unit → Shared → Prop} (F : Fr h₀ L s.heap m) (N : News h₀ L s.heap ((H, hO xs n) :: rest)) (hR : ∀ p ∈ rest, p.1 ≠ H) (h0 : 0 ≤ k) (h1 : k < xs.length) (hz : xs.length ≤ 1000)
    (h : ∀ h', Fr h₀ L h' m → News h₀ L h' ((H, hO (xs.set k.toNat e) n) :: rest) → Q () { s with heap := h' }) : wpAny (model prog w) A (setItem (.ref H) (.int k t) (.ref e.a)) Q E s := by
  have z := N (H, hO xs n) (.head _)
  have hsz : (vals xs).toArray.size = xs.length := by rw [List.size_toArray, vals_length]
  refine ki_setAt z.1 h0 (by omega) (by omega) (h _ (F.change (Heap.SameBut.update ..) z.2.1 z.2.2) (ki_turn (pre := []) _ N (by simp) hR ?_ ?_))
  · show (vals xs).toArray.setIfInBounds k.toNat (.ref e.a) = (vals (xs.set k.toNat e)).toArray
    rw [← vals_set]
    apply Array.toList_inj.mp
    simp
  · simp [vals_length]

theorem append_item {e : Ent} {Q : Value → Shared → Prop} (F : Fr h₀ L s.heap m) (N : News h₀ L s.heap ((H, hO xs n) :: rest)) (hR : ∀ p ∈ rest, p.1 ≠ H) (hz : xs.length ≤ 1000)
    (h : ∀ h', Fr h₀ L h' m → News h₀ L h' ((H, hO (xs ++ [e]) (n + 1)) :: rest) → Q .none { s with heap := h' }) : wpAny (model prog w) A (call (.builtin "list.append") [.ref H, .ref e.a]) Q E s := by
  refine append_K F N (.head hR) (fun h' F' N' => h h' F' ?_) (by rw [List.size_toArray, vals_length, sizeLine_eq]; omega)
  have e1 : (vals (xs ++ [e])).toArray = (vals xs).toArray.push (.ref e.a) := by simp [vals]
  rw [show hO (xs ++ [e]) (n + 1) = listOf ((vals xs).toArray.push (.ref e.a)) (n + 1) by rw [← e1]]
  exact N'

theorem pop_item {Q : Value → Shared → Prop} (F : Fr h₀ L s.heap m) (N : News h₀ L s.heap ((H, hO xs n) :: rest)) (hR : ∀ p ∈ rest, p.1 ≠ H) (hz : xs.length ≤ 1000) (hne : xs ≠ [])
    (h : ∀ h', Fr h₀ L h' m → News h₀ L h' ((H, hO xs.dropLast (n + 1)) :: rest) → Q (.ref (xs.getLast hne).a) { s with heap := h' }) : wpAny (model prog w) A (call (.builtin "list.pop") [.ref H]) Q E s := by
  refine kl_pop F N (p := vals xs.dropLast) (y := .ref (xs.getLast hne).a) ?_ (.head hR) (by simp only [List.size_toArray, vals_length, sizeLine_eq]; omega) h
  have e1 : vals xs = vals xs.dropLast ++ [.ref (xs.getLast hne).a] := by
    conv => lhs; rw [← List.dropLast_concat_getLast hne]
    simp [vals]
  show kl_last (vals xs) = _
  rw [e1]
  exact kpa_last _ _

theorem reverse_item {Q : Value → Shared → Prop} (F : Fr h₀ L s.heap m) (N : News h₀ L s.heap ((H, hO xs n) :: rest)) (hR : ∀ p ∈ rest, p.1 ≠ H) (hz : xs.length ≤ 1000)
    (h : ∀ h', Fr h₀ L h' m → News h₀ L h' ((H, hO xs.reverse n) :: rest) → Q .none { s with heap := h' }) : wpAny (model prog w) A (call (.builtin "list.reverse") [.ref H]) Q E s := by
  refine kl_reverse F N (l := vals xs.reverse) ?_ (.head hR) (by simp only [List.size_toArray, vals_length, sizeLine_eq]; omega) h
  simp [vals]
end
end Mine
namespace Mine
def Tups (rest : List (Addr × Obj)) (xs : List Ent) : Prop := ∀ e ∈ xs, (e.a, tupO e) ∈ rest
theorem getD_mem {xs : List Ent} {k : Nat} (h : k < xs.length) : xs.getD k dEnt ∈ xs := by
  rw [List.getD_eq_getElem?_getD, List.getElem?_eq_getElem h]; exact List.getElem_mem h
theorem nodup_ne {xs : List Ent} (h : (xs.map (·.p)).Nodup) {i j : Nat} (hi : i < xs.length) (hj : j < xs.length) (hne : i ≠ j) : (xs.getD i dEnt).p ≠ (xs.getD j dEnt).p := by
  intro e
  have hi' : i < (xs.map (·.p)).length := by simpa using hi
  have hj' : j < (xs.map (·.p)).length := by simpa using hj
  have : (xs.map (·.p))[i] = (xs.map (·.p))[j] := by
    simp only [List.getElem_map]
    rw [List.getD_eq_getElem?_getD, List.getElem?_eq_getElem hi, List.getD_eq_getElem?_getD, List.getElem?_eq_getElem hj] at e
    exact e
  rcases Nat.lt_or_gt_of_ne hne with hl | hl
  · exact List.pairwise_iff_getElem.mp h i j hi' hj' hl this
  · exact List.pairwise_iff_getElem.mp h j i hj' hi' hl this.symm
theorem set_getD_ne {xs : List Ent} {i j : Nat} {e : Ent} (h : i ≠ j) : (xs.set i e).getD j dEnt = xs.getD j dEnt := by
  simp [List.getD_eq_getElem?_getD, List.getElem?_set_ne h]
theorem set_getD_eq {xs : List Ent} {i : Nat} {e : Ent} (h : i < xs.length) : (xs.set i e).getD i dEnt = e := by
  simp [List.getD_eq_getElem?_getD, h]
section
variable {prog : Program} {w : World} {A : Around} {E : Value → Shared → Prop} {s : Shared} {h₀ : Heap} {L H : Addr} {m : Str → Option Value} {news news' rest : List (Addr × Obj)} {ys : List Ent} {n : Nat} {k : Int} {u t : Tok}
theorem lt_hole {e : Ent} {pos i : Nat} {Q : Value → Shared → Prop} (N : News h₀ L s.heap ((H, hO ys n) :: rest)) (hT : Tups rest ys) (he : (e.a, tupO e) ∈ rest) (hD : ((ys.set pos e).map (·.p)).Nodup) (hi : i < ys.length) (hp : pos < ys.length) (hne : i ≠ pos) (hu : A.units < cLine)
    (h : Q (.bool (elt e (ys.getD i dEnt))) s) : wpAny (model prog w) A (compareOp .Lt (.ref e.a) (.ref (ys.getD i dEnt).a)) Q E s := by
  refine lt_ent (N _ (.tail _ he)).1 (N _ (.tail _ (hT _ (getD_mem hi)))).1 ?_ hu h
  have := nodup_ne hD (i := pos) (j := i) (by simpa using hp) (by simpa using hi) (Ne.symm hne)
  rw [set_getD_eq hp, set_getD_ne (Ne.symm hne)] at this
  exact this
theorem lt_two {e : Ent} {pos i j : Nat} {Q : Value → Shared → Prop} (N : News h₀ L s.heap ((H, hO ys n) :: rest)) (hT : Tups rest ys) (hD : ((ys.set pos e).map (·.p)).Nodup) (hi : i < ys.length) (hj : j < ys.length) (hip : i ≠ pos) (hjp : j ≠ pos) (hne : i ≠ j) (hu : A.units < cLine)
    (h : Q (.bool (elt (ys.getD i dEnt) (ys.getD j dEnt))) s) : wpAny (model prog w) A (compareOp .Lt (.ref (ys.getD i dEnt).a) (.ref (ys.getD j dEnt).a)) Q E s := by
  refine lt_ent (N _ (.tail _ (hT _ (getD_mem hi)))).1 (N _ (.tail _ (hT _ (getD_mem hj)))).1 ?_ hu h
  have := nodup_ne hD (i := i) (j := j) (by simpa using hi) (by simpa using hj) hne
  rw [set_getD_ne (Ne.symm hip), set_getD_ne (Ne.symm hjp)] at this
  exact this
theorem rsh1 {a : Int} {Q : Value → Shared → Prop} (h0 : 0 ≤ a) (h : Q (.int ((a.toNat / 2 : Nat) : Int) s.toks) { s with toks := s.toks + 1 }) : wpAny (model prog w) A (binaryOp .RShift (.int a t) (.int 1 u)) Q E s := by
  refine rshift_int (by decide) ?_
  have e : a.fdiv (2 ^ (1 : Int).toNat) = ((a.toNat / 2 : Nat) : Int) := by
    show a.fdiv 2 = _
    rw [Int.fdiv_eq_ediv_of_nonneg _ (by decide)]
    omega
  rw [e]
  exact h
theorem len_item {Q : Value → Shared → Prop} (N : News h₀ L s.heap news) (hm : (H, hO ys n) ∈ news) (hz : ys.length ≤ 1000) (h : Q (.int ys.length (s.toks + 1)) { s with toks := s.toks + 1 + 1 }) :
    wpAny (model prog w) A (call (.builtin "len") [.ref H]) Q E s := by
  have e : (vals ys).toArray.size = ys.length := by rw [List.size_toArray, vals_length]
  exact len_list (PySem.IsL.isList (n := n) (N _ hm).1) (by rw [e]; omega) (by rw [e]; exact h)
theorem truth_item {Q : Bool → Shared → Prop} (N : News h₀ L s.heap news) (hm : (H, hO ys n) ∈ news) (hz : ys.length ≤ 1000) (h : Q (decide (0 < ys.length)) { s with toks := s.toks + 1 + 1 }) :
    wpAny (model prog w) A (truthy (.ref H)) Q E s := by
  have e : (vals ys).toArray.size = ys.length := by rw [List.size_toArray, vals_length]
  refine wpAny_truthy_list (PySem.IsL.isList (n := n) (N _ hm).1) (by rw [e]; omega) ?_
  have e2 : (!(vals ys).toArray.isEmpty) = decide (0 < ys.length) := by cases ys <;> simp [vals]
  rw [e2]; exact h
end
theorem nodup_set0 {xs : List Ent} {e : Ent} (h : ((xs ++ [e]).map (·.p)).Nodup) : ((xs.set 0 e).map (·.p)).Nodup := by
  cases xs with
  | nil => simp
  | cons x t =>
    have h1 : ((t ++ [e]).map (·.p)).Nodup := by
      simp only [List.cons_append, List.map_cons] at h
      exact (List.nodup_cons.mp h).2
    have h2 : (t ++ [e]).Perm (e :: t) := List.perm_append_singleton e t
    exact (h2.map _).nodup_iff.mp h1
theorem tups_mono {rest : List (Addr × Obj)} {xs ys : List Ent} (h : Tups rest xs) (hs : ∀ e ∈ ys, e ∈ xs) : Tups rest ys := fun e he => h e (hs e he)
theorem tups_set {rest : List (Addr × Obj)} {ys : List Ent} {i : Nat} {new : Ent} (h : Tups rest ys) (hn : (new.a, tupO new) ∈ rest) : Tups rest (ys.set i new) := by
  intro e he
  rcases List.mem_or_eq_of_mem_set he with h' | h'
  · exact h e h'
  · exact h' ▸ hn
end Mine
end

section
open PySem PySem.W PyProof.Rows PySem.Spec PySem.Calls
set_option maxRecDepth 100000
namespace Mine
def FillMe (_ : OpenLaw) (_ : Params → Frag) : Prop := True
theorem filled : FillMe PySem.Challenge.rw_mq0180_01 hd.heap_39 := by k_fill; trivial

/-- a call of the def at f, from any frame -/
def Tell (w : World) (mean : ExcName → Option Value) (mg mb : Str → Option Value) (f : Addr) (args : List Value) (news : List (Addr × Obj)) (dn un' : Nat) (Post : Value → List (Addr × Obj) → Prop) : Prop :=
  ∀ (dp un : Nat) (gd : Option (List Code)) (cn : Str) (cs : Scope) (a : Addr) (ccd : Value) (cl : List (Str × Addr)) (outer : List Env) (A₀ : Around) (base h₀ : Heap) (L : Addr) (m : Str → Option Value) (s : Shared)
    (Q E : Value → Shared → Prop),
    Below A₀ base outer h₀ → Fr h₀ L s.heap m → (hd.heap_39 w.params).In h₀ → News h₀ L s.heap news → Top hd.view_39 (looseW hd.view_39 []) mean mg mb h₀ → cs.kind = .function → dp + dn < recursionLimit → un + un' < cLine →
    (∀ r news' h' tk', Fr h₀ L h' m → News h₀ L h' news' → Post r news' → Q r { s with heap := h', toks := tk' }) →
    wpAny (model PySem.Challenge.rw_mq0180_01.row.prog w) (ktrTop dp un gd cn cs L a ccd cl outer) (call (.ref f) args) Q E s

theorem Tell.use {w : World} {mean : ExcName → Option Value} {mg mb : Str → Option Value} {f : Addr} {args : List Value} {news : List (Addr × Obj)} {dn un' : Nat} {Post : Value → List (Addr × Obj) → Prop} (C : Tell w mean mg mb f args news dn un' Post)
    {dp un : Nat} {gd : Option (List Code)} {cn : Str} {cs : Scope} {a : Addr} {ccd : Value} {cl : List (Str × Addr)} {outer : List Env} {A₀ : Around} {base h₀ : Heap} {L : Addr} {m : Str → Option Value} {s : Shared} {Q E : Value → Shared → Prop}
    (B : Below A₀ base outer h₀) (F : Fr h₀ L s.heap m) (X : (hd.heap_39 w.params).In h₀) (N : News h₀ L s.heap news) (T : Top hd.view_39 (looseW hd.view_39 []) mean mg mb h₀) (hk : cs.kind = .function) (hd : dp + dn < recursionLimit) (hu : un + un' < cLine)
    (ret : ∀ r news' h' tk', Fr h₀ L h' m → News h₀ L h' news' → Post r news' → Q r { s with heap := h', toks := tk' }) :
    wpAny (model PySem.Challenge.rw_mq0180_01.row.prog w) (ktrTop dp un gd cn cs L a ccd cl outer) (call (.ref f) args) Q E s := C _ _ _ _ _ _ _ _ _ _ _ _ _ _ _ _ _ B F X N T hk hd hu ret
/-- the answer is told -/
theorem Tell.use2 {w : World} {mean : ExcName → Option Value} {mg mb : Str → Option Value} {f : Addr} {args : List Value} {news : List (Addr × Obj)} {dn un' : Nat} {v : Value} {n2 : List (Addr × Obj)} (C : Tell w mean mg mb f args news dn un' fun r news' => r = v ∧ news' = n2)
    {dp un : Nat} {gd : Option (List Code)} {cn : Str} {cs : Scope} {a : Addr} {ccd : Value} {cl : List (Str × Addr)} {outer : List Env} {A₀ : Around} {base h₀ : Heap} {L : Addr} {m : Str → Option Value} {s : Shared} {Q E : Value → Shared → Prop}
    (B : Below A₀ base outer h₀) (F : Fr h₀ L s.heap m) (X : (hd.heap_39 w.params).In h₀) (N : News h₀ L s.heap news) (T : Top hd.view_39 (looseW hd.view_39 []) mean mg mb h₀) (hk : cs.kind = .function) (hd : dp + dn < recursionLimit) (hu : un + un' < cLine)
    (ret : ∀ h' tk', Fr h₀ L h' m → News h₀ L h' n2 → Q v { s with heap := h', toks := tk' }) :
    wpAny (model PySem.Challenge.rw_mq0180_01.row.prog w) (ktrTop dp un gd cn cs L a ccd cl outer) (call (.ref f) args) Q E s :=
  Tell.use C B F X N T hk hd hu fun _ _ h' tk' F' N' e => by
    obtain ⟨rfl, rfl⟩ := e
    exact ret h' tk' F' N'
theorem Tell.useE {w : World} {mean : ExcName → Option Value} {mg mb : Str → Option Value} {f : Addr} {args : List Value} {news : List (Addr × Obj)} {dn un' : Nat} {k : Int} {n2 : List (Addr × Obj)} (C : Tell w mean mg mb f args news dn un' fun r news' => (∃ t, r = .int k t) ∧ news' = n2)
    {dp un : Nat} {gd : Option (List Code)} {cn : Str} {cs : Scope} {a : Addr} {ccd : Value} {cl : List (Str × Addr)} {outer : List Env} {A₀ : Around} {base h₀ : Heap} {L : Addr} {m : Str → Option Value} {s : Shared} {Q E : Value → Shared → Prop}
    (B : Below A₀ base outer h₀) (F : Fr h₀ L s.heap m) (X : (hd.heap_39 w.params).In h₀) (N : News h₀ L s.heap news) (T : Top hd.view_39 (looseW hd.view_39 []) mean mg mb h₀) (hk : cs.kind = .function) (hd : dp + dn < recursionLimit) (hu : un + un' < cLine)
    (ret : ∀ t h' tk', Fr h₀ L h' m → News h₀ L h' n2 → Q (.int k t) { s with heap := h', toks := tk' }) :
    wpAny (model PySem.Challenge.rw_mq0180_01.row.prog w) (ktrTop dp un gd cn cs L a ccd cl outer) (call (.ref f) args) Q E s :=
  Tell.use C B F X N T hk hd hu fun _ _ h' tk' F' N' e => by
    obtain ⟨⟨t, rfl⟩, rfl⟩ := e
    exact ret t h' tk' F' N'
theorem Tell.useN {w : World} {mean : ExcName → Option Value} {mg mb : Str → Option Value} {f : Addr} {args : List Value} {news : List (Addr × Obj)} {dn un' : Nat} {P : Value → Prop} {n2 : List (Addr × Obj)} (C : Tell w mean mg mb f args news dn un' fun r news' => P r ∧ news' = n2)
    {dp un : Nat} {gd : Option (List Code)} {cn : Str} {cs : Scope} {a : Addr} {ccd : Value} {cl : List (Str × Addr)} {outer : List Env} {A₀ : Around} {base h₀ : Heap} {L : Addr} {m : Str → Option Value} {s : Shared} {Q E : Value → Shared → Prop}
    (B : Below A₀ base outer h₀) (F : Fr h₀ L s.heap m) (X : (hd.heap_39 w.params).In h₀) (N : News h₀ L s.heap news) (T : Top hd.view_39 (looseW hd.view_39 []) mean mg mb h₀) (hk : cs.kind = .function) (hd : dp + dn < recursionLimit) (hu : un + un' < cLine)
    (ret : ∀ r h' tk', Fr h₀ L h' m → News h₀ L h' n2 → P r → Q r { s with heap := h', toks := tk' }) :
    wpAny (model PySem.Challenge.rw_mq0180_01.row.prog w) (ktrTop dp un gd cn cs L a ccd cl outer) (call (.ref f) args) Q E s :=
  Tell.use C B F X N T hk hd hu fun r _ h' tk' F' N' e => by
    obtain ⟨hp, rfl⟩ := e
    exact ret r h' tk' F' N' hp
theorem room1 {dp DN dn : Nat} (h : dp + DN < recursionLimit) (e : Nat.ble (1 + dn) DN = true) : dp + 1 + dn < recursionLimit := by
  have := Nat.le_of_ble_eq_true e
  omega
theorem unit0 {dp DN dn z : Nat} (h : dp + DN < z) (e : Nat.ble dn DN = true) : dp + dn < z := by
  have := Nat.le_of_ble_eq_true e
  omega
theorem unit1 {dp DN dn z : Nat} (h : dp + DN < z) (e : Nat.ble (1 + dn) DN = true) : dp + 1 + dn < z := by
  have := Nat.le_of_ble_eq_true e
  omega
theorem unit2 {dp DN dn z : Nat} (h : dp + DN < z) (e : Nat.ble (2 + dn) DN = true) : dp + 1 + 1 + dn < z := by
  have := Nat.le_of_ble_eq_true e
  omega
theorem unit3 {dp DN dn z : Nat} (h : dp + DN < z) (e : Nat.ble (3 + dn) DN = true) : dp + 3 + dn < z := by
  have := Nat.le_of_ble_eq_true e
  omega
def Hold (P : Prop) : Prop := P
theorem hold {P : Prop} (h : Hold P) : P := h
end Mine
end

section
open PySem PySem.W PyProof.Rows PySem.Spec PySem.Calls
set_option maxRecDepth 100000
namespace Mine
section
variable {M : Model} {A : Around} {E : Value → Shared → Prop} {s : Shared} {K : Frag} {g : Heap} {L a : Addr} {m mg mb : Str → Option Value} {cn : Str} {cs : Scope} {ccd : Value} {cl : List (Str × Addr)} {p : Program} {loose : List Str} {mean : ExcName → Option Value}
  {f x y : Str} {fa : Addr} {v u : Value} {p1 p2 p3 p4 : Pos} {Q : Value → Shared → Prop}
/-- a def of the top, called upon a name -/
theorem call1 (F : Fr g L s.heap m) (X : K.In g) (T : Top p loose mean mg mb g) (e : nsIn K mainGlobals f = some (some (.ref fa))) (hq : keepIn K (.ref fa) = true) (hv : m x = some v) (h : wpAny M A (call (.ref fa) [v]) Q E s)
    (hk : cs.kind = .function := by rfl) (hf : (envX cn cs L a ccd cl).kindOf f = some .globalImplicit := by rfl) (hx : (envX cn cs L a ccd cl).kindOf x = some .local := by rfl) (hd : (f == ("__debug__" : Str)) = false := by decide) (hd2 : (x == ("__debug__" : Str)) = false := by decide) :
    wpAny M A (eval (.Call (.Name f p1) [.Name x p2] [] p3) (envX cn cs L a ccd cl)) Q E s :=
  Call_ (nameX_K F X (topRead_of T) e (callWith_K X hq (args_cons (nameX_L F hv (args_nil ⟨X.keeps F.keep, h⟩) hk hx hd2))) hk hf hd)
theorem call2 (F : Fr g L s.heap m) (X : K.In g) (T : Top p loose mean mg mb g) (e : nsIn K mainGlobals f = some (some (.ref fa))) (hq : keepIn K (.ref fa) = true) (hv : m x = some v) (hu : m y = some u) (h : wpAny M A (call (.ref fa) [v, u]) Q E s)
    (hk : cs.kind = .function := by rfl) (hf : (envX cn cs L a ccd cl).kindOf f = some .globalImplicit := by rfl) (hx : (envX cn cs L a ccd cl).kindOf x = some .local := by rfl) (hy : (envX cn cs L a ccd cl).kindOf y = some .local := by rfl)
    (hd : (f == ("__debug__" : Str)) = false := by decide) (hd2 : (x == ("__debug__" : Str)) = false := by decide) (hd3 : (y == ("__debug__" : Str)) = false := by decide) :
    wpAny M A (eval (.Call (.Name f p1) [.Name x p2, .Name y p4] [] p3) (envX cn cs L a ccd cl)) Q E s :=
  Call_ (nameX_K F X (topRead_of T) e (callWith_K X hq (args_cons (nameX_L F hv (args_cons (nameX_L F hu (args_nil ⟨X.keeps F.keep, h⟩) hk hy hd3)) hk hx hd2))) hk hf hd)
end
end Mine
end

section
/-! the heap's steps over plain lists -/
namespace Mine
section
variable {α : Type} (d : α) (lt : α → α → Bool)
def swp (ys : List α) (i j : Nat) : List α := (ys.set i (ys.getD j d)).set j (ys.getD i d)
def sdG (start pos : Nat) (ys : List α) : List α :=
  if h : start < pos then
    if lt (ys.getD pos d) (ys.getD ((pos - 1) / 2) d) then sdG start ((pos - 1) / 2) (swp d ys pos ((pos - 1) / 2)) else ys
  else ys
termination_by pos
decreasing_by omega
def chd (ys : List α) (c : Nat) : Nat := if c + 1 < ys.length ∧ lt (ys.getD c d) (ys.getD (c + 1) d) = false then c + 1 else c
def suG (pos : Nat) (ys : List α) (fuel : Nat) : List α × Nat :=
  match fuel with
  | 0 => (ys, pos)
  | fuel + 1 => if 2 * pos + 1 < ys.length then suG (chd d lt ys (2 * pos + 1)) (swp d ys pos (chd d lt ys (2 * pos + 1))) fuel else (ys, pos)
def siftup (pos : Nat) (ys : List α) : List α := sdG d lt pos (suG d lt pos ys ys.length).2 (suG d lt pos ys ys.length).1

theorem swp_length (ys : List α) (i j : Nat) : (swp d ys i j).length = ys.length := by simp [swp]
theorem sdG_length (start pos : Nat) (ys : List α) : (sdG d lt start pos ys).length = ys.length := by
  induction pos using Nat.strongRecOn generalizing ys with
  | _ pos ih =>
    unfold sdG
    split
    · split
      · rw [ih _ (by omega), swp_length]
      · rfl
    · rfl
theorem suG_length (fuel : Nat) : ∀ (pos : Nat) (ys : List α), (suG d lt pos ys fuel).1.length = ys.length := by
  induction fuel with
  | zero => intro pos ys; rfl
  | succ f ih =>
    intro pos ys
    unfold suG
    split
    · rw [ih, swp_length]
    · rfl
theorem siftup_length (pos : Nat) (ys : List α) : (siftup d lt pos ys).length = ys.length := by rw [siftup, sdG_length, suG_length]
variable {d lt}
theorem getD_of_lt {ys : List α} {i : Nat} (h : i < ys.length) : ys.getD i d = ys[i] := by
  rw [List.getD_eq_getElem?_getD, List.getElem?_eq_getElem h]; rfl
theorem swp_perm {ys : List α} {i j : Nat} (hi : i < ys.length) (hj : j < ys.length) : (swp d ys i j).Perm ys := by
  have h := Array.swap_perm (xs := ys.toArray) (i := i) (j := j) (by simpa using hi) (by simpa using hj)
  rw [List.swap_toArray] at h
  have h2 : ((ys.set i ys[j]).set j ys[i]).Perm ys := Array.perm_iff_toList_perm.mp h
  unfold swp
  rw [getD_of_lt hi, getD_of_lt hj]
  exact h2
theorem sdG_perm {start pos : Nat} {ys : List α} (h : pos < ys.length) : (sdG d lt start pos ys).Perm ys := by
  induction pos using Nat.strongRecOn generalizing ys with
  | _ pos ih =>
    unfold sdG
    split
    · split
      · exact (ih _ (by omega) (by rw [swp_length]; omega)).trans (swp_perm h (by omega))
      · exact .refl _
    · exact .refl _
theorem chd_lt {ys : List α} {c : Nat} (h : c < ys.length) : chd d lt ys c < ys.length := by
  unfold chd; split <;> omega
theorem chd_ge {ys : List α} {c : Nat} : c ≤ chd d lt ys c := by
  unfold chd; split <;> omega
theorem suG_perm (fuel : Nat) : ∀ {pos : Nat} {ys : List α}, pos < ys.length → (suG d lt pos ys fuel).1.Perm ys ∧ (suG d lt pos ys fuel).2 < ys.length := by
  induction fuel with
  | zero => intro pos ys h; exact ⟨.refl _, h⟩
  | succ f ih =>
    intro pos ys h
    unfold suG
    split
    · rename_i hc
      have hl := chd_lt (d := d) (lt := lt) hc
      obtain ⟨a, b⟩ := ih (pos := chd d lt ys (2 * pos + 1)) (ys := swp d ys pos (chd d lt ys (2 * pos + 1))) (by rw [swp_length]; exact hl)
      rw [swp_length] at b
      exact ⟨a.trans (swp_perm h hl), b⟩
    · exact ⟨.refl _, h⟩
theorem siftup_perm {pos : Nat} {ys : List α} (h : pos < ys.length) : (siftup d lt pos ys).Perm ys := by
  obtain ⟨a, b⟩ := suG_perm (d := d) (lt := lt) ys.length h
  exact (sdG_perm (by rw [suG_length]; exact b)).trans a
theorem hole_swp {ys : List α} {pos pp : Nat} {new : α} (h : pos < ys.length) (hne : pos ≠ pp) : (ys.set pos (ys.getD pp d)).set pp new = swp d (ys.set pos new) pos pp := by
  unfold swp
  have e1 : (ys.set pos new).getD pos d = new := by simp [List.getD_eq_getElem?_getD, h]
  have e2 : (ys.set pos new).getD pp d = ys.getD pp d := by simp [List.getD_eq_getElem?_getD, List.getElem?_set_ne hne]
  rw [e1, e2, List.set_set]
theorem set_self {ys : List α} {i : Nat} (h : i < ys.length) : ys.set i (ys.getD i d) = ys := by
  rw [getD_of_lt h]; simp
theorem sdG_step {ys : List α} {start pos : Nat} {new : α} (h : pos < ys.length) (hs : start < pos) (hl : lt new (ys.getD ((pos - 1) / 2) d) = true) :
    sdG d lt start pos (ys.set pos new) = sdG d lt start ((pos - 1) / 2) ((ys.set pos (ys.getD ((pos - 1) / 2) d)).set ((pos - 1) / 2) new) := by
  have hne : pos ≠ (pos - 1) / 2 := by omega
  have e1 : (ys.set pos new).getD pos d = new := by simp [List.getD_eq_getElem?_getD, h]
  have e2 : (ys.set pos new).getD ((pos - 1) / 2) d = ys.getD ((pos - 1) / 2) d := by simp [List.getD_eq_getElem?_getD, List.getElem?_set_ne hne]
  rw [sdG, dif_pos hs, e1, e2, if_pos hl, hole_swp h hne]
theorem sdG_stop {ys : List α} {start pos : Nat} {new : α} (h : pos < ys.length) (hl : start < pos → lt new (ys.getD ((pos - 1) / 2) d) = false) :
    sdG d lt start pos (ys.set pos new) = ys.set pos new := by
  rw [sdG]
  split
  · rename_i hs
    have hne : pos ≠ (pos - 1) / 2 := by omega
    have e1 : (ys.set pos new).getD pos d = new := by simp [List.getD_eq_getElem?_getD, h]
    have e2 : (ys.set pos new).getD ((pos - 1) / 2) d = ys.getD ((pos - 1) / 2) d := by simp [List.getD_eq_getElem?_getD, List.getElem?_set_ne hne]
    rw [e1, e2, hl hs]; rfl
  · rfl
end
end Mine
end

section
open PySem PySem.W PyProof.Rows PySem.Spec PySem.Calls
set_option maxRecDepth 100000
set_option maxHeartbeats 8000000
namespace Mine
theorem sd_ar {a pos : Nat} (h : (a : Int) < pos) : 0 ≤ (pos : Int) - 1 ∧ ((pos : Int) - 1).toNat = pos - 1 ∧ a < pos := by omega
theorem half_lt {pos : Nat} (h : 0 < pos) : (pos - 1) / 2 < pos := by omega
theorem half_le (pos : Nat) : (((pos : Int) - 1).toNat / 2 : Nat) ≤ pos := by omega
theorem su_e1 {pos : Int} (h : 0 ≤ pos) : (2 * pos + 1).toNat = 2 * pos.toNat + 1 := by omega
theorem su_e2 {pos : Int} (h : 0 ≤ pos) : (2 * pos + 1 + 1).toNat = 2 * pos.toNat + 1 + 1 := by omega
theorem su_lt {pos : Int} (h : 0 ≤ pos) : 0 ≤ 2 * pos + 1 ∧ 0 ≤ 2 * pos + 1 + 1 ∧ pos < 2 * pos + 1 ∧ pos < 2 * pos + 1 + 1 := by omega
theorem nat_lt {k : Int} {N : Nat} (h : k < N) (h0 : 0 ≤ k) : k.toNat < N := by omega
theorem su_me {N p : Nat} (h : p < N) : N - (2 * p + 1) < N - p ∧ N - (2 * p + 1 + 1) < N - p := by omega
theorem ne_2 (p : Nat) : 2 * p + 1 ≠ p ∧ 2 * p + 1 + 1 ≠ p := by omega
theorem cast_lt {k : Int} {N M : Nat} (e : M = N) (h : k < N) : k < M := e ▸ h
theorem sd_ne {a pos : Nat} (h : (a : Int) < pos) : ((((pos : Int) - 1).toNat / 2 : Nat) : Int).toNat ≠ pos ∧ ((pos : Int) - 1).toNat / 2 < pos := by
  have e := (sd_ar h).2.1
  rw [Int.toNat_natCast, e]
  have := half_lt (Nat.lt_of_le_of_lt (Nat.zero_le _) (sd_ar h).2.2)
  exact ⟨Nat.ne_of_lt this, this⟩
theorem su_ne {pos : Int} (h : 0 ≤ pos) : (2 * pos + 1).toNat ≠ pos.toNat ∧ (2 * pos + 1 + 1).toNat ≠ pos.toNat ∧ (2 * pos + 1).toNat ≠ (2 * pos + 1 + 1).toNat := by
  rw [su_e1 h, su_e2 h]
  exact ⟨(ne_2 _).1, (ne_2 _).2, Nat.ne_of_lt (Nat.lt_succ_self _)⟩
theorem su_m {pos : Int} {N : Nat} (h : 0 ≤ pos) (h1 : pos < N) : N - (2 * pos + 1).toNat < N - pos.toNat ∧ N - (2 * pos + 1 + 1).toNat < N - pos.toNat := by
  rw [su_e1 h, su_e2 h]
  exact su_me (nat_lt h1 h)
theorem sub1 {N : Nat} {k : Int} (h : k + 1 < N) : k < N := by omega
theorem sd_turn {rest : List (Addr × Obj)} {N : Nat} {ys : List Ent} {new : Ent} {a pos : Nat} {R : List Ent} (j1 : ys.length = N) (j2 : pos < N) (j3 : sdG dEnt elt a pos (ys.set pos new) = R) (j4 : ((ys.set pos new).map (·.p)).Nodup) (j5 : Tups rest ys)
    (ha : (a : Int) < pos) (hl : elt new (ys.getD ((((pos : Int) - 1).toNat / 2 : Nat) : Int).toNat dEnt) = true) :
    (ys.set (pos : Int).toNat (ys.getD ((((pos : Int) - 1).toNat / 2 : Nat) : Int).toNat dEnt)).length = N ∧ ((pos : Int) - 1).toNat / 2 < N ∧
    sdG dEnt elt a (((pos : Int) - 1).toNat / 2) ((ys.set (pos : Int).toNat (ys.getD ((((pos : Int) - 1).toNat / 2 : Nat) : Int).toNat dEnt)).set (((pos : Int) - 1).toNat / 2) new) = R ∧
    (((ys.set (pos : Int).toNat (ys.getD ((((pos : Int) - 1).toNat / 2 : Nat) : Int).toNat dEnt)).set (((pos : Int) - 1).toNat / 2) new).map (·.p)).Nodup ∧
    Tups rest (ys.set (pos : Int).toNat (ys.getD ((((pos : Int) - 1).toNat / 2 : Nat) : Int).toNat dEnt)) := by
  have e1 := (sd_ar ha).2.1
  have ha' := (sd_ar ha).2.2
  have hh := half_lt (Nat.lt_of_le_of_lt (Nat.zero_le _) ha')
  simp only [Int.toNat_natCast, e1] at hl ⊢
  have hp : pos < ys.length := j1.symm ▸ j2
  have hk : (pos - 1) / 2 < ys.length := Nat.lt_trans hh hp
  refine ⟨by rw [List.length_set]; exact j1, j1 ▸ hk, ?_, ?_, ?_⟩
  · rw [← sdG_step hp ha' hl]; exact j3
  · rw [hole_swp hp (Nat.ne_of_gt hh)]
    exact ((swp_perm (by simpa using hp) (by simpa using hk)).map _).nodup_iff.mpr j4
  · intro e he
    rcases List.mem_or_eq_of_mem_set he with h | h
    · exact j5 e h
    · exact h ▸ j5 _ (getD_mem hk)
theorem chd_set {ys : List Ent} {pos c : Nat} {new : Ent} (h1 : c ≠ pos) (h2 : c + 1 ≠ pos) : chd dEnt elt (ys.set pos new) c = chd dEnt elt ys c := by
  unfold chd; rw [set_getD_ne (Ne.symm h1), set_getD_ne (Ne.symm h2), List.length_set]
theorem su_turn {rest : List (Addr × Obj)} {N : Nat} {ys : List Ent} {new : Ent} {pos q : Int} {R : List Ent × Nat} (j1 : ys.length = N) (j2 : 0 ≤ pos) (j3 : pos < N)
    (j4 : ∃ f, N ≤ pos.toNat + f ∧ suG dEnt elt pos.toNat (ys.set pos.toNat new) f = R) (j5 : ((ys.set pos.toNat new).map (·.p)).Nodup) (j6 : Tups rest ys)
    (hc : 2 * pos + 1 < N) (hq0 : pos < q) (hq1 : q < N) (hq : chd dEnt elt ys (2 * pos.toNat + 1) = q.toNat) :
    (ys.set pos.toNat (ys.getD q.toNat dEnt)).length = N ∧ 0 ≤ q ∧ q < N ∧
    (∃ f, N ≤ q.toNat + f ∧ suG dEnt elt q.toNat ((ys.set pos.toNat (ys.getD q.toNat dEnt)).set q.toNat new) f = R) ∧
    (((ys.set pos.toNat (ys.getD q.toNat dEnt)).set q.toNat new).map (·.p)).Nodup ∧
    Tups rest (ys.set pos.toNat (ys.getD q.toNat dEnt)) := by
  obtain ⟨f, hf, e⟩ := j4
  have hp : pos.toNat < ys.length := nat_lt (j1.symm ▸ j3) j2
  have hk : q.toNat < ys.length := nat_lt (j1.symm ▸ hq1) (Int.le_trans j2 (Int.le_of_lt hq0))
  have hpq : pos.toNat < q.toNat := (Int.toNat_lt_toNat (Int.lt_of_le_of_lt j2 hq0)).mpr hq0
  have hcc : 2 * pos.toNat + 1 < ys.length := su_e1 j2 ▸ nat_lt (j1.symm ▸ hc) (su_lt j2).1
  refine ⟨by rw [List.length_set]; exact j1, Int.le_trans j2 (Int.le_of_lt hq0), hq1, ?_, ?_, ?_⟩
  · obtain ⟨f, rfl⟩ : ∃ f', f = f' + 1 := ⟨f - 1, (fun (h1 : N ≤ pos.toNat + f) (h2 : pos.toNat < N) => (by omega : f = f - 1 + 1)) hf (j1 ▸ hp)⟩
    refine ⟨f, (fun (h1 : N ≤ pos.toNat + (f + 1)) (h2 : pos.toNat < q.toNat) => (by omega : N ≤ q.toNat + f)) hf hpq, ?_⟩
    rw [suG, if_pos (by rw [List.length_set]; exact hcc), chd_set (ne_2 _).1 (ne_2 _).2, hq] at e
    rw [hole_swp hp (Nat.ne_of_lt hpq)]
    exact e
  · rw [hole_swp hp (Nat.ne_of_lt hpq)]
    exact ((swp_perm (by simpa using hp) (by simpa using hk)).map _).nodup_iff.mpr j5
  · intro e he
    rcases List.mem_or_eq_of_mem_set he with h | h
    · exact j6 e h
    · exact h ▸ j6 _ (getD_mem hk)
theorem su_end {N : Nat} {ys : List Ent} {new : Ent} {pos : Int} {R : List Ent × Nat} (j1 : ys.length = N) (j2 : 0 ≤ pos)
    (j4 : ∃ f, N ≤ pos.toNat + f ∧ suG dEnt elt pos.toNat (ys.set pos.toNat new) f = R) (hc : ¬ 2 * pos + 1 < N) : R = (ys.set pos.toNat new, pos.toNat) := by
  obtain ⟨f, hf, e⟩ := j4
  rw [← e]
  cases f with
  | zero => rfl
  | succ f => rw [suG, if_neg (by rw [List.length_set, ← su_e1 j2]; exact fun c => hc (j1 ▸ (Int.toNat_lt (su_lt j2).1).mp c))]
theorem chd_l {ys : List Ent} {pos : Int} (h0 : 0 ≤ pos) (h : elt (ys.getD (2 * pos + 1).toNat dEnt) (ys.getD (2 * pos + 1 + 1).toNat dEnt) = true) : chd dEnt elt ys (2 * pos.toNat + 1) = (2 * pos + 1).toNat := by
  have e1 := su_e1 h0
  have e2 := su_e2 h0
  rw [e1, e2] at h
  unfold chd
  rw [if_neg (fun c => by rw [h] at c; exact Bool.noConfusion c.2), e1]
theorem chd_r {ys : List Ent} {pos : Int} {N : Nat} (hN : ys.length = N) (h0 : 0 ≤ pos) (hl : 2 * pos + 1 + 1 < N) (h : elt (ys.getD (2 * pos + 1).toNat dEnt) (ys.getD (2 * pos + 1 + 1).toNat dEnt) = false) : chd dEnt elt ys (2 * pos.toNat + 1) = (2 * pos + 1 + 1).toNat := by
  have e1 := su_e1 h0
  have e2 := su_e2 h0
  rw [e1, e2] at h
  unfold chd
  rw [if_pos ⟨e2 ▸ nat_lt (hN.symm ▸ hl) (su_lt h0).2.1, h⟩, e2]
theorem chd_e {ys : List Ent} {pos : Int} {N : Nat} (hN : ys.length = N) (h0 : 0 ≤ pos) (hl : ¬ 2 * pos + 1 + 1 < N) : chd dEnt elt ys (2 * pos.toNat + 1) = (2 * pos + 1).toNat := by
  unfold chd
  rw [if_neg (fun c => hl (hN ▸ (Int.toNat_lt (su_lt h0).2.1).mp (su_e2 h0 ▸ c.1)))]
  exact (su_e1 h0).symm
section
theorem sd {w : World} {mean : ExcName → Option Value} {mg mb : Str → Option Value} {H : Addr} {xs : List Ent} {n : Nat} {rest : List (Addr × Obj)} {a b : Nat} {ta tb : Tok}
   (hR : ∀ p ∈ rest, p.1 ≠ H) (hb : b < xs.length) (hz : xs.length ≤ 1000) (hT : Tups rest xs) (hD : (xs.map (·.p)).Nodup) :
   Tell w mean mg mb 56 [.ref H, .int a ta, .int b tb] ((H, hO xs n) :: rest) 2 8 (fun r news' => r = .none ∧ news' = (H, hO (sdG dEnt elt a b xs) n) :: rest) := by
  unfold Tell
  intro dp un gd cn cs ad ccd cl outer A₀ base h₀ L m s Q E B F X N T hk hd hu hret
  refine wpAny_call ?_
  have q0 : (b : Int) < xs.length := Int.ofNat_lt.mpr hb
  k_dflt ktr_enter
  k_with_none
  k_with "subscriptTail" => (k_here; (with_reducible show wpAny _ _ (subscriptTail _ _ (Value.ref _) (Value.int _ _)) _ _ _); k_dflt (refine' get_tree ?k1 ?k2 ?k3 ?k4 ?k5 ?_ ?k7 ?k8; (case k1 => k_asm); (case k2 => k_mem); (case k3 => first | assumption | exact Int.natCast_nonneg _ | omega); (case k4 => first | assumption | exact cast_lt j1 (by assumption) | omega); (case k5 => first | assumption | omega); (case k7 => with_unfolding_all rfl); (case k8 => (intro _; with_unfolding_all rfl)); k_whole))
  k_with "binaryOp RShift int int" => (k_here; (with_reducible refine rsh1 ?kb1 ?_); (case kb1 => first | exact (sd_ar (by assumption)).1 | omega))
  k_with "setItem ref int ref" => (k_here; k_dflt (refine' set_item ?k1 ?k2 ?k3 ?k4 ?k5 ?k6 ?_; (case k1 => k_asm); (case k2 => k_asm); (case k3 => k_asm); (case k4 => first | assumption | exact Int.natCast_nonneg _ | omega); (case k5 => first | assumption | omega); (case k6 => first | assumption | omega); k_whole); intro h' F' N'; (try k_sweep))
  k_with "exec While Compare cons nil" =>
    (rename Fr _ _ _ _ => lF)
    (rename News _ _ _ _ => lN)
    with_unfolding_all refine' ksw_while (σ := Nat × Tok × List Ent) (fun c => (H, hO c.2.2 n) :: rest) (fun c => [(Str.ofString "pos", .int (c.1 : Int) c.2.1)]) (fun _ => True) [Str.ofString "parentpos", Str.ofString "parent"] (fun c => c.2.2.length = xs.length ∧ c.1 < xs.length ∧ sdG dEnt elt a c.1 (c.2.2.set c.1 (xs.getD b dEnt)) = sdG dEnt elt a b xs ∧ ((c.2.2.set c.1 (xs.getD b dEnt)).map (·.p)).Nodup ∧ Tups rest c.2.2) (fun c => c.1) (b, tb, xs) lF ?kn ?kf ?kk ?kp ?_
    (case kn => exact lN)
    (case kf => trivial)
    (case kk => kst_all)
    (case kp => exact ⟨rfl, hb, by dsimp only; rw [set_self hb], by dsimp only; rw [set_self hb]; exact hD, hT⟩)
    (clear lF lN)
    rintro ⟨pos, tk, ys⟩ kU kH kTk kFacts ⟨j1, j2, j3, j4, j5⟩ kFr kNews
    dsimp only at j1 j2 j3 j4 j5 kFr kNews
    have q1 : ys.length ≤ 1000 := j1.symm ▸ hz
    have q2 : pos < ys.length := j1.symm ▸ j2
    have q3 : (pos : Int) < ys.length := Int.ofNat_lt.mpr q2
    have q4 : ((((pos : Int) - 1).toNat / 2 : Nat) : Int) < ys.length := Int.ofNat_lt.mpr (Nat.lt_of_le_of_lt (half_le pos) q2)
    have q5 : ((((pos : Int) - 1).toNat / 2 : Nat) : Int).toNat < ys.length := Nat.lt_of_le_of_lt (half_le pos) q2
    (try k_fold)
  k_with "compareOp Lt ref ref" =>
    (rename News _ _ _ _ => lN)
    refine lt_hole lN j5 (hT _ (getD_mem hb)) j4 q5 q2 (sd_ne (by assumption)).1 (unit3 (dn := 0) hu rfl) ?_
  k_with "KswEnd" => refine hold ?_
  k_steps
  · unfold Hold
    (rename Fr _ _ _ _ => lF)
    (rename News _ _ _ _ => lN)
    refine ksw_end (((pos : Int) - 1).toNat / 2, ?tk, ys.set (pos : Int).toNat (ys.getD ((((pos : Int) - 1).toNat / 2 : Nat) : Int).toNat dEnt)) lF lN (fun _ hp => hp) trivial ?kk ?kr ?kp ?km
    (case kk => kst_all)
    (case kr =>
      intro z h2 h3
      have hz := h2 _ (List.Mem.head _)
      have hc := h3
      simp only [List.contains_cons, List.contains_nil, Bool.or_false, Bool.or_eq_false_iff, beq_eq_false_iff_ne, ne_eq] at hc
      exact (if_neg hz).trans ((if_neg hc.2).trans ((if_neg hc.1).trans ((if_neg hz).trans (if_neg (by rw [h3]; exact Bool.false_ne_true))))))
    (case kp => exact sd_turn j1 j2 j3 j4 j5 (by assumption) (by assumption))
    (case km => exact (sd_ne (by assumption)).2)
  · (rename News h₀ _ _ _ => lN)
    (rename elt _ _ = false => lE)
    (try simp only [Int.toNat_natCast] at lN)
    refine hret _ _ _ _ (by k_asm) lN ⟨rfl, ?_⟩
    have e1 := (sd_ar (by assumption)).2.1
    simp only [Int.toNat_natCast, e1] at lE
    rw [← j3, sdG_stop q2 (fun _ => lE)]
  · (rename News h₀ _ _ _ => lN)
    (try simp only [Int.toNat_natCast] at lN)
    refine hret _ _ _ _ (by k_asm) lN ⟨rfl, ?_⟩
    rw [← j3, sdG_stop q2 (fun hc => absurd (Int.ofNat_lt.mpr hc) (by assumption))]
theorem sdI {w : World} {mean : ExcName → Option Value} {mg mb : Str → Option Value} {H : Addr} {xs : List Ent} {n : Nat} {rest : List (Addr × Obj)} {a b : Int} {ta tb : Tok}
   (hR : ∀ p ∈ rest, p.1 ≠ H) (ha : 0 ≤ a) (hb0 : 0 ≤ b) (hb : b < xs.length) (hz : xs.length ≤ 1000) (hT : Tups rest xs) (hD : (xs.map (·.p)).Nodup) :
   Tell w mean mg mb 56 [.ref H, .int a ta, .int b tb] ((H, hO xs n) :: rest) 2 8 (fun r news' => r = .none ∧ news' = (H, hO (sdG dEnt elt a.toNat b.toNat xs) n) :: rest) := by
  obtain ⟨a', rfl⟩ := Int.eq_ofNat_of_zero_le ha
  obtain ⟨b', rfl⟩ := Int.eq_ofNat_of_zero_le hb0
  exact sd hR (Int.ofNat_lt.mp hb) hz hT hD
theorem su {w : World} {mean : ExcName → Option Value} {mg mb : Str → Option Value} {H : Addr} {xs : List Ent} {n : Nat} {rest : List (Addr × Obj)} {a : Int} {ta : Tok}
   (hR : ∀ p ∈ rest, p.1 ≠ H) (ha : 0 ≤ a) (hb : a < xs.length) (hz : xs.length ≤ 1000) (hT : Tups rest xs) (hD : (xs.map (·.p)).Nodup) :
   Tell w mean mg mb 63 [.ref H, .int a ta] ((H, hO xs n) :: rest) 4 16 (fun r news' => r = .none ∧ news' = (H, hO (siftup dEnt elt a.toNat xs) n) :: rest) := by
  unfold Tell
  intro dp un gd cn cs ad ccd cl outer A₀ base h₀ L m s Q E B F X N T hk hd hu hret
  refine wpAny_call ?_
  k_dflt ktr_enter
  k_with_none
  k_with "subscriptTail" => (k_here; (with_reducible show wpAny _ _ (subscriptTail _ _ (Value.ref _) (Value.int _ _)) _ _ _); k_dflt (refine' get_tree ?k1 ?k2 ?k3 ?k4 ?k5 ?_ ?k7 ?k8; (case k1 => k_asm); (case k2 => k_mem); (case k3 => first | assumption | exact Int.natCast_nonneg _ | omega); (case k4 => first | assumption | exact cast_lt j1 (by assumption) | omega); (case k5 => first | assumption | omega); (case k7 => with_unfolding_all rfl); (case k8 => (intro _; with_unfolding_all rfl)); k_whole))
  k_with "binaryOp RShift int int" => (k_here; (with_reducible refine rsh1 ?kb1 ?_); (case kb1 => first | exact (sd_ar (by assumption)).1 | omega))
  k_with "setItem ref int ref" => (k_here; k_dflt (refine' set_item ?k1 ?k2 ?k3 ?k4 ?k5 ?k6 ?_; (case k1 => k_asm); (case k2 => k_asm); (case k3 => k_asm); (case k4 => first | assumption | exact Int.natCast_nonneg _ | omega); (case k5 => first | assumption | omega); (case k6 => first | assumption | omega); k_whole); intro h' F' N'; (try k_sweep))
  k_with "call builtin:len" => (k_here; k_dflt (refine' len_item ?k1 ?k2 ?k3 ?_; (case k1 => k_asm); (case k2 => k_mem); (case k3 => first | assumption | omega); k_whole))
  k_with "exec While Compare cons nil" =>
    (rename Fr _ _ _ _ => lF)
    (rename News _ _ _ _ => lN)
    with_unfolding_all refine' ksw_while (σ := Int × Tok × Tok × List Ent) (fun c => (H, hO c.2.2.2 n) :: rest) (fun c => [(Str.ofString "pos", .int c.1 c.2.1), (Str.ofString "childpos", .int (2 * c.1 + 1) c.2.2.1)]) (fun _ => True) [Str.ofString "rightpos"] (fun c => c.2.2.2.length = xs.length ∧ 0 ≤ c.1 ∧ c.1 < xs.length ∧ (∃ f, xs.length ≤ c.1.toNat + f ∧ suG dEnt elt c.1.toNat (c.2.2.2.set c.1.toNat (xs.getD a.toNat dEnt)) f = suG dEnt elt a.toNat xs xs.length) ∧ ((c.2.2.2.set c.1.toNat (xs.getD a.toNat dEnt)).map (·.p)).Nodup ∧ Tups rest c.2.2.2) (fun c => xs.length - c.1.toNat) (a, _, _, xs) lF ?kn ?kf ?kk ?kp ?_
    (case kn => exact lN)
    (case kf => trivial)
    (case kk => kst_all)
    (case kp => exact ⟨rfl, ha, hb, ⟨xs.length, Nat.le_add_left _ _, by dsimp only; rw [set_self (nat_lt hb ha)]⟩, by dsimp only; rw [set_self (nat_lt hb ha)]; exact hD, hT⟩)
    (clear lF lN)
    rintro ⟨pos, tk, tk2, ys⟩ kU kH kTk kFacts ⟨j1, j2, j3, j4, j5, j6⟩ kFr kNews
    dsimp only at j1 j2 j3 j4 j5 j6 kFr kNews
    have q1 : ys.length ≤ 1000 := j1.symm ▸ hz
    have q2 : pos < (ys.length : Int) := j1.symm ▸ j3
    obtain ⟨s1, s2, s3, s4⟩ := su_lt j2
    (try k_fold)
  k_with "compareOp Lt ref ref" =>
    (rename News _ _ _ _ => lN)
    refine lt_two lN j6 j5 (nat_lt (cast_lt j1 (by assumption)) s1) (nat_lt (cast_lt j1 (by assumption)) s2) (su_ne j2).1 (su_ne j2).2.1 (su_ne j2).2.2 (unit3 (dn := 0) hu rfl) ?_
  k_with "KswEnd" => refine hold ?_
  k_with "call ref" =>
    (rename News _ _ _ _ => lN)
    k_dflt refine' Tell.use2 (sdI hR ?c1 ?c2 ?c3 ?c4 ?c5 ?c6) ?k1 ?k2 ?k3 lN ?k5 ?kK ?kd ?ku ?_
    (case c1 => exact ha)
    (case c2 => exact j2)
    (case c3 => (rw [List.length_set]; exact q2))
    (case c4 => (rw [List.length_set]; exact q1))
    (case c5 => exact tups_set j6 (hT _ (getD_mem (nat_lt hb ha))))
    (case c6 => exact j5)
    (case k1 => k_asm)
    (case k2 => k_asm)
    (case k3 => k_asm)
    (case k5 => k_asm)
    (case kK => exact rfl)
    (case kd => first | exact room1 hd rfl | ktr_room)
    (case ku => first | exact unit3 hu rfl | exact unit1 hu rfl | exact unit0 hu rfl | exact unit2 hu rfl | ktr_units)
    clear lN
    intro h9 tk9 F9 N9
    (try dsimp only)
  k_steps
  · unfold Hold
    (rename Fr _ _ _ _ => lF)
    (rename News _ _ _ _ => lN)
    (rename elt _ _ = true => lE)
    refine ksw_end (2 * pos + 1, ?ta1, ?tb1, ys.set pos.toNat (ys.getD (2 * pos + 1).toNat dEnt)) lF lN (fun _ hp => hp) trivial ?kk ?kr ?kp ?km
    (case kk => kst_all)
    (case kr =>
      intro z h2 h3
      have hz := h2 _ (List.Mem.head _)
      have hz2 := h2 _ (List.Mem.tail _ (List.Mem.head _))
      have hc := h3
      simp only [List.contains_cons, List.contains_nil, Bool.or_false, beq_eq_false_iff_ne, ne_eq] at hc
      exact (if_neg hz2).trans ((if_neg hz).trans ((if_neg hc).trans ((if_neg hz).trans ((if_neg hz2).trans (if_neg (by rw [h3]; exact Bool.false_ne_true)))))))
    (case kp => exact su_turn j1 j2 j3 j4 j5 j6 (by assumption) s3 (by assumption) (chd_l j2 lE))
    (case km => exact (su_m j2 j3).1)
  · unfold Hold
    (rename Fr _ _ _ _ => lF)
    (rename News _ _ _ _ => lN)
    (rename elt _ _ = false => lE)
    refine ksw_end (2 * pos + 1 + 1, ?ta2, ?tb2, ys.set pos.toNat (ys.getD (2 * pos + 1 + 1).toNat dEnt)) lF lN (fun _ hp => hp) trivial ?kk ?kr ?kp ?km
    (case kk => kst_all)
    (case kr =>
      intro z h2 h3
      have hz := h2 _ (List.Mem.head _)
      have hz2 := h2 _ (List.Mem.tail _ (List.Mem.head _))
      have hc := h3
      simp only [List.contains_cons, List.contains_nil, Bool.or_false, beq_eq_false_iff_ne, ne_eq] at hc
      exact (if_neg hz2).trans ((if_neg hz).trans ((if_neg hz2).trans ((if_neg hc).trans ((if_neg hz).trans ((if_neg hz2).trans (if_neg (by rw [h3]; exact Bool.false_ne_true))))))))
    (case kp => exact su_turn j1 j2 j3 j4 j5 j6 (by assumption) s4 (by assumption) (chd_r j1 j2 (by assumption) lE))
    (case km => exact (su_m j2 j3).2)
  · unfold Hold
    (rename Fr _ _ _ _ => lF)
    (rename News _ _ _ _ => lN)
    refine ksw_end (2 * pos + 1, ?ta3, ?tb3, ys.set pos.toNat (ys.getD (2 * pos + 1).toNat dEnt)) lF lN (fun _ hp => hp) trivial ?kk ?kr ?kp ?km
    (case kk => kst_all)
    (case kr =>
      intro z h2 h3
      have hz := h2 _ (List.Mem.head _)
      have hz2 := h2 _ (List.Mem.tail _ (List.Mem.head _))
      have hc := h3
      simp only [List.contains_cons, List.contains_nil, Bool.or_false, beq_eq_false_iff_ne, ne_eq] at hc
      exact (if_neg hz2).trans ((if_neg hz).trans ((if_neg hc).trans ((if_neg hz).trans ((if_neg hz2).trans (if_neg (by rw [h3]; exact Bool.false_ne_true)))))))
    (case kp => exact su_turn j1 j2 j3 j4 j5 j6 (by assumption) s3 (by assumption) (chd_e j1 j2 (by assumption)))
    (case km => exact (su_m j2 j3).1)
  · (rename News h₀ _ _ _ => lN)
    refine hret _ _ _ _ (by k_asm) lN ⟨rfl, ?_⟩
    rw [siftup, su_end j1 j2 j4 (by assumption)]
end
end Mine
end

section
open PySem PySem.W PyProof.Rows PySem.Spec PySem.Calls
set_option maxRecDepth 100000
namespace Mine
section
variable {prog : Program} {w : World} {A : Around} {E : Value → Shared → Prop} {s : Shared} {env : Env}
/-- what stands at a turn's end -/
def ForEnd (I : Nat → Shared → Prop) (Q : Flow → Shared → Prop) (n : Nat) (f : Flow) (s₃ : Shared) : Prop := match f with
  | .next | .cont => ∃ m, m < n ∧ I m s₃
  | .brk => Q .next s₃
  | .ret v => Q (.ret v) s₃
def ForTurn (prog : Program) (w : World) (A : Around) (env : Env) (target : PySem.Expr) (body : List Stmt) (Q : Flow → Shared → Prop) (E : Value → Shared → Prop) (it : Value) (I : Nat → Shared → Prop) (n : Nat) (r : Option Value) (s₁ : Shared) : Prop := match r with
  | none => Q .next s₁
  | some v => wpAny (model prog w) A (letOwnedTupleGo target it v) (fun _ s₁' => wpAny (model prog w) A (assign target env v) (fun _ s₂ => wpAny (model prog w) A (execs body env) (ForEnd I Q n) E s₂) E s₁') E s₁
def ForAt (prog : Program) (w : World) (A : Around) (env : Env) (target : PySem.Expr) (body : List Stmt) (Q : Flow → Shared → Prop) (E : Value → Shared → Prop) (it : Value) (s₂ : Shared) : Prop :=
  ∃ (I : Nat → Shared → Prop) (n : Nat), I n s₂ ∧ ∀ n s, I n s → wpAny (model prog w) A (pyNext it) (ForTurn prog w A env target body Q E it I n) E s

theorem for_any {target iter : PySem.Expr} {body : List Stmt} {pos : Pos} {Q : Flow → Shared → Prop}
    (h : wpAny (model prog w) A (eval iter env) (fun x s₁ => wpAny (model prog w) A (pyIter x) (fun it s₂ => ForAt prog w A env target body Q E it s₂) E s₁) E s)
    (hs : ∀ x, foldedSetIterable iter env x = pure x := by intro _; rfl) (hE : PassesOwn (model prog w) A env E := by passes_own) :
    wpAny (model prog w) A (exec (.For target iter body [] pos) env) Q E s := by
  refine wpAny_For (wpAny_mono h (fun xv s₁ h₁ => wpAny_mono h₁ (fun it s₂ h₂ => ?_) fun _ _ e => e) fun _ _ e => e) hs
  obtain ⟨I, n, hI, turn⟩ := h₂
  refine codeAny_forLoop_any I (fun n s hI => ?_) n hI
  refine wpAny_mono (turn n s hI) (fun r s₁ h₁ => ?_) hE
  cases r with
  | none => exact wpAny_execs_nil h₁
  | some v =>
    refine wpAny_mono h₁ (fun _ s₂ h₂ => wpAny_mono h₂ (fun _ s₃ h₃ => wpAny_mono h₃ (fun f s₄ h₄ => ?_) hE) hE) hE
    cases f <;> exact h₄

abbrev riO (x left step : Int) : Obj := { cls := .type "range_iterator", dict := none, data := .fields #[rawInt x, rawInt left, rawInt step], slots := #[] }
theorem call_range_reversed {r : Addr} {k : Int} {t u v : Tok} {Q : Value → Shared → Prop} (hr : IsRange s.heap r 0 k 1 t u v) (h0 : 0 ≤ k) (hk : k ≤ 1000)
    (h : Q (.ref s.heap.objs.size) { s with heap := s.heap.push (riO (k - 1) k (-1)) }) : wpAny (model prog w) A (call (.builtin "range.__reversed__") [.ref r]) Q E s := by
  have hT : s.TypeIs (.ref r) "range" := ⟨_, hr, rfl⟩
  refine wpAny_call_entry F.slot_range_reversed hT F.entry_range_reversed ?_ (F.args_range_reversed_1 _)
  unfold Builtin.«range.__reversed__»
  refine wpAny_bind (wpAny_of_eq (a := Value.ref r) rfl ?_)
  unfold Builtin.Range.rangeFields
  have hz : Builtin.Range.rangeSize 0 k 1 = k := by
    unfold Builtin.Range.rangeSize
    rw [if_pos (by decide)]
    split <;> omega
  refine wpAny_bind (wpAny_bind (wpAny_field hr rfl (x := .int 0 t) rfl ?_))
  refine wpAny_bind (wpAny_of_eq (a := some 0) rfl ?_)
  refine wpAny_bind (wpAny_field hr rfl (x := .int k u) rfl ?_)
  refine wpAny_bind (wpAny_of_eq (a := some k) rfl ?_)
  refine wpAny_bind (wpAny_field hr rfl (x := .int 1 v) rfl ?_)
  refine wpAny_bind (wpAny_of_eq (a := some 1) rfl ?_)
  refine wpAny_pure ?_
  dsimp only
  rw [hz]
  have hsm : (Builtin.Range.rangeFitsLong 0 && Builtin.Range.rangeFitsLong k && Builtin.Range.rangeFitsLong 1 && Builtin.Range.rangeFitsLong (-1) && Builtin.Range.rangeFitsLong (0 - 1) && Builtin.Range.rangeFitsLong k) = true := by
    have : Builtin.Range.rangeFitsLong k = true := by
      unfold Builtin.Range.rangeFitsLong
      simp only [Bool.and_eq_true, decide_eq_true_eq]
      omega
    rw [this]
    decide
  rw [hsm]
  simp only [Bool.not_true, Bool.false_eq_true, if_false, if_true]
  have e1 : (0 : Int) + (k - 1) * 1 = k - 1 := by omega
  rw [e1]
  exact wpAny_bind (wpAny_newObj_type (wpAny_pure ⟨_, rfl, h⟩))
theorem sub_ri_reversed : isSubtype (.type "range_iterator") (.type "reversed") = pure false := by rw [isSubtype_type]; kernel_rfl
theorem code_reversed_range {r : Addr} {k : Int} {t u v : Tok} {Q₁ : Value → Shared → Prop} (hr : IsRange s.heap r 0 k 1 t u v) (h0 : 0 ≤ k) (hk : k ≤ 1000)
    (h : Q₁ (.ref s.heap.objs.size) { s with heap := s.heap.push (riO (k - 1) k (-1)) }) :
    codeAny (model prog w) A (.call (.builtin "reversed.__new__") ⟨[.type "reversed", .ref r], []⟩) (wants Q₁ E) s := by
  have hT : s.TypeIs (.ref r) "range" := ⟨_, hr, rfl⟩
  refine codeAny_of_tree ?_
  show wpAny _ A.in1 (do checkBuiltinCall "reversed.__new__" ⟨[.type "reversed", .ref r], []⟩; again (.builtin "reversed.__new__" ⟨[.type "reversed", .ref r], []⟩)) _ _ s
  refine wpAny_bind (wpAny_of_eq (F.newCall_reversed_1 _) (wpAny_pure ⟨plainId_quiet F.plain_reversed_new _, codeAny_builtin F.entry_reversed_new ?_⟩))
  rw [Around.under_plainId F.plain_reversed_new _]
  unfold Builtin.«reversed.__new__»
  refine wpAny_bind (wpAny_of_eq (newClass_reversed _) ?_)
  refine wpAny_bind (wpAny_of_eq (a := ()) (by first | rfl | kernel_rfl) ?_)
  refine wpAny_bind (wpAny_of_eq (a := ()) (by first | rfl | kernel_rfl) ?_)
  refine wpAny_bind (wpAny_specialOf hT F.slot_range_reversed.lookup ?_)
  refine wpAny_bind (wpAny_of_eq (F.slot_range_reversed.bind _) ?_)
  show wpAny _ _ (if (Value.builtin "range.__reversed__" == Value.none) = true then _ else _) _ _ _
  rw [if_neg (show ¬ ((Value.builtin "range.__reversed__" == Value.none) = true) from Bool.false_ne_true)]
  refine wpAny_bind (wpAny_rule ?_)
  refine wpAny_bind (m := runValue (.call (.builtin "range.__reversed__") ⟨[.ref r], []⟩)) (show wpAny _ _ (call (.builtin "range.__reversed__") [.ref r]) _ _ _ from call_range_reversed hr h0 hk ?_)
  exact wpAny_pure h
theorem call_reversed_range {r : Addr} {k : Int} {t u v : Tok} {Q : Value → Shared → Prop} (hr : IsRange s.heap r 0 k 1 t u v) (h0 : 0 ≤ k) (hk : k ≤ 1000)
    (h : Q (.ref s.heap.objs.size) { s with heap := s.heap.push (riO (k - 1) k (-1)) }) : wpAny (model prog w) A (call (.type "reversed") [.ref r]) Q E s := by
  refine callType_other (U := "range_iterator") (Q₁ := fun obj s₁ => obj = .ref s.heap.objs.size ∧ s₁ = { s with heap := s.heap.push (riO (k - 1) k (-1)) }) (by decide +kernel) F.create_reversed ⟨_, _, F.mro_reversed⟩ F.made_reversed sub_ri_reversed (F.typeCall_reversed_1 _) (code_reversed_range hr h0 hk ⟨rfl, rfl⟩) ?_
  rintro obj s₁ ⟨rfl, rfl⟩
  exact ⟨⟨_, Heap.get?_push_size _ rfl, rfl⟩, h⟩

theorem fr_ext {g h h' : Heap} {L D : Addr} {m : Str → Option Value} (F : Fr g L h m) (he : Heap.ExtBut D h h') (hL : D ≠ L) (hg : g.get? D = none) : Fr g L h' m :=
  ⟨F.ns.extBut he (Ne.symm hL), fun b o e => he b o (fun q => by rw [q, hg] at e; cases e) (F.keep b o e), F.above⟩
theorem news_ext {g h h' : Heap} {L D : Addr} {r : List (Addr × Obj)} (N : News g L h r) (he : Heap.ExtBut D h h') (hne : ∀ p ∈ r, p.1 ≠ D) : News g L h' r :=
  fun p hp => ⟨he _ _ (hne p hp) (N p hp).1, (N p hp).2⟩
theorem fr_eq {g h : Heap} {L : Addr} {m m' : Str → Option Value} (F : Fr g L h m) (e : ∀ z, m z = m' z) : Fr g L h m' := (funext e : m = m') ▸ F

def DownEnd {σ : Type} (g : Heap) (L it : Addr) (s : Shared) (x : Str) (m₀ : Str → Option Value) (Led : σ → List (Addr × Obj)) (P : Nat → σ → Prop) (j : Nat) (f : Flow) (s₃ : Shared) : Prop :=
  (f = .next ∨ f = .cont) ∧ ∃ c' h' tk' u', s₃ = { s with heap := h', toks := tk' } ∧ Fr g L h' (fun y => if y = x then u' else m₀ y) ∧ News g L h' ((it, riO ((j : Int) - 1) j (-1)) :: Led c') ∧ P j c'
theorem for_down {σ : Type} {x : Str} {px : Pos} {body : List Stmt} {Q : Flow → Shared → Prop} {k : Nat} {g : Heap} {L it : Addr} {m₀ : Str → Option Value} (Led : σ → List (Addr × Obj)) (P : Nat → σ → Prop) (c₀ : σ)
    (F : Fr g L s.heap m₀) (N : News g L s.heap ((it, riO ((k : Int) - 1) k (-1)) :: Led c₀)) (h0 : P k c₀) (hne : ∀ c, ∀ p ∈ Led c, p.1 ≠ it)
    (turn : ∀ j c u h tk t, P (j + 1) c → j < k → Fr g L h (fun y => if y = x then some (.int (j : Int) t) else if y = x then u else m₀ y) → News g L h ((it, riO ((j : Int) - 1) j (-1)) :: Led c) →
      wpAny (model prog w) A (execs body env) (DownEnd g L it s x m₀ Led P j) E { s with heap := h, toks := tk })
    (done : ∀ c u h tk, P 0 c → Fr g L h (fun y => if y = x then u else m₀ y) → News g L h (Led c) → Q .next { s with heap := h, toks := tk })
    (hA : A.handled = none) (hl : env.locals = L) (hx : env.kindOf x = some .local) (hp : (env.scope.kind == .class || (env.scope.kind == .module && env.locals != env.globals)) = false) :
    ForAt prog w A env (.Name x px) body Q E (.ref it) s := by
  have e0 : ∀ z, m₀ z = (if z = x then m₀ x else m₀ z) := fun z => by split <;> simp_all
  refine ⟨fun n s' => ∃ c h tk u j, n = j + 1 ∧ j ≤ k ∧ s' = { s with heap := h, toks := tk } ∧ Fr g L h (fun y => if y = x then u else m₀ y) ∧ News g L h ((it, riO ((j : Int) - 1) j (-1)) :: Led c) ∧ P j c, k + 1, ⟨c₀, s.heap, s.toks, m₀ x, k, rfl, Nat.le_refl _, rfl, fr_eq F e0, N, h0⟩, ?_⟩
  rintro n s' ⟨c, h, tk, u, j, rfl, hjk, rfl, F₁, N₁, hP⟩
  have hit := N₁ _ (.head _)
  cases j with
  | zero =>
    refine wpAny_pyNext_range_end hA hit.1 (by decide) fun h' he => ?_
    exact done c u h' tk hP (fr_ext F₁ he hit.2.1 hit.2.2) (news_ext (fun p hp => N₁ p (.tail _ hp)) he (hne c))
  | succ j =>
    refine wpAny_pyNext_range_item hit.1 (by omega) fun h' hi hs => ?_
    have F₂ := F₁.change hs hit.2.1 hit.2.2
    have e1 : ((j + 1 : Nat) : Int) - 1 + -1 = (j : Int) - 1 := by omega
    have e2 : ((j + 1 : Nat) : Int) - 1 = (j : Int) := by omega
    rw [e1, e2] at hi
    have N₂ : News g L h' ((it, riO ((j : Int) - 1) j (-1)) :: Led c) := fun p hp => by
      rcases List.mem_cons.mp hp with rfl | hp
      · exact ⟨hi, hit.2⟩
      · have z := N₁ p (.tail _ hp)
        exact ⟨(hs.2 _ (hne c p hp)).trans z.1, z.2⟩
    rw [e2]
    refine wpAny_of_eq (a := ()) rfl ?_
    refine wpAny_assign_Name (wpAny_storeName_local hx (hl ▸ F₂.ns) (fun h₂ hn hs₂ => ?_) hp)
    rw [hl] at hn hs₂
    refine wpAny_mono (turn j c u h₂ _ _ hP (by omega) (F₂.set hn hs₂) (N₂.set hs₂)) (fun f s₃ h₃ => ?_) fun _ _ e => e
    obtain ⟨hf, c', h', tk', u', rfl, F₃, N₃, hP'⟩ := h₃
    rcases hf with rfl | rfl <;> exact ⟨j + 1, by omega, c', h', tk', u', j, rfl, by omega, rfl, F₃, N₃, hP'⟩
end
end Mine
end

section
open PySem PySem.W PyProof.Rows PySem.Spec PySem.Calls
set_option maxRecDepth 100000
set_option maxHeartbeats 8000000
namespace Mine
def popRest (xs : List Ent) : List Ent := if xs.length ≤ 1 then [] else siftup dEnt elt 0 (xs.dropLast.set 0 (xs.getLastD dEnt))
theorem getD_left {xs ys : List Ent} {i : Nat} (h : i < xs.length) : (xs ++ ys).getD i dEnt = xs.getD i dEnt := by
  rw [List.getD_eq_getElem?_getD, List.getD_eq_getElem?_getD, List.getElem?_append_left h]
theorem getLastD_ne {xs : List Ent} (h : xs ≠ []) : xs.getLastD dEnt = xs.getLast h := by
  rw [List.getLastD_eq_getLast?, List.getLast?_eq_some_getLast h]; rfl
def heapG : Nat → List Ent → List Ent
  | 0, xs => xs
  | k + 1, xs => heapG k (siftup dEnt elt k xs)
theorem news_tail {h₀ h : Heap} {L : Addr} {p : Addr × Obj} {r : List (Addr × Obj)} (N : News h₀ L h (p :: r)) : News h₀ L h r := fun q hq => N q (.tail _ hq)
section
theorem push_ {w : World} {mean : ExcName → Option Value} {mg mb : Str → Option Value} {H : Addr} {xs : List Ent} {e : Ent} {n : Nat} {rest : List (Addr × Obj)}
   (hR : ∀ p ∈ rest, p.1 ≠ H) (hz : xs.length < 1000) (hT : Tups rest xs) (he : (e.a, tupO e) ∈ rest) (hD : ((xs ++ [e]).map (·.p)).Nodup) :
   Tell w mean mg mb 21 [.ref H, .ref e.a] ((H, hO xs n) :: rest) 4 16 (fun r news' => r = .none ∧ news' = (H, hO (sdG dEnt elt 0 xs.length (xs ++ [e])) (n + 1)) :: rest) := by
  unfold Tell
  intro dp un gd cn cs ad ccd cl outer A₀ base h₀ L m s Q E B F X N T hk hd hu hret
  refine wpAny_call ?_
  k_dflt ktr_enter
  k_with_none
  k_with "subscriptTail" => (k_here; (with_reducible show wpAny _ _ (subscriptTail _ _ (Value.ref _) (Value.int _ _)) _ _ _); k_dflt (refine' get_tree ?k1 ?k2 ?k3 ?k4 ?k5 ?_ ?k7 ?k8; (case k1 => k_asm); (case k2 => k_mem); (case k3 => omega); (case k4 => (first | omega | (simp only [List.length_set, List.length_dropLast, List.length_append, List.length_cons, List.length_nil, List.length_reverse]; omega))); (case k5 => (first | omega | (simp only [List.length_set, List.length_dropLast, List.length_append, List.length_cons, List.length_nil, List.length_reverse]; omega))); (case k7 => with_unfolding_all rfl); (case k8 => (intro _; with_unfolding_all rfl)); k_whole))
  k_with "setItem ref int ref" => (k_here; k_dflt (refine' set_item ?k1 ?k2 ?k3 ?k4 ?k5 ?k6 ?_; (case k1 => k_asm); (case k2 => first | k_asm | exact news_tail (by k_asm)); (case k3 => k_asm); (case k4 => omega); (case k5 => (first | omega | (simp only [List.length_set, List.length_dropLast, List.length_append, List.length_cons, List.length_nil, List.length_reverse]; omega))); (case k6 => (first | omega | (simp only [List.length_set, List.length_dropLast, List.length_append, List.length_cons, List.length_nil, List.length_reverse]; omega))); k_whole); intro h' F' N'; (try k_sweep))
  k_with "call builtin:len" => (k_here; k_dflt (refine' len_item ?k1 ?k2 ?k3 ?_; (case k1 => k_asm); (case k2 => k_mem); (case k3 => (first | omega | (simp only [List.length_set, List.length_dropLast, List.length_append, List.length_cons, List.length_nil, List.length_reverse]; omega))); k_whole))
  k_with "truthy ref" => (k_here; k_dflt (refine' truth_item ?k1 ?k2 ?k3 ?_; (case k1 => k_asm); (case k2 => k_mem); (case k3 => (first | omega | (simp only [List.length_set, List.length_dropLast, List.length_append, List.length_cons, List.length_nil, List.length_reverse]; omega))); k_whole))
  k_with "call builtin:list.append" =>
    (rename Fr _ _ _ _ => lF)
    (rename News _ _ _ _ => lN)
    refine append_item lF lN hR (by omega) ?_
    clear lF lN
    intro h' F' N'
  k_with "call ref" =>
    (rename News _ _ _ _ => lN)
    k_dflt refine' Tell.use2 (sdI hR ?c1 ?c2 ?c3 ?c4 ?c5 ?c6) ?k1 ?k2 ?k3 lN ?k5 ?kK ?kd ?ku ?_
    (case c1 => decide)
    (case c2 => (simp only [List.length_append, List.length_cons, List.length_nil]; omega))
    (case c3 => (simp only [List.length_append, List.length_cons, List.length_nil]; omega))
    (case c4 => (simp only [List.length_append, List.length_cons, List.length_nil]; omega))
    (case c5 => (intro x hx; rcases List.mem_append.mp hx with h | h; exact hT x h; (simp only [List.mem_singleton] at h; exact h ▸ he)))
    (case c6 => exact hD)
    (case k1 => k_asm)
    (case k2 => k_asm)
    (case k3 => k_asm)
    (case k5 => k_asm)
    (case kK => exact rfl)
    (case kd => first | exact room1 hd rfl | ktr_room)
    (case ku => first | exact unit3 hu rfl | exact unit1 hu rfl | exact unit0 hu rfl | exact unit2 hu rfl | ktr_units)
    clear lN
    intro h9 tk9 F9 N9
    (try dsimp only)
  k_steps
  · (rename News h₀ _ _ _ => lN)
    refine hret _ _ _ _ (by k_asm) lN ⟨rfl, ?_⟩
    have e1 : (((xs ++ [e]).length : Int) - 1).toNat = xs.length := by simp only [List.length_append, List.length_cons, List.length_nil]; omega
    rw [e1]; rfl
theorem pop_ {w : World} {mean : ExcName → Option Value} {mg mb : Str → Option Value} {H : Addr} {xs : List Ent} {n : Nat} {rest : List (Addr × Obj)}
   (hR : ∀ p ∈ rest, p.1 ≠ H) (hz : xs.length < 1000) (hT : Tups rest xs) (hD : (xs.map (·.p)).Nodup) (hne : xs ≠ []) :
   Tell w mean mg mb 28 [.ref H] ((H, hO xs n) :: rest) 6 24 (fun r news' => r = .ref (xs.getD 0 dEnt).a ∧ news' = (H, hO (popRest xs) (n + 1)) :: rest) := by
  unfold Tell
  intro dp un gd cn cs ad ccd cl outer A₀ base h₀ L m s Q E B F X N T hk hd hu hret
  refine wpAny_call ?_
  k_dflt ktr_enter
  k_with_none
  k_with "subscriptTail" => (k_here; (with_reducible show wpAny _ _ (subscriptTail _ _ (Value.ref _) (Value.int _ _)) _ _ _); k_dflt (refine' get_tree ?k1 ?k2 ?k3 ?k4 ?k5 ?_ ?k7 ?k8; (case k1 => k_asm); (case k2 => k_mem); (case k3 => omega); (case k4 => (first | omega | (simp only [List.length_set, List.length_dropLast, List.length_append, List.length_cons, List.length_nil, List.length_reverse]; omega))); (case k5 => (first | omega | (simp only [List.length_set, List.length_dropLast, List.length_append, List.length_cons, List.length_nil, List.length_reverse]; omega))); (case k7 => with_unfolding_all rfl); (case k8 => (intro _; with_unfolding_all rfl)); k_whole))
  k_with "setItem ref int ref" => (k_here; k_dflt (refine' set_item ?k1 ?k2 ?k3 ?k4 ?k5 ?k6 ?_; (case k1 => k_asm); (case k2 => first | k_asm | exact news_tail (by k_asm)); (case k3 => k_asm); (case k4 => omega); (case k5 => (first | omega | (simp only [List.length_set, List.length_dropLast, List.length_append, List.length_cons, List.length_nil, List.length_reverse]; omega))); (case k6 => (first | omega | (simp only [List.length_set, List.length_dropLast, List.length_append, List.length_cons, List.length_nil, List.length_reverse]; omega))); k_whole); intro h' F' N'; (try k_sweep))
  k_with "call builtin:len" => (k_here; k_dflt (refine' len_item ?k1 ?k2 ?k3 ?_; (case k1 => k_asm); (case k2 => k_mem); (case k3 => (first | omega | (simp only [List.length_set, List.length_dropLast, List.length_append, List.length_cons, List.length_nil, List.length_reverse]; omega))); k_whole))
  k_with "truthy ref" => (k_here; k_dflt (refine' truth_item ?k1 ?k2 ?k3 ?_; (case k1 => k_asm); (case k2 => k_mem); (case k3 => (first | omega | (simp only [List.length_set, List.length_dropLast, List.length_append, List.length_cons, List.length_nil, List.length_reverse]; omega))); k_whole))
  k_with "call builtin:list.pop" =>
    (rename Fr _ _ _ _ => lF)
    (rename News _ _ _ _ => lN)
    refine pop_item lF lN hR (by omega) hne ?_
    clear lF lN
    intro h' F' N'
  have hx : xs.dropLast ++ [xs.getLast hne] = xs := List.dropLast_concat_getLast hne
  have hl : xs.getLastD dEnt = xs.getLast hne := getLastD_ne hne
  k_with "call ref" =>
    (rename News _ _ _ _ => lN)
    k_dflt refine' Tell.use2 (su hR ?c1 ?c2 ?c3 ?c4 ?c5) ?k1 ?k2 ?k3 lN ?k5 ?kK ?kd ?ku ?_
    (case c1 => decide)
    (case c2 => (rw [List.length_set]; omega))
    (case c3 => (rw [List.length_set, List.length_dropLast]; omega))
    (case c4 => exact tups_set (tups_mono hT fun _ h => (List.dropLast_sublist xs).subset h) (hT _ (List.getLast_mem hne)))
    (case c5 => exact nodup_set0 (by rw [hx]; exact hD))
    (case k1 => k_asm)
    (case k2 => k_asm)
    (case k3 => k_asm)
    (case k5 => k_asm)
    (case kK => exact rfl)
    (case kd => first | exact room1 hd rfl | ktr_room)
    (case ku => first | exact unit3 hu rfl | exact unit1 hu rfl | exact unit0 hu rfl | exact unit2 hu rfl | ktr_units)
    clear lN
    intro h9 tk9 F9 N9
    (try dsimp only)
  k_steps
  · (rename News h₀ _ _ _ => lN)
    (rename 0 < xs.dropLast.length => lP)
    rw [List.length_dropLast] at lP
    have e1 : xs.dropLast.getD (0 : Int).toNat dEnt = xs.getD 0 dEnt := by
      conv => rhs; rw [← hx]
      exact (getD_left (by rw [List.length_dropLast]; exact lP)).symm
    rw [e1]
    refine hret _ _ _ _ (by k_asm) lN ⟨rfl, ?_⟩
    rw [popRest, if_neg (by omega), hl]; rfl
  · (rename News h₀ _ _ _ => lN)
    (rename ¬ 0 < xs.dropLast.length => lP)
    rw [List.length_dropLast] at lP
    have h1 : xs.dropLast = [] := List.eq_nil_of_length_eq_zero (by rw [List.length_dropLast]; omega)
    have e1 : xs.getLast hne = xs.getD 0 dEnt := by
      conv => rhs; rw [← hx, h1]
      rfl
    rw [e1]
    rw [h1] at lN
    refine hret _ _ _ _ (by k_asm) lN ⟨rfl, ?_⟩
    rw [popRest, if_pos (by omega)]
  all_goals trace_state
  all_goals w_report
theorem replace_ {w : World} {mean : ExcName → Option Value} {mg mb : Str → Option Value} {H : Addr} {xs : List Ent} {e : Ent} {n : Nat} {rest : List (Addr × Obj)}
   (hR : ∀ p ∈ rest, p.1 ≠ H) (hz : xs.length < 1000) (hT : Tups rest xs) (he : (e.a, tupO e) ∈ rest) (hD : ((xs ++ [e]).map (·.p)).Nodup) (hne : 0 < xs.length) :
   Tell w mean mg mb 35 [.ref H, .ref e.a] ((H, hO xs n) :: rest) 6 24 (fun r news' => r = .ref (xs.getD 0 dEnt).a ∧ news' = (H, hO (siftup dEnt elt 0 (xs.set 0 e)) n) :: rest) := by
  unfold Tell
  intro dp un gd cn cs ad ccd cl outer A₀ base h₀ L m s Q E B F X N T hk hd hu hret
  refine wpAny_call ?_
  k_dflt ktr_enter
  k_with_none
  k_with "subscriptTail" => (k_here; (with_reducible show wpAny _ _ (subscriptTail _ _ (Value.ref _) (Value.int _ _)) _ _ _); k_dflt (refine' get_tree ?k1 ?k2 ?k3 ?k4 ?k5 ?_ ?k7 ?k8; (case k1 => k_asm); (case k2 => k_mem); (case k3 => omega); (case k4 => (first | omega | (simp only [List.length_set, List.length_dropLast, List.length_append, List.length_cons, List.length_nil, List.length_reverse]; omega))); (case k5 => (first | omega | (simp only [List.length_set, List.length_dropLast, List.length_append, List.length_cons, List.length_nil, List.length_reverse]; omega))); (case k7 => with_unfolding_all rfl); (case k8 => (intro _; with_unfolding_all rfl)); k_whole))
  k_with "setItem ref int ref" => (k_here; k_dflt (refine' set_item ?k1 ?k2 ?k3 ?k4 ?k5 ?k6 ?_; (case k1 => k_asm); (case k2 => first | k_asm | exact news_tail (by k_asm)); (case k3 => k_asm); (case k4 => omega); (case k5 => (first | omega | (simp only [List.length_set, List.length_dropLast, List.length_append, List.length_cons, List.length_nil, List.length_reverse]; omega))); (case k6 => (first | omega | (simp only [List.length_set, List.length_dropLast, List.length_append, List.length_cons, List.length_nil, List.length_reverse]; omega))); k_whole); intro h' F' N'; (try k_sweep))
  k_with "call builtin:len" => (k_here; k_dflt (refine' len_item ?k1 ?k2 ?k3 ?_; (case k1 => k_asm); (case k2 => k_mem); (case k3 => (first | omega | (simp only [List.length_set, List.length_dropLast, List.length_append, List.length_cons, List.length_nil, List.length_reverse]; omega))); k_whole))
  k_with "truthy ref" => (k_here; k_dflt (refine' truth_item ?k1 ?k2 ?k3 ?_; (case k1 => k_asm); (case k2 => k_mem); (case k3 => (first | omega | (simp only [List.length_set, List.length_dropLast, List.length_append, List.length_cons, List.length_nil, List.length_reverse]; omega))); k_whole))
  k_with "call ref" =>
    (rename News _ _ _ _ => lN)
    k_dflt refine' Tell.use2 (su hR ?c1 ?c2 ?c3 ?c4 ?c5) ?k1 ?k2 ?k3 lN ?k5 ?kK ?kd ?ku ?_
    (case c1 => decide)
    (case c2 => (rw [List.length_set]; omega))
    (case c3 => (rw [List.length_set]; omega))
    (case c4 => exact tups_set hT he)
    (case c5 => exact nodup_set0 hD)
    (case k1 => k_asm)
    (case k2 => k_asm)
    (case k3 => k_asm)
    (case k5 => k_asm)
    (case kK => exact rfl)
    (case kd => first | exact room1 hd rfl | ktr_room)
    (case ku => first | exact unit3 hu rfl | exact unit1 hu rfl | exact unit0 hu rfl | exact unit2 hu rfl | ktr_units)
    clear lN
    intro h9 tk9 F9 N9
    (try dsimp only)
  k_steps
  · (rename News h₀ _ _ _ => lN)
    exact hret _ _ _ _ (by k_asm) lN ⟨rfl, rfl⟩
theorem pushpop_ {w : World} {mean : ExcName → Option Value} {mg mb : Str → Option Value} {H : Addr} {xs : List Ent} {e : Ent} {n : Nat} {rest : List (Addr × Obj)}
   (hR : ∀ p ∈ rest, p.1 ≠ H) (hz : xs.length < 1000) (hT : Tups rest xs) (he : (e.a, tupO e) ∈ rest) (hD : ((xs ++ [e]).map (·.p)).Nodup) :
   Tell w mean mg mb 42 [.ref H, .ref e.a] ((H, hO xs n) :: rest) 6 24 (fun r news' => r = .ref (if 0 < xs.length ∧ elt (xs.getD 0 dEnt) e = true then xs.getD 0 dEnt else e).a ∧ news' = (H, hO (if 0 < xs.length ∧ elt (xs.getD 0 dEnt) e = true then siftup dEnt elt 0 (xs.set 0 e) else xs) n) :: rest) := by
  unfold Tell
  intro dp un gd cn cs ad ccd cl outer A₀ base h₀ L m s Q E B F X N T hk hd hu hret
  refine wpAny_call ?_
  k_dflt ktr_enter
  k_with_none
  k_with "subscriptTail" => (k_here; (with_reducible show wpAny _ _ (subscriptTail _ _ (Value.ref _) (Value.int _ _)) _ _ _); k_dflt (refine' get_tree ?k1 ?k2 ?k3 ?k4 ?k5 ?_ ?k7 ?k8; (case k1 => k_asm); (case k2 => k_mem); (case k3 => omega); (case k4 => (first | omega | (simp only [List.length_set, List.length_dropLast, List.length_append, List.length_cons, List.length_nil, List.length_reverse]; omega))); (case k5 => (first | omega | (simp only [List.length_set, List.length_dropLast, List.length_append, List.length_cons, List.length_nil, List.length_reverse]; omega))); (case k7 => with_unfolding_all rfl); (case k8 => (intro _; with_unfolding_all rfl)); k_whole))
  k_with "setItem ref int ref" => (k_here; k_dflt (refine' set_item ?k1 ?k2 ?k3 ?k4 ?k5 ?k6 ?_; (case k1 => k_asm); (case k2 => first | k_asm | exact news_tail (by k_asm)); (case k3 => k_asm); (case k4 => omega); (case k5 => (first | omega | (simp only [List.length_set, List.length_dropLast, List.length_append, List.length_cons, List.length_nil, List.length_reverse]; omega))); (case k6 => (first | omega | (simp only [List.length_set, List.length_dropLast, List.length_append, List.length_cons, List.length_nil, List.length_reverse]; omega))); k_whole); intro h' F' N'; (try k_sweep))
  k_with "call builtin:len" => (k_here; k_dflt (refine' len_item ?k1 ?k2 ?k3 ?_; (case k1 => k_asm); (case k2 => k_mem); (case k3 => (first | omega | (simp only [List.length_set, List.length_dropLast, List.length_append, List.length_cons, List.length_nil, List.length_reverse]; omega))); k_whole))
  k_with "truthy ref" => (k_here; k_dflt (refine' truth_item ?k1 ?k2 ?k3 ?_; (case k1 => k_asm); (case k2 => k_mem); (case k3 => (first | omega | (simp only [List.length_set, List.length_dropLast, List.length_append, List.length_cons, List.length_nil, List.length_reverse]; omega))); k_whole))
  k_with "call ref" =>
    (rename News _ _ _ _ => lN)
    k_dflt refine' Tell.use2 (su hR ?c1 ?c2 ?c3 ?c4 ?c5) ?k1 ?k2 ?k3 lN ?k5 ?kK ?kd ?ku ?_
    (case c1 => decide)
    (case c2 => (rw [List.length_set]; omega))
    (case c3 => (rw [List.length_set]; omega))
    (case c4 => exact tups_set hT he)
    (case c5 => exact nodup_set0 hD)
    (case k1 => k_asm)
    (case k2 => k_asm)
    (case k3 => k_asm)
    (case k5 => k_asm)
    (case kK => exact rfl)
    (case kd => first | exact room1 hd rfl | ktr_room)
    (case ku => first | exact unit3 hu rfl | exact unit1 hu rfl | exact unit0 hu rfl | exact unit2 hu rfl | ktr_units)
    clear lN
    intro h9 tk9 F9 N9
    (try dsimp only)
  k_with "compareOp Lt ref ref" =>
    (rename News _ _ _ _ => lN)
    refine lt_ent (lN _ (.tail _ (hT _ (getD_mem (by first | omega | assumption))))).1 (lN _ (.tail _ he)).1 ?_ (by ktr_units) ?_
    · have := nodup_ne hD (i := 0) (j := xs.length) (by simp) (by simp) (by omega)
      rw [getD_left (by omega)] at this
      have e1 : (xs ++ [e]).getD xs.length dEnt = e := by simp [List.getD_eq_getElem?_getD]
      rw [e1] at this
      exact this
  k_steps
  · (rename News h₀ _ _ _ => lN)
    (rename elt _ _ = true => lE)
    (rename 0 < xs.length => lP)
    have hc : 0 < xs.length ∧ elt (xs.getD 0 dEnt) e = true := ⟨lP, lE⟩
    refine hret _ _ _ _ (by k_asm) lN ⟨?_, ?_⟩
    · rw [if_pos hc]; rfl
    · rw [if_pos hc]; rfl
  · (rename News h₀ _ _ _ => lN)
    (rename elt _ _ = false => lE)
    have hc : ¬ (0 < xs.length ∧ elt (xs.getD 0 dEnt) e = true) := fun c => by
      have := lE.symm.trans c.2
      exact Bool.noConfusion this
    refine hret _ _ _ _ (by k_asm) lN ⟨?_, ?_⟩
    · rw [if_neg hc]
    · rw [if_neg hc]
  · (rename News h₀ _ _ _ => lN)
    have hc : ¬ (0 < xs.length ∧ elt (xs.getD 0 dEnt) e = true) := fun c => by omega
    refine hret _ _ _ _ (by k_asm) lN ⟨?_, ?_⟩
    · rw [if_neg hc]
    · rw [if_neg hc]
end
end Mine
end

section
open PySem PySem.W PyProof.Rows PySem.Spec PySem.Calls
set_option maxRecDepth 100000
set_option maxHeartbeats 8000000
namespace Mine
theorem half_eq (n : Nat) : (n : Int).fdiv 2 = ((n / 2 : Nat) : Int) := by rw [Int.fdiv_eq_ediv_of_nonneg _ (by decide)]; omega
theorem news_swap {h₀ h : Heap} {L : Addr} {a b : Addr × Obj} {r : List (Addr × Obj)} (N : News h₀ L h (a :: b :: r)) : News h₀ L h (b :: a :: r) := fun p hp => N p (by
  rcases List.mem_cons.mp hp with rfl | hp
  · exact .tail _ (.head _)
  · rcases List.mem_cons.mp hp with rfl | hp
    · exact .head _
    · exact .tail _ (.tail _ hp))
section
theorem heapify_ {w : World} {mean : ExcName → Option Value} {mg mb : Str → Option Value} {H : Addr} {xs : List Ent} {n : Nat} {rest : List (Addr × Obj)}
   (hR : ∀ p ∈ rest, p.1 ≠ H) (hz : xs.length < 1000) (hT : Tups rest xs) (hD : (xs.map (·.p)).Nodup) :
   Tell w mean mg mb 49 [.ref H] ((H, hO xs n) :: rest) 6 24 (fun r news' => r = .none ∧ news' = (H, hO (heapG (xs.length / 2) xs) n) :: rest) := by
  unfold Tell
  intro dp un gd cn cs ad ccd cl outer A₀ base h₀ L m s Q E B F X N T hk hd hu hret
  refine wpAny_call ?_
  k_dflt ktr_enter
  k_with_none
  k_with "exec For Name Call cons nil" => k_dflt refine for_any ?_
  k_with "DownEnd" => refine hold ?_
  k_with "call builtin:len" => (k_here; k_dflt (refine' len_item ?k1 ?k2 ?k3 ?_; (case k1 => k_asm); (case k2 => k_mem); (case k3 => omega); k_whole))
  k_with "call type:reversed" =>
    (rename IsRange _ _ _ _ _ _ _ _ => lR)
    (rename Fr _ _ _ _ => lF)
    (rename News _ _ _ _ => lN)
    rw [half_eq] at lR
    refine call_reversed_range lR (by omega) (by omega) ?_
    have lF2 := lF.push (riO (((xs.length / 2 : Nat) : Int) - 1) ((xs.length / 2 : Nat) : Int) (-1))
    have lN2 := News.push lF lN (riO (((xs.length / 2 : Nat) : Int) - 1) ((xs.length / 2 : Nat) : Int) (-1))
    have lA := fun p hp => Heap.lt_size (lN p hp).1
    clear lF lN lR
    (try dsimp only)
  k_with "pyIter ref" =>
    (rename News _ _ _ _ => lN2)
    refine wpAny_pyIter_rangeiter (lN2 _ (.head _)).1 ?_
    skip
  k_with "ForAt" =>
    (rename Fr _ _ _ _ => lF2)
    (rename News _ _ _ _ => lN2)
    with_unfolding_all refine for_down (σ := List Ent) (fun c => (H, hO c n) :: rest) (fun j c => c.length = xs.length ∧ j ≤ xs.length / 2 ∧ heapG j c = heapG (xs.length / 2) xs ∧ Tups rest c ∧ (c.map (·.p)).Nodup) xs lF2 lN2 ⟨rfl, Nat.le_refl _, rfl, hT, hD⟩ (fun c p hp => Nat.ne_of_lt (by (rcases List.mem_cons.mp hp with rfl | hp); exact lA (H, hO xs n) (.head _); exact lA _ (.tail _ hp))) ?turn ?done rfl rfl rfl rfl
    (case' turn =>
      clear lF2 lN2
      rintro j c u kH kTk kT ⟨j1, j2, j3, j4, j5⟩ hj kFr kNews
      have kNews := news_swap kNews
      (try dsimp only)
      (try k_fold))
    (case' done =>
      clear lF2 lN2
      rintro c u kH kTk ⟨j1, j2, j3, j4, j5⟩ kFr kNews
      (try dsimp only))
  k_with "call ref" =>
    (rename News _ _ _ _ => lN)
    k_dflt refine' Tell.use2 (su ?c0 ?c1 ?c2 ?c3 ?c4 ?c5) ?k1 ?k2 ?k3 lN ?k5 ?kK ?kd ?ku ?_
    (case c0 => (intro p hp; rcases List.mem_cons.mp hp with rfl | hp; exact Ne.symm (Nat.ne_of_lt (lA _ (.head _))); exact hR p hp))
    (case c1 => omega)
    (case c2 => omega)
    (case c3 => omega)
    (case c4 => exact fun e he => .tail _ (j4 e he))
    (case c5 => exact j5)
    (case k1 => k_asm)
    (case k2 => k_asm)
    (case k3 => k_asm)
    (case k5 => k_asm)
    (case kK => exact rfl)
    (case kd => first | exact room1 hd rfl | ktr_room)
    (case ku => first | exact unit3 hu rfl | exact unit1 hu rfl | exact unit0 hu rfl | exact unit2 hu rfl | ktr_units)
    clear lN
    intro h9 tk9 F9 N9
    (try dsimp only)
  k_steps
  · (rename News h₀ _ _ _ => lN)
    refine hret _ _ _ _ (by k_asm) lN ⟨rfl, ?_⟩
    rw [← j3]; rfl
  · unfold Hold
    (rename Fr _ _ _ _ => lF)
    (rename News _ _ _ _ => lN)
    simp only [Int.toNat_natCast] at lN
    refine ⟨.inl rfl, siftup dEnt elt j c, _, _, some (.int (j : Int) kT), rfl, fr_eq lF (fun z => ?_), news_swap lN, ?_⟩
    · by_cases h : z = Str.ofString "i"
      · rw [if_pos h, if_pos h]
      · rw [if_neg h, if_neg h, if_neg h]
    · refine ⟨by rw [siftup_length]; exact j1, by omega, j3, tups_mono j4 fun e he => (siftup_perm (by omega)).mem_iff.mp he, ((siftup_perm (by omega)).map _).nodup_iff.mpr j5⟩
end
end Mine
end

section
open PySem PySem.W PyProof.Rows PySem.Spec PySem.Calls
set_option maxRecDepth 100000
set_option maxHeartbeats 8000000
namespace Mine
/-- a call that raises IndexError and leaves the ledger as it was -/
def TellR (w : World) (mean : ExcName → Option Value) (mg mb : Str → Option Value) (f : Addr) (args : List Value) (news : List (Addr × Obj)) (dn un' : Nat) : Prop :=
  ∀ (dp un : Nat) (gd : Option (List Code)) (cn : Str) (cs : Scope) (a : Addr) (ccd : Value) (outer : List Env) (A₀ : Around) (base h₀ : Heap) (L : Addr) (m : Str → Option Value) (s : Shared)
    (Q E : Value → Shared → Prop),
    Below A₀ base outer h₀ → Fr h₀ L s.heap m → (hd.heap_39 w.params).In h₀ → News h₀ L s.heap news → Top hd.view_39 (looseW hd.view_39 []) mean mg mb h₀ → cs.kind = .function → dp + dn < recursionLimit → un + un' < cLine →
    (∀ e G h' tk', Fr h₀ L G m → RaisedSN base G (envOf cn cs L a ccd :: outer) e (.type "IndexError") news h' → G.UpToSlots h' → E (.ref e) { s with heap := h', toks := tk' }) →
    wpAny (model PySem.Challenge.rw_mq0180_01.row.prog w) (ktrTop dp un gd cn cs L a ccd [] outer) (call (.ref f) args) Q E s
theorem TellR.use {w : World} {mean : ExcName → Option Value} {mg mb : Str → Option Value} {f : Addr} {args : List Value} {news : List (Addr × Obj)} {dn un' : Nat} (C : TellR w mean mg mb f args news dn un')
    {dp un : Nat} {gd : Option (List Code)} {cn : Str} {cs : Scope} {a : Addr} {ccd : Value} {outer : List Env} {A₀ : Around} {base h₀ : Heap} {L : Addr} {m : Str → Option Value} {s : Shared} {Q E : Value → Shared → Prop}
    (B : Below A₀ base outer h₀) (F : Fr h₀ L s.heap m) (X : (hd.heap_39 w.params).In h₀) (N : News h₀ L s.heap news) (T : Top hd.view_39 (looseW hd.view_39 []) mean mg mb h₀) (hk : cs.kind = .function) (hd : dp + dn < recursionLimit) (hu : un + un' < cLine)
    (ret : ∀ e G h' tk', Fr h₀ L G m → RaisedSN base G (envOf cn cs L a ccd :: outer) e (.type "IndexError") news h' → G.UpToSlots h' → E (.ref e) { s with heap := h', toks := tk' }) :
    wpAny (model PySem.Challenge.rw_mq0180_01.row.prog w) (ktrTop dp un gd cn cs L a ccd [] outer) (call (.ref f) args) Q E s := C _ _ _ _ _ _ _ _ _ _ _ _ _ _ _ _ B F X N T hk hd hu ret
section
variable {prog : Program} {w : World} {A : Around} {E : Value → Shared → Prop} {s : Shared} {h₀ : Heap} {L H : Addr} {news : List (Addr × Obj)} {n : Nat}
theorem pop_none {Q : Value → Shared → Prop} (N : News h₀ L s.heap news) (hm : (H, hO [] n) ∈ news) (hA : A.handled = none)
    (h : ∀ h' tk e, Heap.NewExc s.heap h' e "IndexError" → E (.ref e) { s with heap := h', toks := tk }) : wpAny (model prog w) A (call (.builtin "list.pop") [.ref H]) Q E s := by
  have z := (N _ hm).1
  exact call_meets PySem.F.slot_list_pop ⟨_, z, rfl⟩ PySem.F.entry_list_pop (PySem.F.args_list_pop_1 _) (PySem.AutoSeq1.list_pop_list_0 H (vals []).toArray n rfl) ⟨z, hA, h⟩
end
section
theorem pop_raises {w : World} {mean : ExcName → Option Value} {mg mb : Str → Option Value} {H : Addr} {n : Nat} {rest : List (Addr × Obj)} :
   TellR w mean mg mb 28 [.ref H] ((H, hO [] n) :: rest) 6 24 := by
  unfold TellR
  intro dp un gd cn cs ad ccd outer A₀ base h₀ L m s Q E B F X N T hk hd hu hret
  refine wpAny_call ?_
  k_dflt ktr_enter
  k_with_none
  k_with "call builtin:list.pop" =>
    (rename News _ _ _ _ => lN)
    refine pop_none lN (.head _) rfl ?_
    intro h9 tk9 e9 X9
  k_with "leaving ref" =>
    k_dflt (refine' leave_newS ?k1 ?k0 ?k2 ?k3 ?_; (case k0 => exact X9); (case k2 => assumption); (case k1 => assumption); (case k3 => assumption))
    intro h' S' R' U'
    (try dsimp only at S' R' U' ⊢)
  k_steps
  · exact hret _ _ _ _ (by assumption) (by assumption) (by assumption)
theorem replace_raises {w : World} {mean : ExcName → Option Value} {mg mb : Str → Option Value} {H : Addr} {v : Value} {n : Nat} {rest : List (Addr × Obj)} :
   TellR w mean mg mb 35 [.ref H, v] ((H, hO [] n) :: rest) 6 24 := by
  unfold TellR
  intro dp un gd cn cs ad ccd outer A₀ base h₀ L m s Q E B F X N T hk hd hu hret
  refine wpAny_call ?_
  k_dflt ktr_enter
  k_with_none
  k_with "subscriptTail" =>
    (rename News _ _ _ _ => lN)
    with_unfolding_all refine item_outK (items := (vals []).toArray) rfl (PySem.IsL.isList (n := n) (lN _ (.head _)).1) (.inr (by decide)) (by decide) (by decide) ?_
    intro h9 tk9 e9 X9
  k_with "leaving ref" =>
    k_dflt (refine' leave_newS ?k1 ?k0 ?k2 ?k3 ?_; (case k0 => exact X9); (case k2 => assumption); (case k1 => assumption); (case k3 => assumption))
    intro h' S' R' U'
    (try dsimp only at S' R' U' ⊢)
  k_steps
  · exact hret _ _ _ _ (by assumption) (by assumption) (by assumption)
end
end Mine
end

section
open PySem PySem.W PyProof.Rows PySem.Spec PySem.Calls
set_option maxRecDepth 100000
set_option maxHeartbeats 8000000
namespace Mine
section
theorem deed_push {w : World} {mean : ExcName → Option Value} {mg mb : Str → Option Value} {H : Addr} {xs : List Ent} {n : Nat} {tk : Tok} {k : Int} (hk2 : k < 2) {rest : List (Addr × Obj)}
   (hR : ∀ p ∈ rest, p.1 ≠ H) (hz : xs.length < 1000) (hT : Tups rest xs) {e : Ent} (he : (e.a, tupO e) ∈ rest) (hD : ((xs ++ [e]).map (·.p)).Nodup) :
   Tell w mean mg mb 206 [.ref H, .int k tk, .ref e.a] ((H, hO xs n) :: rest) 8 32 (fun r news' => r = .none ∧ news' = (H, hO (sdG dEnt elt 0 xs.length (xs ++ [e])) (n + 1)) :: rest) := by
  unfold Tell
  intro dp un gd cn cs ad ccd cl outer A₀ base h₀ L m s Q E B F X N T hk hd hu hret
  refine wpAny_call ?_
  k_dflt ktr_enter
  k_with_none
  k_with "eval Call" => ((with_reducible show wpAny _ _ (eval (PySem.Expr.Call (PySem.Expr.Name _ _) [PySem.Expr.Name _ _] [] _) _) _ _ _); (with_reducible rename Fr _ _ _ _ => kF); k_dflt (refine' call1 kF ?k1 ?k2 ?k3 ?k4 ?k5 ?_; (case k1 => k_asm); (case k2 => k_asm); (case k3 => k_is); (case k4 => k_is); (case k5 => exact rfl); k_whole))
  k_with "eval Call" => ((with_reducible show wpAny _ _ (eval (PySem.Expr.Call (PySem.Expr.Name _ _) [PySem.Expr.Name _ _, PySem.Expr.Name _ _] [] _) _) _ _ _); (with_reducible rename Fr _ _ _ _ => kF); k_dflt (refine' call2 kF ?k1 ?k2 ?k3 ?k4 ?k5 ?k6 ?_; (case k1 => k_asm); (case k2 => k_asm); (case k3 => k_is); (case k4 => k_is); (case k5 => exact rfl); (case k6 => exact rfl); k_whole))
  k_with "call ref" =>
    (rename News _ _ _ _ => lN)
    k_dflt refine' Tell.use2 (push_ hR hz hT he hD) ?k1 ?k2 ?k3 lN ?k5 ?kK ?kd ?ku ?_
    (case k1 => k_asm)
    (case k2 => k_asm)
    (case k3 => k_asm)
    (case k5 => k_asm)
    (case kK => exact rfl)
    (case kd => first | exact room1 hd rfl | ktr_room)
    (case ku => first | exact unit3 hu rfl | exact unit1 hu rfl | exact unit0 hu rfl | exact unit2 hu rfl | ktr_units)
    clear lN
    intro h9 tk9 F9 N9
    (try dsimp only)
  k_steps
  · (rename News h₀ _ _ _ => lN)
    exact hret _ _ _ _ (by k_asm) lN ⟨rfl, rfl⟩
theorem deed_pop {w : World} {mean : ExcName → Option Value} {mg mb : Str → Option Value} {H : Addr} {xs : List Ent} {n : Nat} {tk : Tok} {rest : List (Addr × Obj)}
   (hR : ∀ p ∈ rest, p.1 ≠ H) (hz : xs.length < 1000) (hT : Tups rest xs) {v : Value} (hD : (xs.map (·.p)).Nodup) (hne : xs ≠ []) :
   Tell w mean mg mb 206 [.ref H, .int 2 tk, v] ((H, hO xs n) :: rest) 8 32 (fun r news' => r = .ref (xs.getD 0 dEnt).a ∧ news' = (H, hO (popRest xs) (n + 1)) :: rest) := by
  unfold Tell
  intro dp un gd cn cs ad ccd cl outer A₀ base h₀ L m s Q E B F X N T hk hd hu hret
  refine wpAny_call ?_
  k_dflt ktr_enter
  k_with_none
  k_with "eval Call" => ((with_reducible show wpAny _ _ (eval (PySem.Expr.Call (PySem.Expr.Name _ _) [PySem.Expr.Name _ _] [] _) _) _ _ _); (with_reducible rename Fr _ _ _ _ => kF); k_dflt (refine' call1 kF ?k1 ?k2 ?k3 ?k4 ?k5 ?_; (case k1 => k_asm); (case k2 => k_asm); (case k3 => k_is); (case k4 => k_is); (case k5 => exact rfl); k_whole))
  k_with "eval Call" => ((with_reducible show wpAny _ _ (eval (PySem.Expr.Call (PySem.Expr.Name _ _) [PySem.Expr.Name _ _, PySem.Expr.Name _ _] [] _) _) _ _ _); (with_reducible rename Fr _ _ _ _ => kF); k_dflt (refine' call2 kF ?k1 ?k2 ?k3 ?k4 ?k5 ?k6 ?_; (case k1 => k_asm); (case k2 => k_asm); (case k3 => k_is); (case k4 => k_is); (case k5 => exact rfl); (case k6 => exact rfl); k_whole))
  k_with "call ref" =>
    (rename News _ _ _ _ => lN)
    k_dflt refine' Tell.use2 (pop_ hR hz hT hD hne) ?k1 ?k2 ?k3 lN ?k5 ?kK ?kd ?ku ?_
    (case k1 => k_asm)
    (case k2 => k_asm)
    (case k3 => k_asm)
    (case k5 => k_asm)
    (case kK => exact rfl)
    (case kd => first | exact room1 hd rfl | ktr_room)
    (case ku => first | exact unit3 hu rfl | exact unit1 hu rfl | exact unit0 hu rfl | exact unit2 hu rfl | ktr_units)
    clear lN
    intro h9 tk9 F9 N9
    (try dsimp only)
  k_steps
  · (rename News h₀ _ _ _ => lN)
    exact hret _ _ _ _ (by k_asm) lN ⟨rfl, rfl⟩
theorem deed_replace {w : World} {mean : ExcName → Option Value} {mg mb : Str → Option Value} {H : Addr} {xs : List Ent} {n : Nat} {tk : Tok} {rest : List (Addr × Obj)}
   (hR : ∀ p ∈ rest, p.1 ≠ H) (hz : xs.length < 1000) (hT : Tups rest xs) {e : Ent} (he : (e.a, tupO e) ∈ rest) (hD : ((xs ++ [e]).map (·.p)).Nodup) (hne : 0 < xs.length) :
   Tell w mean mg mb 206 [.ref H, .int 3 tk, .ref e.a] ((H, hO xs n) :: rest) 8 32 (fun r news' => r = .ref (xs.getD 0 dEnt).a ∧ news' = (H, hO (siftup dEnt elt 0 (xs.set 0 e)) n) :: rest) := by
  unfold Tell
  intro dp un gd cn cs ad ccd cl outer A₀ base h₀ L m s Q E B F X N T hk hd hu hret
  refine wpAny_call ?_
  k_dflt ktr_enter
  k_with_none
  k_with "eval Call" => ((with_reducible show wpAny _ _ (eval (PySem.Expr.Call (PySem.Expr.Name _ _) [PySem.Expr.Name _ _] [] _) _) _ _ _); (with_reducible rename Fr _ _ _ _ => kF); k_dflt (refine' call1 kF ?k1 ?k2 ?k3 ?k4 ?k5 ?_; (case k1 => k_asm); (case k2 => k_asm); (case k3 => k_is); (case k4 => k_is); (case k5 => exact rfl); k_whole))
  k_with "eval Call" => ((with_reducible show wpAny _ _ (eval (PySem.Expr.Call (PySem.Expr.Name _ _) [PySem.Expr.Name _ _, PySem.Expr.Name _ _] [] _) _) _ _ _); (with_reducible rename Fr _ _ _ _ => kF); k_dflt (refine' call2 kF ?k1 ?k2 ?k3 ?k4 ?k5 ?k6 ?_; (case k1 => k_asm); (case k2 => k_asm); (case k3 => k_is); (case k4 => k_is); (case k5 => exact rfl); (case k6 => exact rfl); k_whole))
  k_with "call ref" =>
    (rename News _ _ _ _ => lN)
    k_dflt refine' Tell.use2 (replace_ hR hz hT he hD hne) ?k1 ?k2 ?k3 lN ?k5 ?kK ?kd ?ku ?_
    (case k1 => k_asm)
    (case k2 => k_asm)
    (case k3 => k_asm)
    (case k5 => k_asm)
    (case kK => exact rfl)
    (case kd => first | exact room1 hd rfl | ktr_room)
    (case ku => first | exact unit3 hu rfl | exact unit1 hu rfl | exact unit0 hu rfl | exact unit2 hu rfl | ktr_units)
    clear lN
    intro h9 tk9 F9 N9
    (try dsimp only)
  k_steps
  · (rename News h₀ _ _ _ => lN)
    exact hret _ _ _ _ (by k_asm) lN ⟨rfl, rfl⟩
theorem deed_pushpop {w : World} {mean : ExcName → Option Value} {mg mb : Str → Option Value} {H : Addr} {xs : List Ent} {n : Nat} {tk : Tok} {rest : List (Addr × Obj)}
   (hR : ∀ p ∈ rest, p.1 ≠ H) (hz : xs.length < 1000) (hT : Tups rest xs) {e : Ent} (he : (e.a, tupO e) ∈ rest) (hD : ((xs ++ [e]).map (·.p)).Nodup) :
   Tell w mean mg mb 206 [.ref H, .int 4 tk, .ref e.a] ((H, hO xs n) :: rest) 8 32 (fun r news' => r = .ref (if 0 < xs.length ∧ elt (xs.getD 0 dEnt) e = true then xs.getD 0 dEnt else e).a ∧ news' = (H, hO (if 0 < xs.length ∧ elt (xs.getD 0 dEnt) e = true then siftup dEnt elt 0 (xs.set 0 e) else xs) n) :: rest) := by
  unfold Tell
  intro dp un gd cn cs ad ccd cl outer A₀ base h₀ L m s Q E B F X N T hk hd hu hret
  refine wpAny_call ?_
  k_dflt ktr_enter
  k_with_none
  k_with "eval Call" => ((with_reducible show wpAny _ _ (eval (PySem.Expr.Call (PySem.Expr.Name _ _) [PySem.Expr.Name _ _] [] _) _) _ _ _); (with_reducible rename Fr _ _ _ _ => kF); k_dflt (refine' call1 kF ?k1 ?k2 ?k3 ?k4 ?k5 ?_; (case k1 => k_asm); (case k2 => k_asm); (case k3 => k_is); (case k4 => k_is); (case k5 => exact rfl); k_whole))
  k_with "eval Call" => ((with_reducible show wpAny _ _ (eval (PySem.Expr.Call (PySem.Expr.Name _ _) [PySem.Expr.Name _ _, PySem.Expr.Name _ _] [] _) _) _ _ _); (with_reducible rename Fr _ _ _ _ => kF); k_dflt (refine' call2 kF ?k1 ?k2 ?k3 ?k4 ?k5 ?k6 ?_; (case k1 => k_asm); (case k2 => k_asm); (case k3 => k_is); (case k4 => k_is); (case k5 => exact rfl); (case k6 => exact rfl); k_whole))
  k_with "call ref" =>
    (rename News _ _ _ _ => lN)
    k_dflt refine' Tell.use2 (pushpop_ hR hz hT he hD) ?k1 ?k2 ?k3 lN ?k5 ?kK ?kd ?ku ?_
    (case k1 => k_asm)
    (case k2 => k_asm)
    (case k3 => k_asm)
    (case k5 => k_asm)
    (case kK => exact rfl)
    (case kd => first | exact room1 hd rfl | ktr_room)
    (case ku => first | exact unit3 hu rfl | exact unit1 hu rfl | exact unit0 hu rfl | exact unit2 hu rfl | ktr_units)
    clear lN
    intro h9 tk9 F9 N9
    (try dsimp only)
  k_steps
  · (rename News h₀ _ _ _ => lN)
    exact hret _ _ _ _ (by k_asm) lN ⟨rfl, rfl⟩
theorem deed_heapify {w : World} {mean : ExcName → Option Value} {mg mb : Str → Option Value} {H : Addr} {xs : List Ent} {n : Nat} {tk : Tok} {rest : List (Addr × Obj)}
   (hR : ∀ p ∈ rest, p.1 ≠ H) (hz : xs.length < 1000) (hT : Tups rest xs) {v : Value} (hD : (xs.map (·.p)).Nodup) :
   Tell w mean mg mb 206 [.ref H, .int 5 tk, v] ((H, hO xs n) :: rest) 8 32 (fun r news' => r = .none ∧ news' = (H, hO (heapG (xs.length / 2) xs.reverse) n) :: rest) := by
  unfold Tell
  intro dp un gd cn cs ad ccd cl outer A₀ base h₀ L m s Q E B F X N T hk hd hu hret
  refine wpAny_call ?_
  k_dflt ktr_enter
  k_with_none
  k_with "eval Call" => ((with_reducible show wpAny _ _ (eval (PySem.Expr.Call (PySem.Expr.Name _ _) [PySem.Expr.Name _ _] [] _) _) _ _ _); (with_reducible rename Fr _ _ _ _ => kF); k_dflt (refine' call1 kF ?k1 ?k2 ?k3 ?k4 ?k5 ?_; (case k1 => k_asm); (case k2 => k_asm); (case k3 => k_is); (case k4 => k_is); (case k5 => exact rfl); k_whole))
  k_with "eval Call" => ((with_reducible show wpAny _ _ (eval (PySem.Expr.Call (PySem.Expr.Name _ _) [PySem.Expr.Name _ _, PySem.Expr.Name _ _] [] _) _) _ _ _); (with_reducible rename Fr _ _ _ _ => kF); k_dflt (refine' call2 kF ?k1 ?k2 ?k3 ?k4 ?k5 ?k6 ?_; (case k1 => k_asm); (case k2 => k_asm); (case k3 => k_is); (case k4 => k_is); (case k5 => exact rfl); (case k6 => exact rfl); k_whole))
  k_with "call builtin:list.reverse" =>
    (rename Fr _ _ _ _ => lF)
    (rename News _ _ _ _ => lN)
    refine reverse_item lF lN hR (by omega) ?_
    clear lF lN
    intro h' F' N'
  k_with "call ref" =>
    (rename News _ _ _ _ => lN)
    k_dflt refine' Tell.use2 (heapify_ hR ?c1 ?c2 ?c3) ?k1 ?k2 ?k3 lN ?k5 ?kK ?kd ?ku ?_
    (case c1 => (rw [List.length_reverse]; omega))
    (case c2 => exact tups_mono hT fun _ h => List.mem_reverse.mp h)
    (case c3 => exact ((List.reverse_perm xs).map _).nodup_iff.mpr hD)
    (case k1 => k_asm)
    (case k2 => k_asm)
    (case k3 => k_asm)
    (case k5 => k_asm)
    (case kK => exact rfl)
    (case kd => first | exact room1 hd rfl | ktr_room)
    (case ku => first | exact unit3 hu rfl | exact unit1 hu rfl | exact unit0 hu rfl | exact unit2 hu rfl | ktr_units)
    clear lN
    intro h9 tk9 F9 N9
    (try dsimp only)
  k_steps
  · (rename News h₀ _ _ _ => lN)
    rw [List.length_reverse] at lN
    exact hret _ _ _ _ (by k_asm) lN ⟨rfl, rfl⟩
theorem deed_pop_raises {w : World} {mean : ExcName → Option Value} {mg mb : Str → Option Value} {H : Addr} {n : Nat} {tk : Tok} {v : Value} {rest : List (Addr × Obj)} :
   TellR w mean mg mb 206 [.ref H, .int 2 tk, v] ((H, hO [] n) :: rest) 8 32 := by
  unfold TellR
  intro dp un gd cn cs ad ccd outer A₀ base h₀ L m s Q E B F X N T hk hd hu hret
  refine wpAny_call ?_
  k_dflt ktr_enter
  k_with_none
  k_with "eval Call" => ((with_reducible show wpAny _ _ (eval (PySem.Expr.Call (PySem.Expr.Name _ _) [PySem.Expr.Name _ _] [] _) _) _ _ _); (with_reducible rename Fr _ _ _ _ => kF); k_dflt (refine' call1 kF ?k1 ?k2 ?k3 ?k4 ?k5 ?_; (case k1 => k_asm); (case k2 => k_asm); (case k3 => k_is); (case k4 => k_is); (case k5 => exact rfl); k_whole))
  k_with "eval Call" => ((with_reducible show wpAny _ _ (eval (PySem.Expr.Call (PySem.Expr.Name _ _) [PySem.Expr.Name _ _, PySem.Expr.Name _ _] [] _) _) _ _ _); (with_reducible rename Fr _ _ _ _ => kF); k_dflt (refine' call2 kF ?k1 ?k2 ?k3 ?k4 ?k5 ?k6 ?_; (case k1 => k_asm); (case k2 => k_asm); (case k3 => k_is); (case k4 => k_is); (case k5 => exact rfl); (case k6 => exact rfl); k_whole))
  k_with "call ref" =>
    (rename News _ _ _ _ => lN)
    k_dflt refine' TellR.use (pop_raises (n := n)) ?k1 ?k2 ?k3 lN ?k5 ?kK ?kd ?ku ?_
    (case k1 => k_asm)
    (case k2 => k_asm)
    (case k3 => k_asm)
    (case k5 => k_asm)
    (case kK => exact rfl)
    (case kd => first | exact room1 hd rfl | ktr_room)
    (case ku => first | exact unit3 hu rfl | exact unit1 hu rfl | exact unit0 hu rfl | exact unit2 hu rfl | ktr_units)
    intro e9 G9 h9 tk9 F9 R9 U9
  k_with "leaving ref" =>
    k_dflt (refine' leave_onSN ?k1 ?k2 R9 U9 ?_; (case k2 => exact F9); (case k1 => assumption))
    intro h' S' R' U'
    (try dsimp only at S' R' U' ⊢)
  k_steps
  · exact hret _ _ _ _ (by assumption) (by assumption) (by assumption)
theorem deed_replace_raises {w : World} {mean : ExcName → Option Value} {mg mb : Str → Option Value} {H : Addr} {n : Nat} {tk : Tok} {v : Value} {rest : List (Addr × Obj)} :
   TellR w mean mg mb 206 [.ref H, .int 3 tk, v] ((H, hO [] n) :: rest) 8 32 := by
  unfold TellR
  intro dp un gd cn cs ad ccd outer A₀ base h₀ L m s Q E B F X N T hk hd hu hret
  refine wpAny_call ?_
  k_dflt ktr_enter
  k_with_none
  k_with "eval Call" => ((with_reducible show wpAny _ _ (eval (PySem.Expr.Call (PySem.Expr.Name _ _) [PySem.Expr.Name _ _] [] _) _) _ _ _); (with_reducible rename Fr _ _ _ _ => kF); k_dflt (refine' call1 kF ?k1 ?k2 ?k3 ?k4 ?k5 ?_; (case k1 => k_asm); (case k2 => k_asm); (case k3 => k_is); (case k4 => k_is); (case k5 => exact rfl); k_whole))
  k_with "eval Call" => ((with_reducible show wpAny _ _ (eval (PySem.Expr.Call (PySem.Expr.Name _ _) [PySem.Expr.Name _ _, PySem.Expr.Name _ _] [] _) _) _ _ _); (with_reducible rename Fr _ _ _ _ => kF); k_dflt (refine' call2 kF ?k1 ?k2 ?k3 ?k4 ?k5 ?k6 ?_; (case k1 => k_asm); (case k2 => k_asm); (case k3 => k_is); (case k4 => k_is); (case k5 => exact rfl); (case k6 => exact rfl); k_whole))
  k_with "call ref" =>
    (rename News _ _ _ _ => lN)
    k_dflt refine' TellR.use (replace_raises (n := n)) ?k1 ?k2 ?k3 lN ?k5 ?kK ?kd ?ku ?_
    (case k1 => k_asm)
    (case k2 => k_asm)
    (case k3 => k_asm)
    (case k5 => k_asm)
    (case kK => exact rfl)
    (case kd => first | exact room1 hd rfl | ktr_room)
    (case ku => first | exact unit3 hu rfl | exact unit1 hu rfl | exact unit0 hu rfl | exact unit2 hu rfl | ktr_units)
    intro e9 G9 h9 tk9 F9 R9 U9
  k_with "leaving ref" =>
    k_dflt (refine' leave_onSN ?k1 ?k2 R9 U9 ?_; (case k2 => exact F9); (case k1 => assumption))
    intro h' S' R' U'
    (try dsimp only at S' R' U' ⊢)
  k_steps
  · exact hret _ _ _ _ (by assumption) (by assumption) (by assumption)
end
end Mine
end

section
open PySem PySem.W PyProof.Rows PySem.Spec PySem.Calls
set_option maxRecDepth 100000
set_option maxHeartbeats 8000000
set_option linter.unusedSimpArgs false
namespace Mine
/-- the value v stands for the sign's number c -/
inductive IsCode : Value → Int → Prop where
  | int {c : Int} {t : Tok} : IsCode (.int c t) c
  | str {k : Nat} {t : Tok} : IsCode (.str ⟨#[k]⟩ t) (k : Int)
def rng (a b c : Int) : Bool := decide (a ≤ c) && decide (c ≤ b)
def jupper (c : Int) : Bool := rng 65 90 c
def jlower (c : Int) : Bool := rng 97 122 c
def jalpha (c : Int) : Bool := jupper c || jlower c
def jdigit (c : Int) : Bool := rng 48 57 c
def jalnum (c : Int) : Bool := jalpha c || jdigit c
def jascii (c : Int) : Bool := rng 0 127 c
def jblank (c : Int) : Bool := decide (c = 9) || decide (c = 32)
def jcntrl (c : Int) : Bool := rng 0 31 c || decide (c = 127)
def jgraph (c : Int) : Bool := rng 33 126 c
def jprint (c : Int) : Bool := rng 32 126 c
def jpunct (c : Int) : Bool := jgraph c && !jalnum c
def jspace (c : Int) : Bool := rng 9 13 c || decide (c = 32)
def jxdigit (c : Int) : Bool := jdigit c || rng 65 70 c || rng 97 102 c
def jctrl (c : Int) : Bool := rng 0 31 c
def jmeta (c : Int) : Bool := decide (127 < c)
section
theorem ctoi_ {w : World} {mean : ExcName → Option Value} {mg mb : Str → Option Value} {v : Value} {c : Int} {news : List (Addr × Obj)} (hv : IsCode v c) :
   Tell w mean mg mb 70 [v] news 2 8 (fun r news' => (∃ t, r = .int c t) ∧ news' = news) := by
  cases hv
  · unfold Tell
    intro dp un gd cn cs ad ccd cl outer A₀ base h₀ L m s Q E B F X N T hk hd hu hret
    refine wpAny_call ?_
    k_dflt ktr_enter
    k_with_none
    k_with "eval Call" => ((with_reducible show wpAny _ _ (eval (PySem.Expr.Call (PySem.Expr.Name _ _) [PySem.Expr.Name _ _] [] _) _) _ _ _); (with_reducible rename Fr _ _ _ _ => kF); k_dflt (refine' call1 kF ?k1 ?k2 ?k3 ?k4 ?k5 ?_; (case k1 => k_asm); (case k2 => k_asm); (case k3 => k_is); (case k4 => k_is); (case k5 => exact rfl); k_whole))
    k_steps
    · (rename News h₀ _ _ _ => lN)
      exact hret _ _ _ _ (by k_asm) lN ⟨⟨_, rfl⟩, rfl⟩
  · unfold Tell
    intro dp un gd cn cs ad ccd cl outer A₀ base h₀ L m s Q E B F X N T hk hd hu hret
    refine wpAny_call ?_
    k_dflt ktr_enter
    k_with_none
    k_with "eval Call" => ((with_reducible show wpAny _ _ (eval (PySem.Expr.Call (PySem.Expr.Name _ _) [PySem.Expr.Name _ _] [] _) _) _ _ _); (with_reducible rename Fr _ _ _ _ => kF); k_dflt (refine' call1 kF ?k1 ?k2 ?k3 ?k4 ?k5 ?_; (case k1 => k_asm); (case k2 => k_asm); (case k3 => k_is); (case k4 => k_is); (case k5 => exact rfl); k_whole))
    k_steps
    · (rename News h₀ _ _ _ => lN)
      exact hret _ _ _ _ (by k_asm) lN ⟨⟨_, rfl⟩, rfl⟩
theorem isupper_ {w : World} {mean : ExcName → Option Value} {mg mb : Str → Option Value} {v : Value} {c : Int} {news : List (Addr × Obj)} (hv : IsCode v c) :
   Tell w mean mg mb 154 [v] news 4 16 (fun r news' => r = .bool (jupper c) ∧ news' = news) := by
  unfold Tell
  intro dp un gd cn cs ad ccd cl outer A₀ base h₀ L m s Q E B F X N T hk hd hu hret
  refine wpAny_call ?_
  k_dflt ktr_enter
  k_with_none
  k_with "eval Call" => ((with_reducible show wpAny _ _ (eval (PySem.Expr.Call (PySem.Expr.Name _ _) [PySem.Expr.Name _ _] [] _) _) _ _ _); (with_reducible rename Fr _ _ _ _ => kF); k_dflt (refine' call1 kF ?k1 ?k2 ?k3 ?k4 ?k5 ?_; (case k1 => k_asm); (case k2 => k_asm); (case k3 => k_is); (case k4 => k_is); (case k5 => exact rfl); k_whole))
  k_with "call ref" =>
    (rename News _ _ _ _ => lN)
    k_dflt refine' Tell.useE (ctoi_ hv) ?k1 ?k2 ?k3 lN ?k5 ?kK ?kd ?ku ?_
    (case k1 => k_asm)
    (case k2 => k_asm)
    (case k3 => k_asm)
    (case k5 => k_asm)
    (case kK => exact rfl)
    (case kd => first | exact room1 hd rfl | ktr_room)
    (case ku => first | exact unit3 hu rfl | exact unit1 hu rfl | exact unit0 hu rfl | exact unit2 hu rfl | ktr_units)
    clear lN
    intro t9 h9 tk9 F9 N9
    (try dsimp only)
  k_steps
  all_goals
    (rename News h₀ _ _ _ => lN)
    (first | refine hret _ _ _ _ (by k_asm) lN ⟨congrArg Value.bool ?_, rfl⟩ | refine hret _ _ _ _ (by k_asm) (news_tail lN) ⟨congrArg Value.bool ?_, rfl⟩)
    clear hret qk ek lN
    (try simp only [jupper, jlower, jalpha, jdigit, jalnum, jascii, jblank, jcntrl, jgraph, jprint, jpunct, jspace, jxdigit, jctrl, jmeta, rng, Bool.and_eq_true, Bool.or_eq_true, decide_eq_true_eq, Bool.eq_false_iff, ne_eq, Bool.not_eq_true] at *)
    all_goals (first | (simp_all; done) | (rw [Bool.eq_iff_iff]; simp_all; omega) | (rw [Bool.eq_iff_iff]; simp; omega) | (trace_state; fail "end"))
theorem islower_ {w : World} {mean : ExcName → Option Value} {mg mb : Str → Option Value} {v : Value} {c : Int} {news : List (Addr × Obj)} (hv : IsCode v c) :
   Tell w mean mg mb 126 [v] news 4 16 (fun r news' => r = .bool (jlower c) ∧ news' = news) := by
  unfold Tell
  intro dp un gd cn cs ad ccd cl outer A₀ base h₀ L m s Q E B F X N T hk hd hu hret
  refine wpAny_call ?_
  k_dflt ktr_enter
  k_with_none
  k_with "eval Call" => ((with_reducible show wpAny _ _ (eval (PySem.Expr.Call (PySem.Expr.Name _ _) [PySem.Expr.Name _ _] [] _) _) _ _ _); (with_reducible rename Fr _ _ _ _ => kF); k_dflt (refine' call1 kF ?k1 ?k2 ?k3 ?k4 ?k5 ?_; (case k1 => k_asm); (case k2 => k_asm); (case k3 => k_is); (case k4 => k_is); (case k5 => exact rfl); k_whole))
  k_with "call ref" =>
    (rename News _ _ _ _ => lN)
    k_dflt refine' Tell.useE (ctoi_ hv) ?k1 ?k2 ?k3 lN ?k5 ?kK ?kd ?ku ?_
    (case k1 => k_asm)
    (case k2 => k_asm)
    (case k3 => k_asm)
    (case k5 => k_asm)
    (case kK => exact rfl)
    (case kd => first | exact room1 hd rfl | ktr_room)
    (case ku => first | exact unit3 hu rfl | exact unit1 hu rfl | exact unit0 hu rfl | exact unit2 hu rfl | ktr_units)
    clear lN
    intro t9 h9 tk9 F9 N9
    (try dsimp only)
  k_steps
  all_goals
    (rename News h₀ _ _ _ => lN)
    (first | refine hret _ _ _ _ (by k_asm) lN ⟨congrArg Value.bool ?_, rfl⟩ | refine hret _ _ _ _ (by k_asm) (news_tail lN) ⟨congrArg Value.bool ?_, rfl⟩)
    clear hret qk ek lN
    (try simp only [jupper, jlower, jalpha, jdigit, jalnum, jascii, jblank, jcntrl, jgraph, jprint, jpunct, jspace, jxdigit, jctrl, jmeta, rng, Bool.and_eq_true, Bool.or_eq_true, decide_eq_true_eq, Bool.eq_false_iff, ne_eq, Bool.not_eq_true] at *)
    all_goals (first | (simp_all; done) | (rw [Bool.eq_iff_iff]; simp_all; omega) | (rw [Bool.eq_iff_iff]; simp; omega) | (trace_state; fail "end"))
theorem isdigit_ {w : World} {mean : ExcName → Option Value} {mg mb : Str → Option Value} {v : Value} {c : Int} {news : List (Addr × Obj)} (hv : IsCode v c) :
   Tell w mean mg mb 112 [v] news 4 16 (fun r news' => r = .bool (jdigit c) ∧ news' = news) := by
  unfold Tell
  intro dp un gd cn cs ad ccd cl outer A₀ base h₀ L m s Q E B F X N T hk hd hu hret
  refine wpAny_call ?_
  k_dflt ktr_enter
  k_with_none
  k_with "eval Call" => ((with_reducible show wpAny _ _ (eval (PySem.Expr.Call (PySem.Expr.Name _ _) [PySem.Expr.Name _ _] [] _) _) _ _ _); (with_reducible rename Fr _ _ _ _ => kF); k_dflt (refine' call1 kF ?k1 ?k2 ?k3 ?k4 ?k5 ?_; (case k1 => k_asm); (case k2 => k_asm); (case k3 => k_is); (case k4 => k_is); (case k5 => exact rfl); k_whole))
  k_with "call ref" =>
    (rename News _ _ _ _ => lN)
    k_dflt refine' Tell.useE (ctoi_ hv) ?k1 ?k2 ?k3 lN ?k5 ?kK ?kd ?ku ?_
    (case k1 => k_asm)
    (case k2 => k_asm)
    (case k3 => k_asm)
    (case k5 => k_asm)
    (case kK => exact rfl)
    (case kd => first | exact room1 hd rfl | ktr_room)
    (case ku => first | exact unit3 hu rfl | exact unit1 hu rfl | exact unit0 hu rfl | exact unit2 hu rfl | ktr_units)
    clear lN
    intro t9 h9 tk9 F9 N9
    (try dsimp only)
  k_steps
  all_goals
    (rename News h₀ _ _ _ => lN)
    (first | refine hret _ _ _ _ (by k_asm) lN ⟨congrArg Value.bool ?_, rfl⟩ | refine hret _ _ _ _ (by k_asm) (news_tail lN) ⟨congrArg Value.bool ?_, rfl⟩)
    clear hret qk ek lN
    (try simp only [jupper, jlower, jalpha, jdigit, jalnum, jascii, jblank, jcntrl, jgraph, jprint, jpunct, jspace, jxdigit, jctrl, jmeta, rng, Bool.and_eq_true, Bool.or_eq_true, decide_eq_true_eq, Bool.eq_false_iff, ne_eq, Bool.not_eq_true] at *)
    all_goals (first | (simp_all; done) | (rw [Bool.eq_iff_iff]; simp_all; omega) | (rw [Bool.eq_iff_iff]; simp; omega) | (trace_state; fail "end"))
theorem isascii_ {w : World} {mean : ExcName → Option Value} {mg mb : Str → Option Value} {v : Value} {c : Int} {news : List (Addr × Obj)} (hv : IsCode v c) :
   Tell w mean mg mb 91 [v] news 4 16 (fun r news' => r = .bool (jascii c) ∧ news' = news) := by
  unfold Tell
  intro dp un gd cn cs ad ccd cl outer A₀ base h₀ L m s Q E B F X N T hk hd hu hret
  refine wpAny_call ?_
  k_dflt ktr_enter
  k_with_none
  k_with "eval Call" => ((with_reducible show wpAny _ _ (eval (PySem.Expr.Call (PySem.Expr.Name _ _) [PySem.Expr.Name _ _] [] _) _) _ _ _); (with_reducible rename Fr _ _ _ _ => kF); k_dflt (refine' call1 kF ?k1 ?k2 ?k3 ?k4 ?k5 ?_; (case k1 => k_asm); (case k2 => k_asm); (case k3 => k_is); (case k4 => k_is); (case k5 => exact rfl); k_whole))
  k_with "call ref" =>
    (rename News _ _ _ _ => lN)
    k_dflt refine' Tell.useE (ctoi_ hv) ?k1 ?k2 ?k3 lN ?k5 ?kK ?kd ?ku ?_
    (case k1 => k_asm)
    (case k2 => k_asm)
    (case k3 => k_asm)
    (case k5 => k_asm)
    (case kK => exact rfl)
    (case kd => first | exact room1 hd rfl | ktr_room)
    (case ku => first | exact unit3 hu rfl | exact unit1 hu rfl | exact unit0 hu rfl | exact unit2 hu rfl | ktr_units)
    clear lN
    intro t9 h9 tk9 F9 N9
    (try dsimp only)
  k_steps
  all_goals
    (rename News h₀ _ _ _ => lN)
    (first | refine hret _ _ _ _ (by k_asm) lN ⟨congrArg Value.bool ?_, rfl⟩ | refine hret _ _ _ _ (by k_asm) (news_tail lN) ⟨congrArg Value.bool ?_, rfl⟩)
    clear hret qk ek lN
    (try simp only [jupper, jlower, jalpha, jdigit, jalnum, jascii, jblank, jcntrl, jgraph, jprint, jpunct, jspace, jxdigit, jctrl, jmeta, rng, Bool.and_eq_true, Bool.or_eq_true, decide_eq_true_eq, Bool.eq_false_iff, ne_eq, Bool.not_eq_true] at *)
    all_goals (first | (simp_all; done) | (rw [Bool.eq_iff_iff]; simp_all; omega) | (rw [Bool.eq_iff_iff]; simp; omega) | (trace_state; fail "end"))
theorem isblank_ {w : World} {mean : ExcName → Option Value} {mg mb : Str → Option Value} {v : Value} {c : Int} {news : List (Addr × Obj)} (hv : IsCode v c) :
   Tell w mean mg mb 98 [v] news 4 16 (fun r news' => r = .bool (jblank c) ∧ news' = news) := by
  unfold Tell
  intro dp un gd cn cs ad ccd cl outer A₀ base h₀ L m s Q E B F X N T hk hd hu hret
  refine wpAny_call ?_
  k_dflt ktr_enter
  k_with_none
  k_with "eval Call" => ((with_reducible show wpAny _ _ (eval (PySem.Expr.Call (PySem.Expr.Name _ _) [PySem.Expr.Name _ _] [] _) _) _ _ _); (with_reducible rename Fr _ _ _ _ => kF); k_dflt (refine' call1 kF ?k1 ?k2 ?k3 ?k4 ?k5 ?_; (case k1 => k_asm); (case k2 => k_asm); (case k3 => k_is); (case k4 => k_is); (case k5 => exact rfl); k_whole))
  k_with "call ref" =>
    (rename News _ _ _ _ => lN)
    k_dflt refine' Tell.useE (ctoi_ hv) ?k1 ?k2 ?k3 lN ?k5 ?kK ?kd ?ku ?_
    (case k1 => k_asm)
    (case k2 => k_asm)
    (case k3 => k_asm)
    (case k5 => k_asm)
    (case kK => exact rfl)
    (case kd => first | exact room1 hd rfl | ktr_room)
    (case ku => first | exact unit3 hu rfl | exact unit1 hu rfl | exact unit0 hu rfl | exact unit2 hu rfl | ktr_units)
    clear lN
    intro t9 h9 tk9 F9 N9
    (try dsimp only)
  k_steps
  all_goals
    (rename News h₀ _ _ _ => lN)
    (first | refine hret _ _ _ _ (by k_asm) lN ⟨congrArg Value.bool ?_, rfl⟩ | refine hret _ _ _ _ (by k_asm) (news_tail lN) ⟨congrArg Value.bool ?_, rfl⟩)
    clear hret qk ek lN
    (try simp only [jupper, jlower, jalpha, jdigit, jalnum, jascii, jblank, jcntrl, jgraph, jprint, jpunct, jspace, jxdigit, jctrl, jmeta, rng, Bool.and_eq_true, Bool.or_eq_true, decide_eq_true_eq, Bool.eq_false_iff, ne_eq, Bool.not_eq_true] at *)
    all_goals (first | (simp_all; done) | (rw [Bool.eq_iff_iff]; simp_all; omega) | (rw [Bool.eq_iff_iff]; simp; omega) | (trace_state; fail "end"))
theorem iscntrl_ {w : World} {mean : ExcName → Option Value} {mg mb : Str → Option Value} {v : Value} {c : Int} {news : List (Addr × Obj)} (hv : IsCode v c) :
   Tell w mean mg mb 105 [v] news 4 16 (fun r news' => r = .bool (jcntrl c) ∧ news' = news) := by
  unfold Tell
  intro dp un gd cn cs ad ccd cl outer A₀ base h₀ L m s Q E B F X N T hk hd hu hret
  refine wpAny_call ?_
  k_dflt ktr_enter
  k_with_none
  k_with "eval Call" => ((with_reducible show wpAny _ _ (eval (PySem.Expr.Call (PySem.Expr.Name _ _) [PySem.Expr.Name _ _] [] _) _) _ _ _); (with_reducible rename Fr _ _ _ _ => kF); k_dflt (refine' call1 kF ?k1 ?k2 ?k3 ?k4 ?k5 ?_; (case k1 => k_asm); (case k2 => k_asm); (case k3 => k_is); (case k4 => k_is); (case k5 => exact rfl); k_whole))
  k_with "call ref" =>
    (rename News _ _ _ _ => lN)
    k_dflt refine' Tell.useE (ctoi_ hv) ?k1 ?k2 ?k3 lN ?k5 ?kK ?kd ?ku ?_
    (case k1 => k_asm)
    (case k2 => k_asm)
    (case k3 => k_asm)
    (case k5 => k_asm)
    (case kK => exact rfl)
    (case kd => first | exact room1 hd rfl | ktr_room)
    (case ku => first | exact unit3 hu rfl | exact unit1 hu rfl | exact unit0 hu rfl | exact unit2 hu rfl | ktr_units)
    clear lN
    intro t9 h9 tk9 F9 N9
    (try dsimp only)
  k_steps
  all_goals
    (rename News h₀ _ _ _ => lN)
    (first | refine hret _ _ _ _ (by k_asm) lN ⟨congrArg Value.bool ?_, rfl⟩ | refine hret _ _ _ _ (by k_asm) (news_tail lN) ⟨congrArg Value.bool ?_, rfl⟩)
    clear hret qk ek lN
    (try simp only [jupper, jlower, jalpha, jdigit, jalnum, jascii, jblank, jcntrl, jgraph, jprint, jpunct, jspace, jxdigit, jctrl, jmeta, rng, Bool.and_eq_true, Bool.or_eq_true, decide_eq_true_eq, Bool.eq_false_iff, ne_eq, Bool.not_eq_true] at *)
    all_goals (first | (simp_all; done) | (rw [Bool.eq_iff_iff]; simp_all; omega) | (rw [Bool.eq_iff_iff]; simp; omega) | (trace_state; fail "end"))
theorem isgraph_ {w : World} {mean : ExcName → Option Value} {mg mb : Str → Option Value} {v : Value} {c : Int} {news : List (Addr × Obj)} (hv : IsCode v c) :
   Tell w mean mg mb 119 [v] news 4 16 (fun r news' => r = .bool (jgraph c) ∧ news' = news) := by
  unfold Tell
  intro dp un gd cn cs ad ccd cl outer A₀ base h₀ L m s Q E B F X N T hk hd hu hret
  refine wpAny_call ?_
  k_dflt ktr_enter
  k_with_none
  k_with "eval Call" => ((with_reducible show wpAny _ _ (eval (PySem.Expr.Call (PySem.Expr.Name _ _) [PySem.Expr.Name _ _] [] _) _) _ _ _); (with_reducible rename Fr _ _ _ _ => kF); k_dflt (refine' call1 kF ?k1 ?k2 ?k3 ?k4 ?k5 ?_; (case k1 => k_asm); (case k2 => k_asm); (case k3 => k_is); (case k4 => k_is); (case k5 => exact rfl); k_whole))
  k_with "call ref" =>
    (rename News _ _ _ _ => lN)
    k_dflt refine' Tell.useE (ctoi_ hv) ?k1 ?k2 ?k3 lN ?k5 ?kK ?kd ?ku ?_
    (case k1 => k_asm)
    (case k2 => k_asm)
    (case k3 => k_asm)
    (case k5 => k_asm)
    (case kK => exact rfl)
    (case kd => first | exact room1 hd rfl | ktr_room)
    (case ku => first | exact unit3 hu rfl | exact unit1 hu rfl | exact unit0 hu rfl | exact unit2 hu rfl | ktr_units)
    clear lN
    intro t9 h9 tk9 F9 N9
    (try dsimp only)
  k_steps
  all_goals
    (rename News h₀ _ _ _ => lN)
    (first | refine hret _ _ _ _ (by k_asm) lN ⟨congrArg Value.bool ?_, rfl⟩ | refine hret _ _ _ _ (by k_asm) (news_tail lN) ⟨congrArg Value.bool ?_, rfl⟩)
    clear hret qk ek lN
    (try simp only [jupper, jlower, jalpha, jdigit, jalnum, jascii, jblank, jcntrl, jgraph, jprint, jpunct, jspace, jxdigit, jctrl, jmeta, rng, Bool.and_eq_true, Bool.or_eq_true, decide_eq_true_eq, Bool.eq_false_iff, ne_eq, Bool.not_eq_true] at *)
    all_goals (first | (simp_all; done) | (rw [Bool.eq_iff_iff]; simp_all; omega) | (rw [Bool.eq_iff_iff]; simp; omega) | (trace_state; fail "end"))
theorem isprint_ {w : World} {mean : ExcName → Option Value} {mg mb : Str → Option Value} {v : Value} {c : Int} {news : List (Addr × Obj)} (hv : IsCode v c) :
   Tell w mean mg mb 133 [v] news 4 16 (fun r news' => r = .bool (jprint c) ∧ news' = news) := by
  unfold Tell
  intro dp un gd cn cs ad ccd cl outer A₀ base h₀ L m s Q E B F X N T hk hd hu hret
  refine wpAny_call ?_
  k_dflt ktr_enter
  k_with_none
  k_with "eval Call" => ((with_reducible show wpAny _ _ (eval (PySem.Expr.Call (PySem.Expr.Name _ _) [PySem.Expr.Name _ _] [] _) _) _ _ _); (with_reducible rename Fr _ _ _ _ => kF); k_dflt (refine' call1 kF ?k1 ?k2 ?k3 ?k4 ?k5 ?_; (case k1 => k_asm); (case k2 => k_asm); (case k3 => k_is); (case k4 => k_is); (case k5 => exact rfl); k_whole))
  k_with "call ref" =>
    (rename News _ _ _ _ => lN)
    k_dflt refine' Tell.useE (ctoi_ hv) ?k1 ?k2 ?k3 lN ?k5 ?kK ?kd ?ku ?_
    (case k1 => k_asm)
    (case k2 => k_asm)
    (case k3 => k_asm)
    (case k5 => k_asm)
    (case kK => exact rfl)
    (case kd => first | exact room1 hd rfl | ktr_room)
    (case ku => first | exact unit3 hu rfl | exact unit1 hu rfl | exact unit0 hu rfl | exact unit2 hu rfl | ktr_units)
    clear lN
    intro t9 h9 tk9 F9 N9
    (try dsimp only)
  k_steps
  all_goals
    (rename News h₀ _ _ _ => lN)
    (first | refine hret _ _ _ _ (by k_asm) lN ⟨congrArg Value.bool ?_, rfl⟩ | refine hret _ _ _ _ (by k_asm) (news_tail lN) ⟨congrArg Value.bool ?_, rfl⟩)
    clear hret qk ek lN
    (try simp only [jupper, jlower, jalpha, jdigit, jalnum, jascii, jblank, jcntrl, jgraph, jprint, jpunct, jspace, jxdigit, jctrl, jmeta, rng, Bool.and_eq_true, Bool.or_eq_true, decide_eq_true_eq, Bool.eq_false_iff, ne_eq, Bool.not_eq_true] at *)
    all_goals (first | (simp_all; done) | (rw [Bool.eq_iff_iff]; simp_all; omega) | (rw [Bool.eq_iff_iff]; simp; omega) | (trace_state; fail "end"))
theorem isspace_ {w : World} {mean : ExcName → Option Value} {mg mb : Str → Option Value} {v : Value} {c : Int} {news : List (Addr × Obj)} (hv : IsCode v c) :
   Tell w mean mg mb 147 [v] news 4 16 (fun r news' => r = .bool (jspace c) ∧ news' = news) := by
  unfold Tell
  intro dp un gd cn cs ad ccd cl outer A₀ base h₀ L m s Q E B F X N T hk hd hu hret
  refine wpAny_call ?_
  k_dflt ktr_enter
  k_with_none
  k_with "eval Call" => ((with_reducible show wpAny _ _ (eval (PySem.Expr.Call (PySem.Expr.Name _ _) [PySem.Expr.Name _ _] [] _) _) _ _ _); (with_reducible rename Fr _ _ _ _ => kF); k_dflt (refine' call1 kF ?k1 ?k2 ?k3 ?k4 ?k5 ?_; (case k1 => k_asm); (case k2 => k_asm); (case k3 => k_is); (case k4 => k_is); (case k5 => exact rfl); k_whole))
  k_with "call ref" =>
    (rename News _ _ _ _ => lN)
    k_dflt refine' Tell.useE (ctoi_ hv) ?k1 ?k2 ?k3 lN ?k5 ?kK ?kd ?ku ?_
    (case k1 => k_asm)
    (case k2 => k_asm)
    (case k3 => k_asm)
    (case k5 => k_asm)
    (case kK => exact rfl)
    (case kd => first | exact room1 hd rfl | ktr_room)
    (case ku => first | exact unit3 hu rfl | exact unit1 hu rfl | exact unit0 hu rfl | exact unit2 hu rfl | ktr_units)
    clear lN
    intro t9 h9 tk9 F9 N9
    (try dsimp only)
  k_steps
  all_goals
    (rename News h₀ _ _ _ => lN)
    (first | refine hret _ _ _ _ (by k_asm) lN ⟨congrArg Value.bool ?_, rfl⟩ | refine hret _ _ _ _ (by k_asm) (news_tail lN) ⟨congrArg Value.bool ?_, rfl⟩)
    clear hret qk ek lN
    (try simp only [jupper, jlower, jalpha, jdigit, jalnum, jascii, jblank, jcntrl, jgraph, jprint, jpunct, jspace, jxdigit, jctrl, jmeta, rng, Bool.and_eq_true, Bool.or_eq_true, decide_eq_true_eq, Bool.eq_false_iff, ne_eq, Bool.not_eq_true] at *)
    all_goals (first | (simp_all; done) | (rw [Bool.eq_iff_iff]; simp_all; omega) | (rw [Bool.eq_iff_iff]; simp; omega) | (trace_state; fail "end"))
theorem isctrl_ {w : World} {mean : ExcName → Option Value} {mg mb : Str → Option Value} {v : Value} {c : Int} {news : List (Addr × Obj)} (hv : IsCode v c) :
   Tell w mean mg mb 168 [v] news 4 16 (fun r news' => r = .bool (jctrl c) ∧ news' = news) := by
  unfold Tell
  intro dp un gd cn cs ad ccd cl outer A₀ base h₀ L m s Q E B F X N T hk hd hu hret
  refine wpAny_call ?_
  k_dflt ktr_enter
  k_with_none
  k_with "eval Call" => ((with_reducible show wpAny _ _ (eval (PySem.Expr.Call (PySem.Expr.Name _ _) [PySem.Expr.Name _ _] [] _) _) _ _ _); (with_reducible rename Fr _ _ _ _ => kF); k_dflt (refine' call1 kF ?k1 ?k2 ?k3 ?k4 ?k5 ?_; (case k1 => k_asm); (case k2 => k_asm); (case k3 => k_is); (case k4 => k_is); (case k5 => exact rfl); k_whole))
  k_with "call ref" =>
    (rename News _ _ _ _ => lN)
    k_dflt refine' Tell.useE (ctoi_ hv) ?k1 ?k2 ?k3 lN ?k5 ?kK ?kd ?ku ?_
    (case k1 => k_asm)
    (case k2 => k_asm)
    (case k3 => k_asm)
    (case k5 => k_asm)
    (case kK => exact rfl)
    (case kd => first | exact room1 hd rfl | ktr_room)
    (case ku => first | exact unit3 hu rfl | exact unit1 hu rfl | exact unit0 hu rfl | exact unit2 hu rfl | ktr_units)
    clear lN
    intro t9 h9 tk9 F9 N9
    (try dsimp only)
  k_steps
  all_goals
    (rename News h₀ _ _ _ => lN)
    (first | refine hret _ _ _ _ (by k_asm) lN ⟨congrArg Value.bool ?_, rfl⟩ | refine hret _ _ _ _ (by k_asm) (news_tail lN) ⟨congrArg Value.bool ?_, rfl⟩)
    clear hret qk ek lN
    (try simp only [jupper, jlower, jalpha, jdigit, jalnum, jascii, jblank, jcntrl, jgraph, jprint, jpunct, jspace, jxdigit, jctrl, jmeta, rng, Bool.and_eq_true, Bool.or_eq_true, decide_eq_true_eq, Bool.eq_false_iff, ne_eq, Bool.not_eq_true] at *)
    all_goals (first | (simp_all; done) | (rw [Bool.eq_iff_iff]; simp_all; omega) | (rw [Bool.eq_iff_iff]; simp; omega) | (trace_state; fail "end"))
theorem ismeta_ {w : World} {mean : ExcName → Option Value} {mg mb : Str → Option Value} {v : Value} {c : Int} {news : List (Addr × Obj)} (hv : IsCode v c) :
   Tell w mean mg mb 175 [v] news 4 16 (fun r news' => r = .bool (jmeta c) ∧ news' = news) := by
  unfold Tell
  intro dp un gd cn cs ad ccd cl outer A₀ base h₀ L m s Q E B F X N T hk hd hu hret
  refine wpAny_call ?_
  k_dflt ktr_enter
  k_with_none
  k_with "eval Call" => ((with_reducible show wpAny _ _ (eval (PySem.Expr.Call (PySem.Expr.Name _ _) [PySem.Expr.Name _ _] [] _) _) _ _ _); (with_reducible rename Fr _ _ _ _ => kF); k_dflt (refine' call1 kF ?k1 ?k2 ?k3 ?k4 ?k5 ?_; (case k1 => k_asm); (case k2 => k_asm); (case k3 => k_is); (case k4 => k_is); (case k5 => exact rfl); k_whole))
  k_with "call ref" =>
    (rename News _ _ _ _ => lN)
    k_dflt refine' Tell.useE (ctoi_ hv) ?k1 ?k2 ?k3 lN ?k5 ?kK ?kd ?ku ?_
    (case k1 => k_asm)
    (case k2 => k_asm)
    (case k3 => k_asm)
    (case k5 => k_asm)
    (case kK => exact rfl)
    (case kd => first | exact room1 hd rfl | ktr_room)
    (case ku => first | exact unit3 hu rfl | exact unit1 hu rfl | exact unit0 hu rfl | exact unit2 hu rfl | ktr_units)
    clear lN
    intro t9 h9 tk9 F9 N9
    (try dsimp only)
  k_steps
  all_goals
    (rename News h₀ _ _ _ => lN)
    (first | refine hret _ _ _ _ (by k_asm) lN ⟨congrArg Value.bool ?_, rfl⟩ | refine hret _ _ _ _ (by k_asm) (news_tail lN) ⟨congrArg Value.bool ?_, rfl⟩)
    clear hret qk ek lN
    (try simp only [jupper, jlower, jalpha, jdigit, jalnum, jascii, jblank, jcntrl, jgraph, jprint, jpunct, jspace, jxdigit, jctrl, jmeta, rng, Bool.and_eq_true, Bool.or_eq_true, decide_eq_true_eq, Bool.eq_false_iff, ne_eq, Bool.not_eq_true] at *)
    all_goals (first | (simp_all; done) | (rw [Bool.eq_iff_iff]; simp_all; omega) | (rw [Bool.eq_iff_iff]; simp; omega) | (trace_state; fail "end"))
theorem isalpha_ {w : World} {mean : ExcName → Option Value} {mg mb : Str → Option Value} {v : Value} {c : Int} {news : List (Addr × Obj)} (hv : IsCode v c) :
   Tell w mean mg mb 84 [v] news 6 24 (fun r news' => r = .bool (jalpha c) ∧ news' = news) := by
  unfold Tell
  intro dp un gd cn cs ad ccd cl outer A₀ base h₀ L m s Q E B F X N T hk hd hu hret
  refine wpAny_call ?_
  k_dflt ktr_enter
  k_with_none
  k_with "eval Call" => ((with_reducible show wpAny _ _ (eval (PySem.Expr.Call (PySem.Expr.Name _ _) [PySem.Expr.Name _ _] [] _) _) _ _ _); (with_reducible rename Fr _ _ _ _ => kF); k_dflt (refine' call1 kF ?k1 ?k2 ?k3 ?k4 ?k5 ?_; (case k1 => k_asm); (case k2 => k_asm); (case k3 => k_is); (case k4 => k_is); (case k5 => exact rfl); k_whole))
  k_with "call ref" =>
    (rename News _ _ _ _ => lN)
    k_dflt refine' Tell.use2 (isupper_ hv) ?k1 ?k2 ?k3 lN ?k5 ?kK ?kd ?ku ?_
    (case k1 => k_asm)
    (case k2 => k_asm)
    (case k3 => k_asm)
    (case k5 => k_asm)
    (case kK => exact rfl)
    (case kd => first | exact room1 hd rfl | ktr_room)
    (case ku => first | exact unit3 hu rfl | exact unit1 hu rfl | exact unit0 hu rfl | exact unit2 hu rfl | ktr_units)
    clear lN
    intro h9 tk9 F9 N9
    (try dsimp only)
  k_with "call ref" =>
    (rename News _ _ _ _ => lN)
    k_dflt refine' Tell.use2 (islower_ hv) ?k1 ?k2 ?k3 lN ?k5 ?kK ?kd ?ku ?_
    (case k1 => k_asm)
    (case k2 => k_asm)
    (case k3 => k_asm)
    (case k5 => k_asm)
    (case kK => exact rfl)
    (case kd => first | exact room1 hd rfl | ktr_room)
    (case ku => first | exact unit3 hu rfl | exact unit1 hu rfl | exact unit0 hu rfl | exact unit2 hu rfl | ktr_units)
    clear lN
    intro h9 tk9 F9 N9
    (try dsimp only)
  k_steps
  all_goals
    (rename News h₀ _ _ _ => lN)
    (first | refine hret _ _ _ _ (by k_asm) lN ⟨congrArg Value.bool ?_, rfl⟩ | refine hret _ _ _ _ (by k_asm) (news_tail lN) ⟨congrArg Value.bool ?_, rfl⟩)
    clear hret qk ek lN
    (try simp only [jupper, jlower, jalpha, jdigit, jalnum, jascii, jblank, jcntrl, jgraph, jprint, jpunct, jspace, jxdigit, jctrl, jmeta, rng, Bool.and_eq_true, Bool.or_eq_true, decide_eq_true_eq, Bool.eq_false_iff, ne_eq, Bool.not_eq_true] at *)
    all_goals (first | (simp_all; done) | (rw [Bool.eq_iff_iff]; simp_all; omega) | (rw [Bool.eq_iff_iff]; simp; omega) | (trace_state; fail "end"))
theorem isalnum_ {w : World} {mean : ExcName → Option Value} {mg mb : Str → Option Value} {v : Value} {c : Int} {news : List (Addr × Obj)} (hv : IsCode v c) :
   Tell w mean mg mb 77 [v] news 8 32 (fun r news' => r = .bool (jalnum c) ∧ news' = news) := by
  unfold Tell
  intro dp un gd cn cs ad ccd cl outer A₀ base h₀ L m s Q E B F X N T hk hd hu hret
  refine wpAny_call ?_
  k_dflt ktr_enter
  k_with_none
  k_with "eval Call" => ((with_reducible show wpAny _ _ (eval (PySem.Expr.Call (PySem.Expr.Name _ _) [PySem.Expr.Name _ _] [] _) _) _ _ _); (with_reducible rename Fr _ _ _ _ => kF); k_dflt (refine' call1 kF ?k1 ?k2 ?k3 ?k4 ?k5 ?_; (case k1 => k_asm); (case k2 => k_asm); (case k3 => k_is); (case k4 => k_is); (case k5 => exact rfl); k_whole))
  k_with "call ref" =>
    (rename News _ _ _ _ => lN)
    k_dflt refine' Tell.use2 (isalpha_ hv) ?k1 ?k2 ?k3 lN ?k5 ?kK ?kd ?ku ?_
    (case k1 => k_asm)
    (case k2 => k_asm)
    (case k3 => k_asm)
    (case k5 => k_asm)
    (case kK => exact rfl)
    (case kd => first | exact room1 hd rfl | ktr_room)
    (case ku => first | exact unit3 hu rfl | exact unit1 hu rfl | exact unit0 hu rfl | exact unit2 hu rfl | ktr_units)
    clear lN
    intro h9 tk9 F9 N9
    (try dsimp only)
  k_with "call ref" =>
    (rename News _ _ _ _ => lN)
    k_dflt refine' Tell.use2 (isdigit_ hv) ?k1 ?k2 ?k3 lN ?k5 ?kK ?kd ?ku ?_
    (case k1 => k_asm)
    (case k2 => k_asm)
    (case k3 => k_asm)
    (case k5 => k_asm)
    (case kK => exact rfl)
    (case kd => first | exact room1 hd rfl | ktr_room)
    (case ku => first | exact unit3 hu rfl | exact unit1 hu rfl | exact unit0 hu rfl | exact unit2 hu rfl | ktr_units)
    clear lN
    intro h9 tk9 F9 N9
    (try dsimp only)
  k_steps
  all_goals
    (rename News h₀ _ _ _ => lN)
    (first | refine hret _ _ _ _ (by k_asm) lN ⟨congrArg Value.bool ?_, rfl⟩ | refine hret _ _ _ _ (by k_asm) (news_tail lN) ⟨congrArg Value.bool ?_, rfl⟩)
    clear hret qk ek lN
    (try simp only [jupper, jlower, jalpha, jdigit, jalnum, jascii, jblank, jcntrl, jgraph, jprint, jpunct, jspace, jxdigit, jctrl, jmeta, rng, Bool.and_eq_true, Bool.or_eq_true, decide_eq_true_eq, Bool.eq_false_iff, ne_eq, Bool.not_eq_true] at *)
    all_goals (first | (simp_all; done) | (rw [Bool.eq_iff_iff]; simp_all; omega) | (rw [Bool.eq_iff_iff]; simp; omega) | (trace_state; fail "end"))
theorem ispunct_ {w : World} {mean : ExcName → Option Value} {mg mb : Str → Option Value} {v : Value} {c : Int} {news : List (Addr × Obj)} (hv : IsCode v c) :
   Tell w mean mg mb 140 [v] news 10 40 (fun r news' => r = .bool (jpunct c) ∧ news' = news) := by
  unfold Tell
  intro dp un gd cn cs ad ccd cl outer A₀ base h₀ L m s Q E B F X N T hk hd hu hret
  refine wpAny_call ?_
  k_dflt ktr_enter
  k_with_none
  k_with "eval Call" => ((with_reducible show wpAny _ _ (eval (PySem.Expr.Call (PySem.Expr.Name _ _) [PySem.Expr.Name _ _] [] _) _) _ _ _); (with_reducible rename Fr _ _ _ _ => kF); k_dflt (refine' call1 kF ?k1 ?k2 ?k3 ?k4 ?k5 ?_; (case k1 => k_asm); (case k2 => k_asm); (case k3 => k_is); (case k4 => k_is); (case k5 => exact rfl); k_whole))
  k_with "call ref" =>
    (rename News _ _ _ _ => lN)
    k_dflt refine' Tell.use2 (isgraph_ hv) ?k1 ?k2 ?k3 lN ?k5 ?kK ?kd ?ku ?_
    (case k1 => k_asm)
    (case k2 => k_asm)
    (case k3 => k_asm)
    (case k5 => k_asm)
    (case kK => exact rfl)
    (case kd => first | exact room1 hd rfl | ktr_room)
    (case ku => first | exact unit3 hu rfl | exact unit1 hu rfl | exact unit0 hu rfl | exact unit2 hu rfl | ktr_units)
    clear lN
    intro h9 tk9 F9 N9
    (try dsimp only)
  k_with "call ref" =>
    (rename News _ _ _ _ => lN)
    k_dflt refine' Tell.use2 (isalnum_ hv) ?k1 ?k2 ?k3 lN ?k5 ?kK ?kd ?ku ?_
    (case k1 => k_asm)
    (case k2 => k_asm)
    (case k3 => k_asm)
    (case k5 => k_asm)
    (case kK => exact rfl)
    (case kd => first | exact room1 hd rfl | ktr_room)
    (case ku => first | exact unit3 hu rfl | exact unit1 hu rfl | exact unit0 hu rfl | exact unit2 hu rfl | ktr_units)
    clear lN
    intro h9 tk9 F9 N9
    (try dsimp only)
  k_steps
  all_goals
    (rename News h₀ _ _ _ => lN)
    (first | refine hret _ _ _ _ (by k_asm) lN ⟨congrArg Value.bool ?_, rfl⟩ | refine hret _ _ _ _ (by k_asm) (news_tail lN) ⟨congrArg Value.bool ?_, rfl⟩)
    clear hret qk ek lN
    (try simp only [jupper, jlower, jalpha, jdigit, jalnum, jascii, jblank, jcntrl, jgraph, jprint, jpunct, jspace, jxdigit, jctrl, jmeta, rng, Bool.and_eq_true, Bool.or_eq_true, decide_eq_true_eq, Bool.eq_false_iff, ne_eq, Bool.not_eq_true] at *)
    all_goals (first | (simp_all; done) | (rw [Bool.eq_iff_iff]; simp_all; omega) | (rw [Bool.eq_iff_iff]; simp; omega) | (trace_state; fail "end"))
theorem isxdigit_ {w : World} {mean : ExcName → Option Value} {mg mb : Str → Option Value} {v : Value} {c : Int} {news : List (Addr × Obj)} (hv : IsCode v c) :
   Tell w mean mg mb 161 [v] news 6 24 (fun r news' => r = .bool (jxdigit c) ∧ news' = news) := by
  unfold Tell
  intro dp un gd cn cs ad ccd cl outer A₀ base h₀ L m s Q E B F X N T hk hd hu hret
  refine wpAny_call ?_
  k_dflt ktr_enter
  k_with_none
  k_with "eval Call" => ((with_reducible show wpAny _ _ (eval (PySem.Expr.Call (PySem.Expr.Name _ _) [PySem.Expr.Name _ _] [] _) _) _ _ _); (with_reducible rename Fr _ _ _ _ => kF); k_dflt (refine' call1 kF ?k1 ?k2 ?k3 ?k4 ?k5 ?_; (case k1 => k_asm); (case k2 => k_asm); (case k3 => k_is); (case k4 => k_is); (case k5 => exact rfl); k_whole))
  k_with "call ref" =>
    (rename News _ _ _ _ => lN)
    k_dflt refine' Tell.use2 (isdigit_ hv) ?k1 ?k2 ?k3 lN ?k5 ?kK ?kd ?ku ?_
    (case k1 => k_asm)
    (case k2 => k_asm)
    (case k3 => k_asm)
    (case k5 => k_asm)
    (case kK => exact rfl)
    (case kd => first | exact room1 hd rfl | ktr_room)
    (case ku => first | exact unit3 hu rfl | exact unit1 hu rfl | exact unit0 hu rfl | exact unit2 hu rfl | ktr_units)
    clear lN
    intro h9 tk9 F9 N9
    (try dsimp only)
  k_with "call ref" =>
    (rename News _ _ _ _ => lN)
    k_dflt refine' Tell.useE (ctoi_ hv) ?k1 ?k2 ?k3 lN ?k5 ?kK ?kd ?ku ?_
    (case k1 => k_asm)
    (case k2 => k_asm)
    (case k3 => k_asm)
    (case k5 => k_asm)
    (case kK => exact rfl)
    (case kd => first | exact room1 hd rfl | ktr_room)
    (case ku => first | exact unit3 hu rfl | exact unit1 hu rfl | exact unit0 hu rfl | exact unit2 hu rfl | ktr_units)
    clear lN
    intro t9 h9 tk9 F9 N9
    (try dsimp only)
  k_steps
  all_goals
    (rename News h₀ _ _ _ => lN)
    (first | refine hret _ _ _ _ (by k_asm) lN ⟨congrArg Value.bool ?_, rfl⟩ | refine hret _ _ _ _ (by k_asm) (news_tail lN) ⟨congrArg Value.bool ?_, rfl⟩)
    clear hret qk ek lN
    (try simp only [jupper, jlower, jalpha, jdigit, jalnum, jascii, jblank, jcntrl, jgraph, jprint, jpunct, jspace, jxdigit, jctrl, jmeta, rng, Bool.and_eq_true, Bool.or_eq_true, decide_eq_true_eq, Bool.eq_false_iff, ne_eq, Bool.not_eq_true] at *)
    all_goals (first | (simp_all; done) | (rw [Bool.eq_iff_iff]; simp_all; omega) | (rw [Bool.eq_iff_iff]; simp; omega) | (trace_state; fail "end"))
end
end Mine
end

section
open PySem PySem.W PyProof.Rows PySem.Spec PySem.Calls
set_option maxRecDepth 100000
set_option maxHeartbeats 8000000
namespace Mine
def drawn (n : Int) : Int := n / 6 % 528
def codeG (n : Int) : Int := if drawn n < 264 then drawn n - 8 else drawn n - 264
/-- the value of the thing: an int, or a sign -/
def IsThing (n : Int) (v : Value) : Prop := (drawn n < 264 ∧ ∃ t, v = .int (codeG n) t) ∨ (¬ drawn n < 264 ∧ ∃ t, v = .str ⟨#[(codeG n).toNat]⟩ t)
theorem drawn_lo (n : Int) : 0 ≤ drawn n := by unfold drawn; omega
theorem drawn_hi (n : Int) : drawn n < 528 := by unfold drawn; omega
theorem fd6 (n : Int) : (n.fdiv 6).fmod 528 = drawn n := by
  rw [Int.fdiv_eq_ediv_of_nonneg _ (by decide), Int.fmod_eq_emod_of_nonneg _ (by decide)]; rfl
section
theorem code_ {w : World} {mean : ExcName → Option Value} {mg mb : Str → Option Value} {n : Int} {t : Tok} {news : List (Addr × Obj)} :
   Tell w mean mg mb 182 [.int n t] news 2 8 (fun r news' => (∃ t, r = .int (codeG n) t) ∧ news' = news) := by
  unfold Tell
  intro dp un gd cn cs ad ccd cl outer A₀ base h₀ L m s Q E B F X N T hk hd hu hret
  refine wpAny_call ?_
  k_dflt ktr_enter
  k_with_none
  k_with "eval Call" => k_dflt refine Call_ ?_
  k_with "eval Call" => ((with_reducible show wpAny _ _ (eval (PySem.Expr.Call (PySem.Expr.Name _ _) [PySem.Expr.Name _ _] [] _) _) _ _ _); (with_reducible rename Fr _ _ _ _ => kF); k_dflt (refine' call1 kF ?k1 ?k2 ?k3 ?k4 ?k5 ?_; (case k1 => k_asm); (case k2 => k_asm); (case k3 => k_is); (case k4 => k_is); (case k5 => exact rfl); k_whole))
  k_steps
  · (rename News h₀ _ _ _ => lN)
    (rename (_ : Int) < 264 => lP)
    rw [fd6] at lP ⊢
    exact hret _ _ _ _ (by k_asm) lN ⟨⟨_, by rw [codeG, if_pos lP]⟩, rfl⟩
  · (rename News h₀ _ _ _ => lN)
    (rename ¬ (_ : Int) < 264 => lP)
    rw [fd6] at lP ⊢
    exact hret _ _ _ _ (by k_asm) lN ⟨⟨_, by rw [codeG, if_neg lP]⟩, rfl⟩
theorem thing_ {w : World} {mean : ExcName → Option Value} {mg mb : Str → Option Value} {n : Int} {t : Tok} {news : List (Addr × Obj)} :
   Tell w mean mg mb 189 [.int n t] news 4 16 (fun r news' => IsThing n r ∧ news' = news) := by
  unfold Tell
  intro dp un gd cn cs ad ccd cl outer A₀ base h₀ L m s Q E B F X N T hk hd hu hret
  refine wpAny_call ?_
  k_dflt ktr_enter
  k_with_none
  k_with "eval Call" => k_dflt refine Call_ ?_
  k_with "eval Call" => ((with_reducible show wpAny _ _ (eval (PySem.Expr.Call (PySem.Expr.Name _ _) [PySem.Expr.Name _ _] [] _) _) _ _ _); (with_reducible rename Fr _ _ _ _ => kF); k_dflt (refine' call1 kF ?k1 ?k2 ?k3 ?k4 ?k5 ?_; (case k1 => k_asm); (case k2 => k_asm); (case k3 => k_is); (case k4 => k_is); (case k5 => exact rfl); k_whole))
  k_with "call ref" =>
    (rename News _ _ _ _ => lN)
    k_dflt refine' Tell.useE code_ ?k1 ?k2 ?k3 lN ?k5 ?kK ?kd ?ku ?_
    (case k1 => k_asm)
    (case k2 => k_asm)
    (case k3 => k_asm)
    (case k5 => k_asm)
    (case kK => exact rfl)
    (case kd => first | exact room1 hd rfl | ktr_room)
    (case ku => first | exact unit3 hu rfl | exact unit1 hu rfl | exact unit0 hu rfl | exact unit2 hu rfl | ktr_units)
    clear lN
    intro t9 h9 tk9 F9 N9
    have hlo9 := drawn_lo n
    have hhi9 := drawn_hi n
    (try dsimp only)
  k_with "call builtin:chr" =>
    (rename ¬ (_ : Int) < 264 => lP)
    refine chr_of_range (by rw [fd6] at lP; rw [codeG, if_neg lP]; omega) (by rw [fd6] at lP; rw [codeG, if_neg lP]; omega) ?_
  k_steps
  · (rename News h₀ _ _ _ => lN)
    (rename (_ : Int) < 264 => lP)
    rw [fd6] at lP
    exact hret _ _ _ _ (by k_asm) lN ⟨.inl ⟨lP, _, rfl⟩, rfl⟩
  · (rename News h₀ _ _ _ => lN)
    (rename ¬ (_ : Int) < 264 => lP)
    rw [fd6] at lP
    exact hret _ _ _ _ (by k_asm) lN ⟨.inr ⟨lP, _, rfl⟩, rfl⟩
theorem IsThing.code {n : Int} {v : Value} (h : IsThing n v) : IsCode v (codeG n) := by
  rcases h with ⟨_, t, rfl⟩ | ⟨hp, t, rfl⟩
  · exact .int
  · have h0 : 0 ≤ codeG n := by rw [codeG, if_neg hp]; omega
    have e : codeG n = ((codeG n).toNat : Int) := by omega
    have : IsCode (.str ⟨#[(codeG n).toNat]⟩ t) ((codeG n).toNat : Int) := .str
    rw [← e] at this
    exact this
end
end Mine
end

section
open PySem PySem.W PyProof.Rows PySem.Spec PySem.Calls
set_option maxRecDepth 100000
namespace Mine
theorem seq_iadd : isSeqSlot (some (.builtin "list.__iadd__")) = true := by decide +kernel
section
variable {prog : Program} {w : World} {A : Around} {E : Value → Shared → Prop} {s : Shared} {h₀ : Heap} {L D b : Addr} {m : Str → Option Value} {news news' : List (Addr × Obj)} {its its2 : Array Value} {n n2 : Nat} {l : List Value}
theorem iadd_list {Q : Value → Shared → Prop} (F : Fr h₀ L s.heap m) (N : News h₀ L s.heap news) (hb : (b, listOf its2 n2) ∈ news) (e : its.toList ++ its2.toList = l) (hne : its2.toList.length ≠ 0)
    (U : Upd D (listOf its n) (listOf l.toArray (n + 1)) news news') (hz : its.size + its2.size ≤ 1000)
    (h : ∀ h', Fr h₀ L h' m → News h₀ L h' news' → Q (.ref D) { s with heap := h' }) : wpAny (model prog w) A (inplaceOp .Add (.ref D) (.ref b)) Q E s := by
  obtain ⟨pre, post, rfl, rfl, a, c⟩ := U.split
  have z := N (D, listOf its n) (List.mem_append.mpr (.inr (.head _)))
  have ha : s.TypeIs (.ref D) "list" := ⟨_, z.1, rfl⟩
  have hb' : s.TypeIs (.ref b) "list" := ⟨_, (N _ hb).1, rfl⟩
  unfold inplaceOp
  refine wpAny_holding ?_
  have hfi : fillsInplaceSlot (.type "list") "add" (Operator.Add == .Add) = pure false := by
    unfold fillsInplaceSlot
    show (typeLookup (.type "list") (dunderI "add") >>= fun fi => pure (fi.isSome && !isSeqSlot fi)) = pure false
    rw [PySem.F.slot_list_iadd.lookup]
    show (pure (true && !isSeqSlot (some (.builtin "list.__iadd__"))) : Sem Bool) = pure false
    rw [seq_iadd]; rfl
  refine wpAny_bind (wpAny_typeOf ha (wpAny_bind (wpAny_of_eq hfi ?_)))
  show wpAny _ A (if false = true then _ else _) Q E s
  rw [if_neg Bool.false_ne_true]
  refine wpAny_bind (wpAny_binaryOp1_none (nm := "add") ha hb' noFill_list_add ?_)
  refine wpAny_bind (wpAny_of_eq (PySem.seqSlot_of PySem.F.slot_list_iadd.lookup seq_iadd) ?_)
  refine wpAny_bind (wpAny_rule ?_)
  have hd : ¬(!its.isEmpty && Builtin.List.listTooLong (its.size + its2.size)) = true := by
    have : Builtin.List.listTooLong (its.size + its2.size) = false := by
      unfold Builtin.List.listTooLong
      simp only [decide_eq_false_iff_not, sizeLine_eq]
      omega
    rw [this]; simp
  refine call_meets PySem.F.slot_list_iadd ⟨_, z.1, rfl⟩ PySem.F.entry_list_iadd (PySem.F.args_list_iadd_2 _ _) (PySem.AutoSeq1.list___iadd___list_list_0 D its n b its2 n2 hd (by rw [sizeLine_eq]; omega) (by rw [sizeLine_eq]; omega)) ⟨z.1, (N _ hb).1, h _ (F.change (Heap.SameBut.update ..) z.2.1 z.2.2) (kl_turn _ N a c ?_ ?_)⟩
  · subst e
    apply Array.toList_inj.mp
    simp
  · subst e
    simp at hne ⊢
    exact hne
end
end Mine
end

section
open PySem PySem.W PyProof.Rows PySem.Spec PySem.Calls
set_option maxRecDepth 100000
namespace Mine
abbrev enumO (it : Addr) (i : Int) (old : Value) : Obj := { cls := .type "enumerate", dict := none, data := .fields #[.none, .bool false, .ref it, rawInt i, .none, old], slots := #[] }
def IsLI (o : Obj) (l : Addr) (i : Nat) : Prop := o.cls = .type "list_iterator" ∧ o.data = .fields #[.ref l, .int i 0]
section
variable {prog : Program} {w : World} {A : Around} {E : Value → Shared → Prop} {s : Shared} {env : Env}

def EnumGo (prog : Program) (w : World) (A : Around) (env : Env) (target : PySem.Expr) (E : Value → Shared → Prop) (it : Value) (Q : Shared → Prop) (r : Option Value) (s₁ : Shared) : Prop := match r with
  | none => False
  | some v => wpAny (model prog w) A (letOwnedTupleGo target it v) (fun _ s₁' => wpAny (model prog w) A (assign target env v) (fun _ s₂ => Q s₂) E s₁') E s₁

theorem enum_step {xi xv : Str} {pi pv pt : Pos} {x1} {e it l : Addr} {i : Nat} {items : Array Value} {v old : Value} {m : Str → Option Value} {Q : Shared → Prop}
    (he : IsEnum s.heap e it i old) (hit : s.heap.IsListIter it l i) (hl : s.heap.IsList l items) (hv : items[i]? = some v) (hei : e ≠ it) (heL : e ≠ env.locals) (hiL : it ≠ env.locals) (hn : s.heap.Ns env.locals m)
    (hh : A.handled = none) (hxi : env.kindOf xi = some .local) (hxv : env.kindOf xv = some .local) (hp : (env.scope.kind == .class || (env.scope.kind == .module && env.locals != env.globals)) = false)
    (hQ : ∀ h' t tk, IsEnum h' e it ((i : Int) + 1) v → h'.IsListIter it l (i + 1) → h'.Ns env.locals (fun y => if y = xv then some v else if y = xi then some (.int i t) else m y) →
      (∀ b o, b ≠ env.locals → b ≠ e → b ≠ it → s.heap.get? b = some o → h'.get? b = some o) → s.toks ≤ tk → Q { s with heap := h', toks := tk }) :
    wpAny (model prog w) A (pyNext (.ref e)) (EnumGo prog w A env (.Tuple [.Name xi pi, .Name xv pv] x1 pt) E (.ref e) Q) E s := by
  have heH : e < s.heap.objs.size := Heap.lt_size he
  have hLH : env.locals < s.heap.objs.size := hn.lt
  refine wpAny_pyNext_enum_item he hit hl hv hei fun h₁ heo hit₁ ht₁ hz₁ hk₁ => ?_
  refine wpAny_letOwnedTupleGo_enum heo fun h₂ he₂ hs₂ => ?_
  have hs₂ : Heap.SameBut e h₁ h₂ := hs₂
  have ht₂ : h₂.IsTuple s.heap.objs.size #[.int i s.toks, v] := ⟨_, (hs₂.2 _ (Nat.ne_of_gt heH)).trans ht₁, rfl, _, rfl⟩
  have hz₂ : h₂.objs.size = s.heap.objs.size + 1 := hs₂.1.trans hz₁
  refine wpAny_assign_Tuple hh ht₂ rfl rfl fun h₃ hx₃ => ?_
  have hx₃ : Heap.ExtBut h₂.objs.size h₂ h₃ := hx₃
  have old₃ : ∀ b o, b < s.heap.objs.size → h₂.get? b = some o → h₃.get? b = some o := fun b o hb x => hx₃ b o (by rw [hz₂]; exact Nat.ne_of_lt (Nat.lt_succ_of_lt hb)) x
  have hn₃ : h₃.Ns env.locals m := (hn.at fun o x => hk₁ _ o (Ne.symm heL) (Ne.symm hiL) x).sameBut hs₂ (Ne.symm heL) |>.at fun o x => old₃ _ o hLH x
  show wpAny _ A (do holding [v] (assign (.Name xi pi) env (.int i s.toks)); do holding [] (assign (.Name xv pv) env v); pure ()) _ _ _
  refine wpAny_bind (wpAny_holding (wpAny_assign_Name (wpAny_storeName_local hxi hn₃ (fun h₄ hn₄ hs₄ => ?_) hp)))
  have hs₄ : Heap.SameBut env.locals h₃ h₄ := hs₄
  refine wpAny_bind (wpAny_holding (wpAny_assign_Name (wpAny_storeName_local hxv hn₄ (fun h₅ hn₅ hs₅ => wpAny_pure ?_) hp)))
  have hs₅ : Heap.SameBut env.locals h₄ h₅ := hs₅
  have up : ∀ b o, b ≠ env.locals → b < s.heap.objs.size → h₂.get? b = some o → h₅.get? b = some o := fun b o hbL hb x => hs₅.extBut b o hbL (hs₄.extBut b o hbL (old₃ b o hb x))
  obtain ⟨oi, hoi, hoic, hoid⟩ := hit₁
  obtain ⟨oi0, hoi0, _⟩ := id hit
  refine hQ h₅ s.toks _ (up e _ heL heH he₂) ⟨oi, up it _ hiL (Heap.lt_size hoi0) ((hs₂.2 _ (Ne.symm hei)).trans hoi), hoic, hoid⟩ hn₅ (fun b o hbL hbe hbi x => up b o hbL (Heap.lt_size x) ((hs₂.2 _ hbe).trans (hk₁ b o hbe hbi x))) ?_
  show s.toks ≤ _
  simp only []
  omega

/-- what stands at a turn's end of a loop over an enumerate -/
def EnumEnd (L e it l : Addr) (K : Nat → Heap → (Str → Option Value) → List (Addr × Obj) → Prop) (s : Shared) (v : Value) (i : Nat) (f : Flow) (s₃ : Shared) : Prop :=
  (f = .next ∨ f = .cont) ∧ ∃ g' m' led' h' tk' oi', s₃ = { s with heap := h', toks := tk' } ∧ Fr g' L h' m' ∧ News g' L h' ((e, enumO it ((i : Int) + 1) v) :: (it, oi') :: led') ∧ IsLI oi' l (i + 1) ∧ K (i + 1) g' m' led'

def EnumInv (L e it l : Addr) (K : Nat → Heap → (Str → Option Value) → List (Addr × Obj) → Prop) (s : Shared) (sz : Nat) (n : Nat) (s' : Shared) : Prop :=
  ∃ g m led h tk i old oi, n = sz + 1 - i ∧ i ≤ sz ∧ s' = { s with heap := h, toks := tk } ∧ Fr g L h m ∧ News g L h ((e, enumO it ((i : Nat) : Int) old) :: (it, oi) :: led) ∧ IsLI oi l i ∧ K i g m led
theorem for_enum {xi xv : Str} {pi pv pt : Pos} {x1} {body : List Stmt} {Q : Flow → Shared → Prop} {L e it l : Addr} {items : Array Value} {g₀ : Heap} {m₀ : Str → Option Value} {led₀ : List (Addr × Obj)} {oi : Obj}
    (K : Nat → Heap → (Str → Option Value) → List (Addr × Obj) → Prop)
    (F0 : Fr g₀ L s.heap m₀) (N0 : News g₀ L s.heap ((e, enumO it 0 .none) :: (it, oi) :: led₀)) (hoi : IsLI oi l 0) (h0 : K 0 g₀ m₀ led₀) (hei : e ≠ it)
    (hl : ∀ i g m led, K i g m led → ∃ n, (l, listOf items n) ∈ led) (hadr : ∀ i g m led, K i g m led → ∀ p ∈ led, p.1 ≠ e ∧ p.1 ≠ it)
    (turn : ∀ i v g m led h tk t oi', items[i]? = some v → K i g m led → Fr g L h (fun y => if y = xv then some v else if y = xi then some (.int (i : Int) t) else m y) →
      News g L h ((e, enumO it ((i : Int) + 1) v) :: (it, oi') :: led) → IsLI oi' l (i + 1) →
      wpAny (model prog w) A (execs body env) (EnumEnd L e it l K s v i) E { s with heap := h, toks := tk })
    (done : ∀ g m led h tk, K items.size g m led → Fr g L h m → News g L h led → Q .next { s with heap := h, toks := tk })
    (hA : A.handled = none) (hL : env.locals = L) (hxi : env.kindOf xi = some .local) (hxv : env.kindOf xv = some .local) (hp : (env.scope.kind == .class || (env.scope.kind == .module && env.locals != env.globals)) = false) :
    ForAt prog w A env (.Tuple [.Name xi pi, .Name xv pv] x1 pt) body Q E (.ref e) s := by
  refine ⟨EnumInv L e it l K s items.size, items.size + 1,
    ⟨g₀, m₀, led₀, s.heap, s.toks, 0, .none, oi, rfl, Nat.zero_le _, rfl, F0, N0, hoi, h0⟩, ?_⟩
  rintro n s' ⟨g, m, led, h, tk, i, old, oi, rfl, hi, rfl, F₁, N₁, hoi₁, hK⟩
  have he := N₁ _ (.head _)
  have hit := N₁ _ (.tail _ (.head _))
  obtain ⟨nl, hlm⟩ := hl _ _ _ _ hK
  have hlist : h.IsList l items := PySem.IsL.isList (n := nl) (N₁ _ (.tail _ (.tail _ hlm))).1
  have hLI : h.IsListIter it l i := ⟨oi, hit.1, hoi₁.1, hoi₁.2⟩
  cases hv : items[i]? with
  | none =>
    have hsz : i = items.size := Nat.le_antisymm hi (by simpa using hv)
    refine wpAny_pyNext_enum_end hA he.1 hLI hlist hv fun h' he' => ?_
    subst hsz
    exact done g m led h' tk hK (fr_ext F₁ he' hit.2.1 hit.2.2) (news_ext (fun p hp => N₁ p (.tail _ (.tail _ hp))) he' fun p hp => (hadr _ _ _ _ hK p hp).2)
  | some v =>
    refine wpAny_mono (enum_step (pi := pi) (pv := pv) (pt := pt) (x1 := x1) (Q := fun s₂ => wpAny (model prog w) A (execs body env) (ForEnd (EnumInv L e it l K s items.size) Q (items.size + 1 - i)) E s₂) he.1 hLI hlist hv hei (hL ▸ he.2.1) (hL ▸ hit.2.1) (hL ▸ F₁.ns) hA hxi hxv hp fun h' t tk' he' hit' hn' hk' htk => ?_) (fun r s₁ h₁ => ?_) fun _ _ x => x
    · obtain ⟨oi', hoi', hc', hd'⟩ := hit'
      rw [hL] at hn'
      have F₂ : Fr g L h' _ := ⟨hn', fun b o x => hk' b o (fun q => absurd (Heap.lt_size x) (by rw [q, hL]; exact Nat.not_lt.mpr F₁.above)) (fun q => by rw [q, he.2.2] at x; cases x) (fun q => by rw [q, hit.2.2] at x; cases x) (F₁.keep b o x), F₁.above⟩
      have N₂ : News g L h' ((e, enumO it ((i : Int) + 1) v) :: (it, oi') :: led) := fun p hp => by
        rcases List.mem_cons.mp hp with rfl | hp
        · exact ⟨he', he.2⟩
        · rcases List.mem_cons.mp hp with rfl | hp
          · exact ⟨hoi', hit.2⟩
          · have z := N₁ p (.tail _ (.tail _ hp))
            exact ⟨hk' _ _ (hL ▸ z.2.1) (hadr _ _ _ _ hK p hp).1 (hadr _ _ _ _ hK p hp).2 z.1, z.2⟩
      refine wpAny_mono (turn i v g m led h' tk' t oi' hv hK F₂ N₂ ⟨hc', hd'⟩) (fun f s₃ h₃ => ?_) fun _ _ x => x
      obtain ⟨hf, g', m', led', h'', tk'', oi'', rfl, F₃, N₃, hoi₃, hK₃⟩ := h₃
      have hlt : i < items.size := (Array.getElem?_eq_some_iff.mp hv).1
      have e1 : ((i : Nat) : Int) + 1 = ((i + 1 : Nat) : Int) := by omega
      rw [e1] at N₃
      rcases hf with rfl | rfl <;> exact ⟨items.size + 1 - (i + 1), by omega, g', m', led', h'', tk'', i + 1, v, oi'', rfl, hlt, rfl, F₃, N₃, hoi₃, hK₃⟩
    · cases r with
      | none => exact h₁.elim
      | some a => exact h₁
end
end Mine
end

section
open PySem PySem.W PyProof.Rows PySem.Spec PySem.Calls
set_option maxRecDepth 100000
namespace Mine
section
variable {prog : Program} {w : World} {A : Around} {E : Value → Shared → Prop} {s : Shared} {env : Env} {elt target iter : PySem.Expr} {ifs : List PySem.Expr} {scope : Scope} {cl : List (Str × Addr)} {pos : Pos}

/-- the loop of a comprehension: the new list at D, the block's names at C -/
def CompBody (prog : Program) (w : World) (A : Around) (env : Env) (elt target iter : PySem.Expr) (ifs : List PySem.Expr) (scope : Scope) (cl : List (Str × Addr)) (pos : Pos)
    (g : Heap) (L : Addr) (m : Str → Option Value) (led : List (Addr × Obj)) (it : Value) (s₂ : Shared) (R : Value → Addr → Result → Shared → Prop) : Prop :=
  ∀ (D C : Nat) h₁ mC tk, (∀ p ∈ led, p.1 < D) → L < D → D < C → g.get? C = none → Fr g L h₁ m → News g L h₁ ((D, listOf #[] 0) :: led) → h₁.Ns C mC →
    codeAny (model prog w) A (.compStart (.ListComp elt [⟨target, iter, ifs, 0⟩] scope pos) 0 it (.ref D) (compEnvC scope cl C env)) (R (.ref D) C) { s₂ with heap := h₁, toks := tk }

theorem comp_block {s₂ : Shared} {g : Heap} {L : Addr} {m : Str → Option Value} {led : List (Addr × Obj)} {it : Value} {R : Value → Addr → Result → Shared → Prop}
    (hcell : ∀ y ∈ scope.names, y.2 ≠ .cell) (hkind : scope.kind = .function) (F : Fr g L s₂.heap m) (N : News g L s₂.heap led)
    (h : CompBody prog w A env elt target iter ifs scope cl pos g L m led it s₂ R) :
    wpAny (model prog w) A (newList []) (fun acc s₃ => wpAny (model prog w) A (newFunctionEnv scope env.globals cl [] env.qual none .none (some env)) (fun cenv s₄ =>
      codeAny (model prog w) A (.compStart (.ListComp elt [⟨target, iter, ifs, 0⟩] scope pos) 0 it acc { cenv with scope := relabel scope env }) (R acc cenv.locals) s₄) E s₃) E s₂ := by
  refine newList_N F N fun h' F' N' => ?_
  refine wpAny_newFunctionEnv hcell (by intro y hy; simp at hy) (fun h₁ hns₁ hsb₁ => ?_) hkind
  dsimp only at hns₁ hsb₁ ⊢
  have hD : s₂.heap.objs.size < h'.objs.size := Heap.lt_size (N' _ (.head _)).1
  have hg : g.get? h'.objs.size = none := by
    cases q : g.get? h'.objs.size with
    | none => rfl
    | some o => exact absurd (Heap.lt_size (F'.keep _ _ q)) (Nat.lt_irrefl _)
  have up : ∀ b o, h'.get? b = some o → h₁.get? b = some o := fun b o e => hsb₁.extBut b o (Nat.ne_of_lt (Heap.lt_size e)) (Heap.get?_push_of_some _ e)
  have F₁ : Fr g L h₁ m := ⟨F'.ns.keeps up, fun b o e => up b o (F'.keep b o e), F'.above⟩
  have N₁ : News g L h₁ ((s₂.heap.objs.size, listOf #[] 0) :: led) := fun p hp => ⟨up _ _ (N' p hp).1, (N' p hp).2⟩
  exact h s₂.heap.objs.size h'.objs.size h₁ _ _ (fun p hp => Heap.lt_size (N p hp).1) F.ns.lt hD hg F₁ N₁ hns₁

/-- what stands behind a comprehension's loop -/
def CompDone (s₂ : Shared) (g : Heap) (L : Addr) (m : Str → Option Value) (Post : Array Value → List (Addr × Obj) → Prop) (D C : Nat) (s' : Shared) : Prop :=
  ∃ h tk ys k led' mC, s' = { s₂ with heap := h, toks := tk } ∧ Fr g L h m ∧ News g L h ((D, listOf ys k) :: led') ∧ h.Ns C mC ∧ (∀ p ∈ led', p.1 ≠ C) ∧ Post ys led'

def CompLoop (prog : Program) (w : World) (A : Around) (env : Env) (elt target iter : PySem.Expr) (ifs : List PySem.Expr) (scope : Scope) (cl : List (Str × Addr)) (pos : Pos)
    (g : Heap) (L : Addr) (m : Str → Option Value) (led : List (Addr × Obj)) (it : Value) (s₂ : Shared) (Post : Array Value → List (Addr × Obj) → Prop) : Prop :=
  ∀ (D C : Nat) h₁ mC tk, (∀ p ∈ led, p.1 < D) → L < D → D < C → g.get? C = none → Fr g L h₁ m → News g L h₁ ((D, listOf #[] 0) :: led) → h₁.Ns C mC →
    ∀ R : Result → Shared → Prop, (∀ s', CompDone s₂ g L m Post D C s' → R (.ok .next) s') →
    codeAny (model prog w) A (.compStart (.ListComp elt [⟨target, iter, ifs, 0⟩] scope pos) 0 it (.ref D) (compEnvC scope cl C env)) R { s₂ with heap := h₁, toks := tk }

theorem comp_eval {Q : Value → Shared → Prop} (hclos : closureFor scope env = pure cl) (hcell : ∀ y ∈ scope.names, y.2 ≠ .cell) (hkind : scope.kind = .function)
    (hnames : ∀ y ∈ scope.names, y.2 = .local → scope.names.lookup y.1 = some .local)
    (h : wpAny (model prog w) A (eval iter env) (fun xv s₁ => wpAny (model prog w) A (pyIter xv) (fun it s₂ => ∃ g L m led Post, Fr g L s₂.heap m ∧ News g L s₂.heap led ∧
      CompLoop prog w A env elt target iter ifs scope cl pos g L m led it s₂ Post ∧
      ∀ (D : Nat) h' tk ys k led', (∀ p ∈ led, p.1 < D) → Fr g L h' m → News g L h' ((D, listOf ys k) :: led') → Post ys led' → Q (.ref D) { s₂ with heap := h', toks := tk }) E s₁) E s)
    (hs : ∀ x, foldedSetIterable iter env x = pure x := by intro _; rfl) :
    wpAny (model prog w) A (eval (.ListComp elt [⟨target, iter, ifs, 0⟩] scope pos) env) Q E s := by
  rw [eval_ListComp]
  refine wpAny_comprehension_free (use := none) rfl hs hclos hkind hnames (wpAny_mono h (fun xv s₁ h₁ => wpAny_mono h₁ (fun it s₂ h₂ => ?_) fun _ _ e => e) fun _ _ e => e)
  obtain ⟨g, L, m, led, Post, F, N, hl, hQ⟩ := h₂
  refine comp_block (R := fun acc C => compPost (model prog w) A E none Q acc C) hcell hkind F N ?_
  intro D C h₁ mC tk hD hL hC hg F₁ N₁ hn
  refine hl D C h₁ mC tk hD hL hC hg F₁ N₁ hn _ ?_
  rintro s' ⟨h, tk', ys, k, led', mC', rfl, F', N', hn', hne, hP⟩
  refine ⟨mC', hn', fun h'' hs'' => ?_⟩
  exact hQ D h'' tk' ys k led' hD (F'.change hs'' (Nat.ne_of_gt (Nat.lt_trans hL hC)) hg) (fun p hp => ⟨(hs''.2 _ (by
    rcases List.mem_cons.mp hp with rfl | hp
    · exact Nat.ne_of_lt hC
    · exact hne p hp)).trans (N' p hp).1, (N' p hp).2⟩) hP

theorem comp_assign {y : Str} {py spos : Pos} {Q : Flow → Shared → Prop} (hsw : swapsWith (.ListComp elt [⟨target, iter, ifs, 0⟩] scope pos) (some (.Name y py)) spos.line env = pure true)
    (hclos : closureFor scope env = pure cl) (hcell : ∀ y ∈ scope.names, y.2 ≠ .cell) (hkind : scope.kind = .function)
    (hnames : ∀ y ∈ scope.names, y.2 = .local → scope.names.lookup y.1 = some .local)
    (hy : env.kindOf y = some .local) (hp : (env.scope.kind == .class || (env.scope.kind == .module && env.locals != env.globals)) = false)
    (h : wpAny (model prog w) A (eval iter env) (fun xv s₁ => wpAny (model prog w) A (pyIter xv) (fun it s₂ => ∃ g m led Post, Fr g env.locals s₂.heap m ∧ News g env.locals s₂.heap led ∧
      CompLoop prog w A env elt target iter ifs scope cl pos g env.locals m led it s₂ Post ∧
      ∀ (D : Nat) h' tk ys k led', (∀ p ∈ led, p.1 < D) → Fr g env.locals h' (fun z => if z = y then some (.ref D) else m z) → News g env.locals h' ((D, listOf ys k) :: led') → Post ys led' → Q .next { s₂ with heap := h', toks := tk }) E s₁) E s)
    (hs : ∀ x, foldedSetIterable iter env x = pure x := by intro _; rfl) :
    wpAny (model prog w) A (exec (.Assign [.Name y py] (.ListComp elt [⟨target, iter, ifs, 0⟩] scope pos) spos) env) Q E s := by
  rw [exec_Assign_Name_used _ _ _ _ hsw]
  refine wpAny_bind (wpAny_standAt (wpAny_bind ?_))
  show wpAny _ A (do let _ ← comprehension (.ListComp elt [⟨target, iter, ifs, 0⟩] scope pos) scope env _ (newList []) false (eval iter env) (some (assign (.Name y py) env))) _ _ s
  refine wpAny_bind (wpAny_mono (wpAny_comprehension_free (use := some (assign (.Name y py) env)) (Q := fun _ s' => Q .next s') rfl hs hclos hkind hnames
    (wpAny_mono h (fun xv s₁ h₁ => wpAny_mono h₁ (fun it s₂ h₂ => ?_) fun _ _ e => e) fun _ _ e => e)) (fun _ s' hq => wpAny_pure (wpAny_pure hq)) fun _ _ e => e)
  obtain ⟨g, m, led, Post, F, N, hl, hQ⟩ := h₂
  refine comp_block (R := fun acc C => compPost (model prog w) A E (some (assign (.Name y py) env)) (fun _ s' => Q .next s') acc C) hcell hkind F N ?_
  intro D C h₁ mC tk hD hL hC hg F₁ N₁ hn
  refine hl D C h₁ mC tk hD hL hC hg F₁ N₁ hn _ ?_
  rintro s' ⟨h, tk', ys, k, led', mC', rfl, F', N', hn', hne, hP⟩
  have hLC : C ≠ env.locals := Nat.ne_of_gt (Nat.lt_trans hL hC)
  show wpAny _ A (assign (.Name y py) env (.ref D)) _ _ _
  refine wpAny_assign_Name (wpAny_storeName_local hy F'.ns (fun h₂ hn₂ hs₂ => ?_) hp)
  refine ⟨mC', hn'.sameBut hs₂ hLC, fun h'' hs'' => ?_⟩
  have F₂ := F'.set hn₂ hs₂
  have N₂ := N'.set hs₂
  exact hQ D h'' _ ys k led' hD (F₂.change hs'' hLC hg) (fun p hp => ⟨(hs''.2 _ (by
    rcases List.mem_cons.mp hp with rfl | hp
    · exact Nat.ne_of_lt hC
    · exact hne p hp)).trans (N₂ p hp).1, (N₂ p hp).2⟩) hP
end
end Mine
end

section
open PySem PySem.W PyProof.Rows PySem.Spec PySem.Calls
set_option maxRecDepth 100000
namespace Mine
/-- the places whose items pass -/
def idxs (p : Nat → Value → Bool) : Nat → List Value → List Int
  | _, [] => []
  | i, v :: r => if p i v then (i : Int) :: idxs p (i + 1) r else idxs p (i + 1) r
theorem idxs_snoc (p : Nat → Value → Bool) (v : Value) : ∀ (l : List Value) (i : Nat), idxs p i (l ++ [v]) = idxs p i l ++ (if p (i + l.length) v then [((i + l.length : Nat) : Int)] else [])
  | [], i => by simp only [List.nil_append, idxs, List.length_nil, Nat.add_zero]
  | x :: r, i => by
    have ih := idxs_snoc p v r (i + 1)
    have e : i + 1 + r.length = i + (r.length + 1) := by omega
    rw [e] at ih
    simp only [List.cons_append, idxs, List.length_cons, ih]
    split <;> simp
theorem idxs_length (p : Nat → Value → Bool) : ∀ (l : List Value) (i : Nat), (idxs p i l).length ≤ l.length
  | [], _ => Nat.le_refl _
  | x :: r, i => by
    have := idxs_length p r (i + 1)
    simp only [idxs, List.length_cons]
    split
    · simp only [List.length_cons]; omega
    · omega
theorem intsAre_snoc {vs : List Value} {ns : List Int} {n : Int} {t : Tok} (h : IntsAre vs ns) : IntsAre (vs ++ [.int n t]) (ns ++ [n]) := by
  induction h with
  | nil => exact .cons _ _ .nil
  | cons i t _ ih => exact .cons i t ih
section
variable {prog : Program} {w : World} {A : Around} {R : Result → Shared → Prop} {s : Shared} {env : Env} {elt target iter : PySem.Expr} {c : PySem.Expr} {scope : Scope} {cl : List (Str × Addr)} {pos : Pos}

theorem compLoop_any {cenv : Env} {it acc : Value} {ifs : List PySem.Expr} (I : Nat → Shared → Prop)
    (turn : ∀ n s, I n s → wpAny (model prog w) A (pyNext it) (fun r s₁ => match r with
      | none => R (.ok .next) s₁
      | some v => wpAny (model prog w) A (letOwnedTupleGo target it v) (fun _ s₁' => wpAny (model prog w) A (assign target cenv v) (fun _ s₂ =>
          wpAny (model prog w) A (forIn ifs true fun c r => if r = true then do let ok ← isTrue c cenv (eval c cenv); pure (ForInStep.yield ok) else pure (ForInStep.yield r)) (fun ok s₃ =>
            if ok = true then wpAny (model prog w) A (eval elt cenv) (fun x s₄ =>
              wpAny (model prog w) A (call (.builtin "list.append") [acc, x]) (fun _ s₅ => ∃ m, m < n ∧ I m s₅) (notedBy (model prog w) A cenv fun e s' => R (.error e) s') s₄) (notedBy (model prog w) A cenv fun e s' => R (.error e) s') s₃
            else ∃ m, m < n ∧ I m s₃) (notedBy (model prog w) A cenv fun e s' => R (.error e) s') s₂) (notedBy (model prog w) A cenv fun e s' => R (.error e) s') s₁') (notedBy (model prog w) A cenv fun e s' => R (.error e) s') s₁) (notedBy (model prog w) A cenv fun e s' => R (.error e) s') s)
    (n : Nat) (h : I n s) : codeAny (model prog w) A (.compLoop (.ListComp elt [⟨target, iter, ifs, 0⟩] scope pos) 0 it acc cenv) R s := by
  refine codeAny_loop rfl I (fun n s hI => ?_) n h
  show wpAny _ A ((compTurn (.ListComp elt [⟨target, iter, ifs, 0⟩] scope pos) 0 it acc cenv).onRaise (fun x => do noteFrame x cenv; theTreesLotGoes x)) _ _ s
  refine wpAny_noted ?_
  rw [compTurn_list]
  refine wpAny_bind (wpAny_standAt (wpAny_bind (wpAny_mono (turn n s hI) (fun r s₁ h₁ => ?_) fun _ _ h' => h')))
  cases r with
  | none => exact wpAny_pure h₁
  | some v =>
    refine wpAny_bind (wpAny_mono h₁ (fun _ s₁' h₁' => ?_) fun _ _ h' => h')
    refine wpAny_bind (wpAny_mono h₁' (fun _ s₂ h₂ => wpAny_bind (wpAny_mono h₂ (fun ok s₃ h₃ => ?_) fun _ _ h' => h')) fun _ _ h' => h')
    cases ok with
    | false => exact wpAny_pure ⟨rfl, h₃⟩
    | true =>
      exact wpAny_bind (wpAny_bind (wpAny_mono h₃ (fun x s₄ h₄ => wpAny_bind (wpAny_mono h₄ (fun _ s₅ h₅ => wpAny_pure (wpAny_pure ⟨rfl, h₅⟩)) fun _ _ h' => h')) fun _ _ h' => h'))

theorem append_sb {its : Array Value} {n : Nat} {x : Value} {g : Heap} {L D : Addr} {m : Str → Option Value} {r : List (Addr × Obj)} {E : Value → Shared → Prop} {Q : Value → Shared → Prop} (F : Fr g L s.heap m) (N : News g L s.heap ((D, listOf its n) :: r)) (hr : ∀ p ∈ r, p.1 ≠ D)
    (h : ∀ h', Fr g L h' m → News g L h' ((D, listOf (its.push x) (n + 1)) :: r) → Heap.SameBut D s.heap h' → Q .none { s with heap := h' }) (hsz : its.size ≤ 2000) : wpAny (model prog w) A (call (.builtin "list.append") [.ref D, x]) Q E s := by
  have z := N (D, listOf its n) (.head _)
  exact append_at (hsz := by rw [sizeLine_eq]; omega) z.1 fun h' hs ho' => h h' (F.change hs z.2.1 z.2.2) (news_set (pre := []) N (by simp) hr hs ho') hs

def CEInv (s₂ : Shared) (g : Heap) (L : Addr) (m : Str → Option Value) (led : List (Addr × Obj)) (e it l : Addr) (items : List Value) (p : Nat → Value → Bool) (D C : Nat) (n : Nat) (s' : Shared) : Prop :=
  ∃ h tk i ys k mC oi old, n = items.length + 1 - i ∧ i ≤ items.length ∧ s' = { s₂ with heap := h, toks := tk } ∧ Fr g L h m ∧ News g L h ((D, listOf ys k) :: (e, enumO it ((i : Nat) : Int) old) :: (it, oi) :: led) ∧ h.Ns C mC ∧ IsLI oi l i ∧ IntsAre ys.toList (idxs p 0 (items.take i))

theorem loop_enum {xi xv : Str} {pe pi pv pt : Pos} {x1} {e it l : Addr} {items : List Value} {oi : Obj} {g : Heap} {L : Addr} {m : Str → Option Value} {led : List (Addr × Obj)} {s₂ : Shared} {nl : Nat} (p : Nat → Value → Bool)
    (hoi : IsLI oi l 0) (hei : e ≠ it) (hl : (l, listOf items.toArray nl) ∈ led) (hadr : ∀ q ∈ led, q.1 ≠ e ∧ q.1 ≠ it) (hA : A.handled = none) (hxi : scope.names.lookup xi = some .local) (hxv : scope.names.lookup xv = some .local) (hkind : scope.kind = .function)
    (hne : xi ≠ xv) (hsz : items.length ≤ 1000) (hdb : (xi == ("__debug__" : Str)) = false)
    (test : ∀ (C : Nat) i v t s' mC E', items[i]? = some v → s'.heap.Ns C mC → mC xv = some v → mC xi = some (.int i t) → News g L s'.heap led →
      wpAny (model prog w) A (isTrue c (compEnvC scope cl C env) (eval c (compEnvC scope cl C env))) (fun b s'' => b = p i v ∧ ∃ tk, s'' = { s' with toks := tk }) E' s') :
    CompLoop prog w A env (.Name xi pe) (.Tuple [.Name xi pi, .Name xv pv] x1 pt) iter [c] scope cl pos g L m ((e, enumO it 0 .none) :: (it, oi) :: led) (.ref e) s₂ (fun ys led' => led' = led ∧ IntsAre ys.toList (idxs p 0 items)) := by
  intro D C h₁ mC tk hD hL hC hg F₁ N₁ hn R hR
  have hkx : (compEnvC scope cl C env).kindOf xi = some .local := lookup_relabel_local hxi
  have hkv : (compEnvC scope cl C env).kindOf xv = some .local := lookup_relabel_local hxv
  have hks : (compEnvC scope cl C env).scope.kind = .function := hkind
  have hp : ((compEnvC scope cl C env).scope.kind == .class || ((compEnvC scope cl C env).scope.kind == .module && (compEnvC scope cl C env).locals != (compEnvC scope cl C env).globals)) = false := by rw [hks]; rfl
  have heD : e < D := hD _ (.head _)
  have hiD : it < D := hD _ (.tail _ (.head _))
  have hlD : ∀ q ∈ led, q.1 < D := fun q hq => hD _ (.tail _ (.tail _ hq))
  have loop : codeAny (model prog w) A (.compLoop (.ListComp (.Name xi pe) [⟨.Tuple [.Name xi pi, .Name xv pv] x1 pt, iter, [c], 0⟩] scope pos) 0 (.ref e) (.ref D) (compEnvC scope cl C env)) R { s₂ with heap := h₁, toks := tk } := by
    refine compLoop_any (CEInv s₂ g L m led e it l items p D C) ?_ (items.length + 1) ⟨h₁, tk, 0, #[], 0, mC, oi, .none, rfl, Nat.zero_le _, rfl, F₁, N₁, hn, hoi, .nil⟩
    rintro n s' ⟨h, tk, i, ys, k, mC, oi, old, rfl, hi, rfl, F', N', hn', hoi', hI⟩
    have zD := N' _ (.head _)
    have ze := N' _ (.tail _ (.head _))
    have zi := N' _ (.tail _ (.tail _ (.head _)))
    have hlist : h.IsList l items.toArray := PySem.IsL.isList (n := nl) (N' _ (.tail _ (.tail _ (.tail _ hl)))).1
    have hLI : h.IsListIter it l i := ⟨oi, zi.1, hoi'.1, hoi'.2⟩
    cases hv : items[i]? with
    | none =>
      have hsz' : i = items.length := Nat.le_antisymm hi (by simpa using hv)
      refine wpAny_pyNext_enum_end hA ze.1 hLI hlist (by simpa using hv) fun h' he' => ?_
      subst hsz'
      rw [List.take_length] at hI
      refine hR _ ⟨h', tk, ys, k, led, mC, rfl, fr_ext F' he' zi.2.1 zi.2.2, news_ext (D := it) (r := (D, listOf ys k) :: led) (fun q hq => ?_) he' ?_, hn'.extBut he' (Nat.ne_of_gt (Nat.lt_trans hiD hC)), fun q hq => Nat.ne_of_lt (Nat.lt_trans (hlD q hq) hC), rfl, hI⟩
      · rcases List.mem_cons.mp hq with rfl | hq
        · exact zD
        · exact N' q (.tail _ (.tail _ (.tail _ hq)))
      · intro q hq
        rcases List.mem_cons.mp hq with rfl | hq
        · exact Nat.ne_of_gt hiD
        · exact (hadr q hq).2
    | some v =>
      have hlt : i < items.length := (List.getElem?_eq_some_iff.mp hv).1
      refine wpAny_mono (enum_step (env := compEnvC scope cl C env) (pi := pi) (pv := pv) (pt := pt) (x1 := x1) (Q := fun s₂' =>
          wpAny (model prog w) A (forIn [c] true fun c r => if r = true then do let ok ← isTrue c (compEnvC scope cl C env) (eval c (compEnvC scope cl C env)); pure (ForInStep.yield ok) else pure (ForInStep.yield r)) (fun ok s₃ =>
            if ok = true then wpAny (model prog w) A (eval (.Name xi pe) (compEnvC scope cl C env)) (fun x s₄ =>
              wpAny (model prog w) A (call (.builtin "list.append") [.ref D, x]) (fun _ s₅ => ∃ m', m' < items.length + 1 - i ∧ CEInv s₂ g L m led e it l items p D C m' s₅) (notedBy (model prog w) A (compEnvC scope cl C env) fun e s' => R (.error e) s') s₄) (notedBy (model prog w) A (compEnvC scope cl C env) fun e s' => R (.error e) s') s₃
            else ∃ m', m' < items.length + 1 - i ∧ CEInv s₂ g L m led e it l items p D C m' s₃) (notedBy (model prog w) A (compEnvC scope cl C env) fun e s' => R (.error e) s') s₂')
          ze.1 hLI hlist (by simpa using hv) hei (Nat.ne_of_lt (Nat.lt_trans heD hC)) (Nat.ne_of_lt (Nat.lt_trans hiD hC)) hn' hA hkx hkv hp fun h' t tk' he' hit' hn₂ hk' htk => ?_) (fun r s₁ h₁ => ?_) fun _ _ x => x
      · obtain ⟨oi', hoi₂, hc', hd'⟩ := hit'
        have F₂ : Fr g L h' m := ⟨F'.ns.at fun o x => hk' _ o (Nat.ne_of_lt (Nat.lt_trans hL hC)) (Ne.symm ze.2.1) (Ne.symm zi.2.1) x,
          fun b o x => hk' b o (fun q => by have q' : b = C := q; rw [q', hg] at x; cases x) (fun q => by rw [q, ze.2.2] at x; cases x) (fun q => by rw [q, zi.2.2] at x; cases x) (F'.keep b o x), F'.above⟩
        have N₂ : News g L h' ((D, listOf ys k) :: (e, enumO it ((i : Int) + 1) v) :: (it, oi') :: led) := fun q hq => by
          rcases List.mem_cons.mp hq with rfl | hq
          · exact ⟨hk' _ _ (Nat.ne_of_lt hC) (Nat.ne_of_gt heD) (Nat.ne_of_gt hiD) zD.1, zD.2⟩
          · rcases List.mem_cons.mp hq with rfl | hq
            · exact ⟨he', ze.2⟩
            · rcases List.mem_cons.mp hq with rfl | hq
              · exact ⟨hoi₂, zi.2⟩
              · have z := N' q (.tail _ (.tail _ (.tail _ hq)))
                exact ⟨hk' _ _ (Nat.ne_of_lt (Nat.lt_trans (hlD q hq) hC)) (hadr q hq).1 (hadr q hq).2 z.1, z.2⟩
        have hmi : (fun y => if y = xv then some v else if y = xi then some (Value.int (i : Int) t) else mC y) xi = some (.int i t) := by simp [hne]
        refine wpAny_tests_one (wpAny_mono (test C i v t _ _ _ hv hn₂ (by simp) hmi fun q hq => N₂ q (.tail _ (.tail _ (.tail _ hq)))) (fun b s₃ h₃ => ?_) fun _ _ x => x)
        obtain ⟨rfl, tk₃, rfl⟩ := h₃
        have e1 : ((i : Nat) : Int) + 1 = ((i + 1 : Nat) : Int) := by omega
        rw [e1] at N₂
        have htake : items.take (i + 1) = items.take i ++ [v] := by rw [List.take_add_one, hv]; rfl
        have hix : idxs p 0 (items.take (i + 1)) = idxs p 0 (items.take i) ++ (if p i v then [(i : Int)] else []) := by
          rw [htake, idxs_snoc]
          have : 0 + (items.take i).length = i := by rw [List.length_take]; omega
          rw [this]
        cases hpv : p i v with
        | false =>
          rw [hpv] at hix
          simp only [Bool.false_eq_true, if_false]
          exact ⟨items.length + 1 - (i + 1), by omega, h', tk₃, i + 1, ys, k, _, oi', v, rfl, hlt, rfl, F₂, N₂, hn₂, ⟨hc', hd'⟩, by rw [hix]; simpa using hI⟩
        | true =>
          rw [hpv] at hix
          simp only [if_true]
          refine wpAny_Name (wpAny_loadName_local hks hkx hn₂ hmi ?_) hdb
          have hys : ys.size ≤ 2000 := by
            have a1 := hI.length
            have a2 := idxs_length p (items.take i) 0
            have a3 : (items.take i).length ≤ items.length := by rw [List.length_take]; omega
            simp only [Array.length_toList] at a1
            omega
          refine append_sb F₂ N₂ ?_ (fun h₄ F₄ N₄ hs₄ => ?_) hys
          · intro q hq
            rcases List.mem_cons.mp hq with rfl | hq
            · exact Nat.ne_of_lt heD
            · rcases List.mem_cons.mp hq with rfl | hq
              · exact Nat.ne_of_lt hiD
              · exact Nat.ne_of_lt (hlD q hq)
          · refine ⟨items.length + 1 - (i + 1), by omega, h₄, tk₃, i + 1, ys.push (.int i t), k + 1, _, oi', v, rfl, hlt, rfl, F₄, N₄, hn₂.sameBut hs₄ (Nat.ne_of_gt hC), ⟨hc', hd'⟩, ?_⟩
            rw [hix]
            simp only [if_true, Array.toList_push]
            exact intsAre_snoc hI
      · cases r with
        | none => exact h₁.elim
        | some a => exact h₁
  exact codeAny_compStart_list loop (wpAny_pyIter_enum (N₁ _ (.tail _ (.head _))).1 loop)
end
end Mine
end

section
open PySem PySem.W PyProof.Rows PySem.Spec PySem.Calls
set_option maxRecDepth 100000
namespace Mine
section
variable {prog : Program} {w : World} {A : Around} {R : Result → Shared → Prop} {s : Shared} {env : Env} {elt iter : PySem.Expr} {c : PySem.Expr} {scope : Scope} {cl : List (Str × Addr)} {pos : Pos}

def CNInv (s₂ : Shared) (g : Heap) (L : Addr) (m : Str → Option Value) (led : List (Addr × Obj)) (it l : Addr) (items : List Value) (D C : Nat) (n : Nat) (s' : Shared) : Prop :=
  ∃ h tk i mC oi, n = items.length + 1 - i ∧ i ≤ items.length ∧ s' = { s₂ with heap := h, toks := tk } ∧ Fr g L h m ∧ News g L h ((D, listOf #[] 0) :: (it, oi) :: led) ∧ h.Ns C mC ∧ IsLI oi l i

theorem loop_none {x : Str} {px : Pos} {it l : Addr} {items : List Value} {oi : Obj} {g : Heap} {L : Addr} {m : Str → Option Value} {led : List (Addr × Obj)} {s₂ : Shared} {nl : Nat}
    (hoi : IsLI oi l 0) (hl : (l, listOf items.toArray nl) ∈ led) (hadr : ∀ q ∈ led, q.1 ≠ it) (hA : A.handled = none) (hx : scope.names.lookup x = some .local) (hkind : scope.kind = .function)
    (test : ∀ (C : Nat) v s' mC E', v ∈ items → s'.heap.Ns C mC → mC x = some v →
      wpAny (model prog w) A (isTrue c (compEnvC scope cl C env) (eval c (compEnvC scope cl C env))) (fun b s'' => b = false ∧ ∃ tk, s'' = { s' with toks := tk }) E' s') :
    CompLoop prog w A env elt (.Name x px) iter [c] scope cl pos g L m ((it, oi) :: led) (.ref it) s₂ (fun ys led' => led' = led ∧ ys = #[]) := by
  intro D C h₁ mC tk hD hL hC hg F₁ N₁ hn R hR
  have hkx : (compEnvC scope cl C env).kindOf x = some .local := lookup_relabel_local hx
  have hks : (compEnvC scope cl C env).scope.kind = .function := hkind
  have hp : ((compEnvC scope cl C env).scope.kind == .class || ((compEnvC scope cl C env).scope.kind == .module && (compEnvC scope cl C env).locals != (compEnvC scope cl C env).globals)) = false := by rw [hks]; rfl
  have hiD : it < D := hD _ (.head _)
  have hlD : ∀ q ∈ led, q.1 < D := fun q hq => hD _ (.tail _ hq)
  have loop : codeAny (model prog w) A (.compLoop (.ListComp elt [⟨.Name x px, iter, [c], 0⟩] scope pos) 0 (.ref it) (.ref D) (compEnvC scope cl C env)) R { s₂ with heap := h₁, toks := tk } := by
    refine codeAny_compLoop_tests (CNInv s₂ g L m led it l items D C) ?_ (items.length + 1) ⟨h₁, tk, 0, mC, oi, rfl, Nat.zero_le _, rfl, F₁, N₁, hn, hoi⟩
    rintro n s' ⟨h, tk, i, mC, oi, rfl, hi, rfl, F', N', hn', hoi'⟩
    have zD := N' _ (.head _)
    have zi := N' _ (.tail _ (.head _))
    have hlist : h.IsList l items.toArray := PySem.IsL.isList (n := nl) (N' _ (.tail _ (.tail _ hl))).1
    have hLI : h.IsListIter it l i := ⟨oi, zi.1, hoi'.1, hoi'.2⟩
    cases hv : items[i]? with
    | none =>
      refine wpAny_pyNext_list_end hA hLI hlist (by simpa using hv) fun h' he' => ?_
      refine hR _ ⟨h', tk, #[], 0, led, mC, rfl, fr_ext F' he' zi.2.1 zi.2.2, news_ext (D := it) (r := (D, listOf #[] 0) :: led) (fun q hq => ?_) he' ?_, hn'.extBut he' (Nat.ne_of_gt (Nat.lt_trans hiD hC)), fun q hq => Nat.ne_of_lt (Nat.lt_trans (hlD q hq) hC), rfl, rfl⟩
      · rcases List.mem_cons.mp hq with rfl | hq
        · exact zD
        · exact N' q (.tail _ (.tail _ hq))
      · intro q hq
        rcases List.mem_cons.mp hq with rfl | hq
        · exact Nat.ne_of_gt hiD
        · exact hadr q hq
    | some v =>
      have hlt : i < items.length := (List.getElem?_eq_some_iff.mp hv).1
      refine wpAny_pyNext_list_item hLI hlist (by simpa using hv) fun h₂ hit₂ hs₂ => ?_
      refine wpAny_assign_Name (wpAny_storeName_local hkx (hn'.sameBut hs₂ (Nat.ne_of_gt (Nat.lt_trans hiD hC))) (fun h₃ hn₃ hs₃ => ?_) hp)
      have hs₂' : Heap.SameBut it h h₂ := hs₂
      have hs₃' : Heap.SameBut C h₂ h₃ := hs₃
      obtain ⟨oi', hoi₂, hc', hd'⟩ := hit₂
      have F₃ : Fr g L h₃ m := (F'.change hs₂' zi.2.1 zi.2.2).change hs₃' (Nat.ne_of_gt (Nat.lt_trans hL hC)) hg
      have N₃ : News g L h₃ ((D, listOf #[] 0) :: (it, oi') :: led) := fun q hq => by
        rcases List.mem_cons.mp hq with rfl | hq
        · exact ⟨(hs₃'.2 _ (Nat.ne_of_lt hC)).trans ((hs₂'.2 _ (Nat.ne_of_gt hiD)).trans zD.1), zD.2⟩
        · rcases List.mem_cons.mp hq with rfl | hq
          · exact ⟨(hs₃'.2 _ (Nat.ne_of_lt (Nat.lt_trans hiD hC))).trans hoi₂, zi.2⟩
          · have z := N' q (.tail _ (.tail _ hq))
            exact ⟨(hs₃'.2 _ (Nat.ne_of_lt (Nat.lt_trans (hlD q hq) hC))).trans ((hs₂'.2 _ (hadr q hq)).trans z.1), z.2⟩
      refine wpAny_tests_one (wpAny_mono (test C v _ _ _ (List.mem_of_getElem? hv) hn₃ (by simp)) (fun b s₄ h₄ => ?_) fun _ _ x => x)
      obtain ⟨rfl, tk₄, rfl⟩ := h₄
      simp only [Bool.false_eq_true, if_false]
      exact ⟨items.length + 1 - (i + 1), by omega, h₃, tk₄, i + 1, _, oi', rfl, hlt, rfl, F₃, N₃, hn₃, hc', hd'⟩
  exact codeAny_compStart_list loop (wpAny_pyIter_listiter ⟨oi, (N₁ _ (.tail _ (.head _))).1, hoi.1, hoi.2⟩ loop)

abbrev liO (l : Addr) : Obj := { cls := .type "list_iterator", data := .fields #[.ref l, .int 0 0] }
theorem iter_list {E : Value → Shared → Prop} {its : Array Value} {n : Nat} {g : Heap} {L l : Addr} {m : Str → Option Value} {news : List (Addr × Obj)} {Q : Value → Shared → Prop} (F : Fr g L s.heap m) (N : News g L s.heap news) (hm : (l, listOf its n) ∈ news)
    (h : ∀ (it : Nat) h', Fr g L h' m → News g L h' ((it, liO l) :: news) → (∀ p ∈ news, p.1 < it) → Q (.ref it) { s with heap := h' }) : wpAny (model prog w) A (pyIter (.ref l)) Q E s :=
  wpAny_pyIter_list (PySem.IsL.isList (n := n) (N _ hm).1) (h _ _ (F.push _) (N.push F _) fun p hp => Heap.lt_size (N p hp).1)
theorem enum_make {E : Value → Shared → Prop} {its : Array Value} {n : Nat} {g : Heap} {L l : Addr} {m : Str → Option Value} {news : List (Addr × Obj)} {Q : Value → Shared → Prop} (F : Fr g L s.heap m) (N : News g L s.heap news) (hm : (l, listOf its n) ∈ news)
    (h : ∀ (e it : Nat) oi h', Fr g L h' m → News g L h' ((e, enumO it 0 .none) :: (it, oi) :: news) → IsLI oi l 0 → e ≠ it → (∀ p ∈ news, p.1 ≠ e ∧ p.1 ≠ it) → Q (.ref e) { s with heap := h' }) :
    wpAny (model prog w) A (call (.type "enumerate") [.ref l]) Q E s := by
  refine call_enumerate_list (PySem.IsL.isList (n := n) (N _ hm).1) fun h' he hit hz hk => ?_
  obtain ⟨oi, hoi, hc, hd⟩ := hit
  have fresh : ∀ a, s.heap.objs.size ≤ a → g.get? a = none := fun a ha => by
    cases q : g.get? a with
    | none => rfl
    | some o => exact absurd (Heap.lt_size (F.keep _ _ q)) (Nat.not_lt.mpr ha)
  have hL := F.ns.lt
  refine h _ _ oi h' ⟨F.ns.keeps hk, fun b o e => hk b o (F.keep b o e), F.above⟩ (fun p hp => ?_) ⟨hc, hd⟩ (Nat.succ_ne_self _) fun p hp => ?_
  · rcases List.mem_cons.mp hp with rfl | hp
    · exact ⟨he, Nat.ne_of_gt (Nat.lt_succ_of_lt hL), fresh _ (Nat.le_succ _)⟩
    · rcases List.mem_cons.mp hp with rfl | hp
      · exact ⟨hoi, Nat.ne_of_gt hL, fresh _ (Nat.le_refl _)⟩
      · exact ⟨hk _ _ (N p hp).1, (N p hp).2⟩
  · have := Heap.lt_size (N p hp).1
    exact ⟨Nat.ne_of_lt (Nat.lt_succ_of_lt this), Nat.ne_of_lt this⟩
theorem iter_enum {E : Value → Shared → Prop} {g : Heap} {L e it : Addr} {news : List (Addr × Obj)} {i : Int} {old : Value} {Q : Value → Shared → Prop} (N : News g L s.heap news) (hm : (e, enumO it i old) ∈ news) (h : Q (.ref e) s) : wpAny (model prog w) A (pyIter (.ref e)) Q E s :=
  wpAny_pyIter_enum (N _ hm).1 h

theorem add_K {E : Value → Shared → Prop} {its its2 : Array Value} {n n2 : Nat} {g : Heap} {L l b : Addr} {m : Str → Option Value} {news : List (Addr × Obj)} {Q : Value → Shared → Prop} (F : Fr g L s.heap m) (N : News g L s.heap news) (hm : (l, listOf its n) ∈ news) (hm2 : (b, listOf its2 n2) ∈ news) (hz : its.size + its2.size ≤ 2000)
    (h : ∀ (D : Nat) h', Fr g L h' m → News g L h' ((D, listOf (its ++ its2) 0) :: news) → (∀ p ∈ news, p.1 < D) → Q (.ref D) { s with heap := h' }) : wpAny (model prog w) A (binaryOp .Add (.ref l) (.ref b)) Q E s :=
  PySem.P.add_list (n := n) (n2 := n2) (N _ hm).1 (N _ hm2).1 (h _ _ (F.push _) (N.push F _) fun p hp => Heap.lt_size (N p hp).1) (by rw [sizeLine_eq]; omega)
theorem len_K {E : Value → Shared → Prop} {its : Array Value} {n : Nat} {g : Heap} {L l : Addr} {news : List (Addr × Obj)} {Q : Value → Shared → Prop} (N : News g L s.heap news) (hm : (l, listOf its n) ∈ news) (hz : its.size ≤ 2000)
    (h : Q (.int its.size (s.toks + 1)) { s with toks := s.toks + 1 + 1 }) : wpAny (model prog w) A (call (.builtin "len") [.ref l]) Q E s :=
  len_list (PySem.IsL.isList (n := n) (N _ hm).1) (by omega) h
end
end Mine
end

section
open PySem PySem.W PyProof.Rows PySem.Spec PySem.Calls
set_option maxRecDepth 100000
set_option maxHeartbeats 4000000
namespace Mine
section
variable {prog : Program} {w : World} {A : Around} {E : Value → Shared → Prop} {s : Shared} {cenv : Env}
theorem nameC {x : Str} {p : Pos} {m : Str → Option Value} {v : Value} {Q : Value → Shared → Prop} (hk : cenv.scope.kind = .function) (hl : cenv.kindOf x = some .local) (hn : s.heap.Ns cenv.locals m) (hv : m x = some v) (h : Q v s) (hd : (x == ("__debug__" : Str)) = false := by decide) :
    wpAny (model prog w) A (eval (.Name x p) cenv) Q E s := wpAny_Name (wpAny_loadName_local hk hl hn hv h) hd
theorem nameF {x : Str} {p : Pos} {c : Addr} {v : Value} {Q : Value → Shared → Prop} (hk : cenv.scope.kind = .function) (hl : cenv.kindOf x = some .cell) (hc : cenv.cells.lookup x = some c) (hv : s.heap.IsCell c (some v)) (h : Q v s) (hd : (x == ("__debug__" : Str)) = false := by decide) :
    wpAny (model prog w) A (eval (.Name x p) cenv) Q E s := wpAny_Name (wpAny_loadName_cell hk hl hc hv h) hd
section
theorem strange_test {p1 p2 p3 p4 p5 p6 p7 : Pos} {mC : Str → Option Value} {b : Bool} (hk : cenv.scope.kind = .function) (hl : cenv.kindOf (Str.ofString "one") = some .local) (hn : s.heap.Ns cenv.locals mC) (hv : mC (Str.ofString "one") = some (.bool b)) :
    wpAny (model prog w) A (isTrue (.BoolOp .And [.Compare (.Name (Str.ofString "one") p1) [.IsNot] [.Constant (.bool true) 0 p2] p3, .Compare (.Name (Str.ofString "one") p4) [.IsNot] [.Constant (.bool false) 0 p5] p6] p7) cenv
      (eval (.BoolOp .And [.Compare (.Name (Str.ofString "one") p1) [.IsNot] [.Constant (.bool true) 0 p2] p3, .Compare (.Name (Str.ofString "one") p4) [.IsNot] [.Constant (.bool false) 0 p5] p6] p7) cenv))
      (fun r s'' => r = false ∧ ∃ tk, s'' = { s with toks := tk }) E s := by
  k_with_none
  k_with "eval Name" => refine nameC hk hl hn hv ?_
  repeat' (first | walk1 | (dsimp only; walk1))
  all_goals (cases b <;> simp_all)
end
theorem said_test {p1 p2 p3 p4 p5 : Pos} {mC : Str → Option Value} {vs : List Bool} {S c : Addr} {j : Int} {t : Tok} (hk : cenv.scope.kind = .function) (hl : cenv.kindOf (Str.ofString "which") = some .local) (hls : cenv.kindOf (Str.ofString "said") = some .cell)
    (hc : cenv.cells.lookup (Str.ofString "said") = some c) (hcell : s.heap.IsCell c (some (.ref S))) (hS : s.heap.IsList S (vs.map Value.bool).toArray) (hn : s.heap.Ns cenv.locals mC) (hv : mC (Str.ofString "which") = some (.int j t)) (h0 : 0 ≤ j) (h1 : j < vs.length) (hz : vs.length ≤ 1000) :
    wpAny (model prog w) A (isTrue (.Compare (.Subscript (.Name (Str.ofString "said") p1) (.Name (Str.ofString "which") p2) p3) [.Is] [.Constant (.bool true) 0 p4] p5) cenv
      (eval (.Compare (.Subscript (.Name (Str.ofString "said") p1) (.Name (Str.ofString "which") p2) p3) [.Is] [.Constant (.bool true) 0 p4] p5) cenv))
      (fun r s'' => r = vs.getD j.toNat false ∧ ∃ tk, s'' = { s with toks := tk }) E s := by
  have hg : (vs.map Value.bool)[j.toNat]? = some (.bool (vs.getD j.toNat false)) := by
    have : j.toNat < vs.length := by omega
    simp [this]
  k_with_none
  k_with "eval Name" => refine nameC hk hl hn hv ?_
  k_with "eval Name" => refine nameF hk hls hc hcell ?_
  k_with "subscriptTail" => with_unfolding_all refine item_listL hS h0 (by omega) hg ?_
  repeat' (first | walk1 | (dsimp only; walk1))
  all_goals (cases vs.getD j.toNat false <;> rfl)
def inS (k z : Str) : Bool := !(Builtin.Str.occurrences z k 0 z.length 1).isEmpty
theorem kind_test {p1 p2 p3 p4 p5 : Pos} {mC : Str → Option Value} {k : Str} {tk₀ : Tok} {S c c2 : Addr} {j : Int} {t : Tok} {vs : List Value} (hk : cenv.scope.kind = .function) (hl : cenv.kindOf (Str.ofString "which") = some .local) (hls : cenv.kindOf (Str.ofString "taken") = some .cell) (hlk : cenv.kindOf (Str.ofString "kind") = some .cell)
    (hc : cenv.cells.lookup (Str.ofString "taken") = some c) (hcell : s.heap.IsCell c (some (.ref S))) (hc2 : cenv.cells.lookup (Str.ofString "kind") = some c2) (hcell2 : s.heap.IsCell c2 (some (.str k tk₀))) (hS : s.heap.IsList S vs.toArray) (hn : s.heap.Ns cenv.locals mC) (hv : mC (Str.ofString "which") = some (.int j t)) (h0 : 0 ≤ j) (h1 : j < vs.length) (hz : vs.length ≤ 1000) {z : Str} {tz : Tok} (hx : vs[j.toNat]? = some (.str z tz)) :
    wpAny (model prog w) A (isTrue (.Compare (.Name (Str.ofString "kind") p1) [.In] [.Subscript (.Name (Str.ofString "taken") p2) (.Name (Str.ofString "which") p3) p4] p5) cenv
      (eval (.Compare (.Name (Str.ofString "kind") p1) [.In] [.Subscript (.Name (Str.ofString "taken") p2) (.Name (Str.ofString "which") p3) p4] p5) cenv))
      (fun r s'' => r = inS k z ∧ ∃ tk, s'' = { s with toks := tk }) E s := by
  k_with_none
  k_with "eval Name" => refine nameC hk hl hn hv ?_
  k_with "eval Name" => refine nameF hk hls hc hcell ?_
  k_with "eval Name" => refine nameF hk hlk hc2 hcell2 ?_
  k_with "subscriptTail" => with_unfolding_all refine item_listL hS h0 (by omega) hx ?_
  repeat' (first | walk1 | (dsimp only; walk1))
  all_goals rfl
end
end Mine
end

section
open PySem PySem.W PyProof.Rows PySem.Spec PySem.Calls
set_option maxRecDepth 100000
set_option maxHeartbeats 8000000
namespace Mine
def jvals (js : List (Int × Tok)) : List Value := js.map fun p => .int p.1 p.2
abbrev jO (js : List (Int × Tok)) (n : Nat) : Obj := listOf (jvals js).toArray n
def saidG (c : Int) : List Bool := [jalnum c, jalpha c, jascii c, jblank c, jcntrl c, jdigit c, jgraph c, jlower c, jprint c, jpunct c, jspace c, jupper c, jxdigit c, jctrl c, jmeta c]
theorem allNe {d D : Nat} {news : List (Addr × Obj)} (h : ∀ p ∈ news, p.1 < D) (hd : D ≤ d) : ∀ p ∈ news, p.1 ≠ d := fun p hp => Nat.ne_of_lt (Nat.lt_of_lt_of_le (h p hp) hd)
def saidP (c : Int) (v : Value) : Bool := match v with
  | .int j _ => (saidG c).getD j.toNat false
  | _ => false
def firstG (js : List (Int × Tok)) (c : Int) : Int := (idxs (fun _ v => saidP c v) 0 (jvals js) ++ [(js.length : Int)]).headD 0
theorem jvals_get {js : List (Int × Tok)} {i : Nat} {v : Value} (h : (jvals js)[i]? = some v) : ∃ q ∈ js, v = .int q.1 q.2 := by
  simp only [jvals, List.getElem?_map, Option.map_eq_some_iff] at h
  obtain ⟨q, hq, rfl⟩ := h
  exact ⟨q, List.mem_of_getElem? hq, rfl⟩
theorem first_item {ys : Array Value} {ns : List Int} {n : Int} {t : Tok} (h : IntsAre ys.toList ns) : ∃ t', (#[] ++ ys ++ #[Value.int n t])[(0 : Int).toNat]? = some (.int ((ns ++ [n]).headD 0) t') := by
  obtain ⟨l⟩ := ys
  cases h with
  | nil => exact ⟨t, rfl⟩
  | cons i t' _ => exact ⟨t', by simp⟩
theorem first_tail {prog : Program} {w : World} {A : Around} {E : Value → Shared → Prop} {s : Shared} {h₀ : Heap} {L l : Addr} {news : List (Addr × Obj)} {value slice : PySem.Expr} {ys : Array Value} {ns : List Int} {n : Int} {t u : Tok} {k : Nat} {Q : Value → Shared → Prop} (hI : IntsAre ys.toList ns)
    (N : News h₀ L s.heap news) (hm : (l, listOf (#[] ++ ys ++ #[Value.int n t]) k) ∈ news) (h : ∀ t', Q (.int ((ns ++ [n]).headD 0) t') s)
    (hs : subscripted slice false (.ref l) (.int 0 u) = operate [.ref l, .int 0 u] (getItem (.ref l) (.int 0 u)) := by with_unfolding_all rfl) :
    wpAny (model prog w) A (subscriptTail value slice (.ref l) (.int 0 u)) Q E s := by
  obtain ⟨t', ht⟩ := first_item (n := n) (t := t) hI
  have hL := PySem.IsL.isList (n := k) (N _ hm).1
  exact tail_any hL.typeIs slot_list_getitem.lookup (wpAny_getItem_list hL (by decide) (by decide) ht (h t')) hs
section
local macro_rules | `(tactic| k_all) => `(tactic| (refine allNe (by assumption) ?_; (try dsimp only); omega))
theorem first_ {w : World} {mean : ExcName → Option Value} {mg mb : Str → Option Value} {v : Value} {c : Int} {J : Addr} {js : List (Int × Tok)} {nj : Nat} {news : List (Addr × Obj)} (hv : IsCode v c) (hJ : (J, jO js nj) ∈ news)
    (hjl : js.length ≤ 4) (hjr : ∀ p ∈ js, 0 ≤ p.1 ∧ p.1 < 15) :
   Tell w mean mg mb 194 [.ref J, v] news 12 48 (fun r news' => (∃ t, r = .int (firstG js c) t) ∧ news' = news) := by
  unfold Tell
  intro dp un gd cn cs ad ccd cl outer A₀ base h₀ L m s Q E B F X N T hk hd hu hret
  refine wpAny_call ?_
  k_dflt (refine' code_defC ?k1 ?k2 ?k3 ?k4 ?k5 ?kA ?kF ?kK ?k6 ?k7 ?k8 ?k9 ?kB ?kD ?_ ?c2 ?c3 ?c4; (case kA => exact rfl); (case kF => exact rfl); (case kK => assumption); (case k1 => k_asm); (case k2 => k_asm); (case k3 => k_asm); (case k4 => k_asm); (case k5 => k_asm); (case k6 => k_is); (case k7 => k_is); (case k8 => first | exact unit0 hd rfl | ktr_room); (case k9 => exact BindsTo.of_eq rfl); (case kB => exact rfl); (case kD => decide +kernel); (case c2 => exact rfl); (case c3 => exact rfl); (case c4 => exact rfl); k_whole; intro g' L' h' tk' cells' FG' F' N' Y' B' X' T' l1; k_cells Y'; (try simp only [List.cons_append, List.nil_append] at N'); (try dsimp only); (try k_fold))
  k_with_none
  k_with "inplaceOp Add ref ref" => (k_here; k_dflt (refine' iadd_list ?F ?N ?b ?e ?ne ?U ?z ?_; (case F => k_asm); (case N => k_asm); (case b => k_mem); (case e => ((try simp only [List.cons_append, List.nil_append]); exact rfl)); (case U => k_upd); (case ne => (simp; done)); (case z => (simp; done)); k_whole); intro h' F' N'; (try k_sweep))
  k_with "eval Call" => k_dflt refine Call_ ?_
  k_with "eval Call" => ((with_reducible show wpAny _ _ (eval (PySem.Expr.Call (PySem.Expr.Name _ _) [PySem.Expr.Name _ _] [] _) _) _ _ _); (with_reducible rename Fr _ _ _ _ => kF); k_dflt (refine' call1 kF ?k1 ?k2 ?k3 ?k4 ?k5 ?_; (case k1 => k_asm); (case k2 => k_asm); (case k3 => k_is); (case k4 => k_is); (case k5 => exact rfl); k_whole))
  k_with "call ref" =>
    (rename News _ _ _ _ => lN)
    k_dflt refine' Tell.use2 (isalnum_ hv) ?k1 ?k2 ?k3 lN ?k5 ?kK ?kd ?ku ?_
    (case k1 => k_asm)
    (case k2 => k_asm)
    (case k3 => k_asm)
    (case k5 => k_asm)
    (case kK => exact rfl)
    (case kd => first | exact room1 hd rfl | ktr_room)
    (case ku => first | exact unit3 hu rfl | exact unit1 hu rfl | exact unit0 hu rfl | exact unit2 hu rfl | ktr_units)
    clear lN
    intro h9 tk9 F9 N9
    (try dsimp only)
  k_with "call ref" =>
    (rename News _ _ _ _ => lN)
    k_dflt refine' Tell.use2 (isalpha_ hv) ?k1 ?k2 ?k3 lN ?k5 ?kK ?kd ?ku ?_
    (case k1 => k_asm)
    (case k2 => k_asm)
    (case k3 => k_asm)
    (case k5 => k_asm)
    (case kK => exact rfl)
    (case kd => first | exact room1 hd rfl | ktr_room)
    (case ku => first | exact unit3 hu rfl | exact unit1 hu rfl | exact unit0 hu rfl | exact unit2 hu rfl | ktr_units)
    clear lN
    intro h9 tk9 F9 N9
    (try dsimp only)
  k_with "call ref" =>
    (rename News _ _ _ _ => lN)
    k_dflt refine' Tell.use2 (isascii_ hv) ?k1 ?k2 ?k3 lN ?k5 ?kK ?kd ?ku ?_
    (case k1 => k_asm)
    (case k2 => k_asm)
    (case k3 => k_asm)
    (case k5 => k_asm)
    (case kK => exact rfl)
    (case kd => first | exact room1 hd rfl | ktr_room)
    (case ku => first | exact unit3 hu rfl | exact unit1 hu rfl | exact unit0 hu rfl | exact unit2 hu rfl | ktr_units)
    clear lN
    intro h9 tk9 F9 N9
    (try dsimp only)
  k_with "call ref" =>
    (rename News _ _ _ _ => lN)
    k_dflt refine' Tell.use2 (isblank_ hv) ?k1 ?k2 ?k3 lN ?k5 ?kK ?kd ?ku ?_
    (case k1 => k_asm)
    (case k2 => k_asm)
    (case k3 => k_asm)
    (case k5 => k_asm)
    (case kK => exact rfl)
    (case kd => first | exact room1 hd rfl | ktr_room)
    (case ku => first | exact unit3 hu rfl | exact unit1 hu rfl | exact unit0 hu rfl | exact unit2 hu rfl | ktr_units)
    clear lN
    intro h9 tk9 F9 N9
    (try dsimp only)
  k_with "call ref" =>
    (rename News _ _ _ _ => lN)
    k_dflt refine' Tell.use2 (iscntrl_ hv) ?k1 ?k2 ?k3 lN ?k5 ?kK ?kd ?ku ?_
    (case k1 => k_asm)
    (case k2 => k_asm)
    (case k3 => k_asm)
    (case k5 => k_asm)
    (case kK => exact rfl)
    (case kd => first | exact room1 hd rfl | ktr_room)
    (case ku => first | exact unit3 hu rfl | exact unit1 hu rfl | exact unit0 hu rfl | exact unit2 hu rfl | ktr_units)
    clear lN
    intro h9 tk9 F9 N9
    (try dsimp only)
  k_with "call ref" =>
    (rename News _ _ _ _ => lN)
    k_dflt refine' Tell.use2 (isdigit_ hv) ?k1 ?k2 ?k3 lN ?k5 ?kK ?kd ?ku ?_
    (case k1 => k_asm)
    (case k2 => k_asm)
    (case k3 => k_asm)
    (case k5 => k_asm)
    (case kK => exact rfl)
    (case kd => first | exact room1 hd rfl | ktr_room)
    (case ku => first | exact unit3 hu rfl | exact unit1 hu rfl | exact unit0 hu rfl | exact unit2 hu rfl | ktr_units)
    clear lN
    intro h9 tk9 F9 N9
    (try dsimp only)
  k_with "call ref" =>
    (rename News _ _ _ _ => lN)
    k_dflt refine' Tell.use2 (isgraph_ hv) ?k1 ?k2 ?k3 lN ?k5 ?kK ?kd ?ku ?_
    (case k1 => k_asm)
    (case k2 => k_asm)
    (case k3 => k_asm)
    (case k5 => k_asm)
    (case kK => exact rfl)
    (case kd => first | exact room1 hd rfl | ktr_room)
    (case ku => first | exact unit3 hu rfl | exact unit1 hu rfl | exact unit0 hu rfl | exact unit2 hu rfl | ktr_units)
    clear lN
    intro h9 tk9 F9 N9
    (try dsimp only)
  k_with "call ref" =>
    (rename News _ _ _ _ => lN)
    k_dflt refine' Tell.use2 (islower_ hv) ?k1 ?k2 ?k3 lN ?k5 ?kK ?kd ?ku ?_
    (case k1 => k_asm)
    (case k2 => k_asm)
    (case k3 => k_asm)
    (case k5 => k_asm)
    (case kK => exact rfl)
    (case kd => first | exact room1 hd rfl | ktr_room)
    (case ku => first | exact unit3 hu rfl | exact unit1 hu rfl | exact unit0 hu rfl | exact unit2 hu rfl | ktr_units)
    clear lN
    intro h9 tk9 F9 N9
    (try dsimp only)
  k_with "call ref" =>
    (rename News _ _ _ _ => lN)
    k_dflt refine' Tell.use2 (isprint_ hv) ?k1 ?k2 ?k3 lN ?k5 ?kK ?kd ?ku ?_
    (case k1 => k_asm)
    (case k2 => k_asm)
    (case k3 => k_asm)
    (case k5 => k_asm)
    (case kK => exact rfl)
    (case kd => first | exact room1 hd rfl | ktr_room)
    (case ku => first | exact unit3 hu rfl | exact unit1 hu rfl | exact unit0 hu rfl | exact unit2 hu rfl | ktr_units)
    clear lN
    intro h9 tk9 F9 N9
    (try dsimp only)
  k_with "call ref" =>
    (rename News _ _ _ _ => lN)
    k_dflt refine' Tell.use2 (ispunct_ hv) ?k1 ?k2 ?k3 lN ?k5 ?kK ?kd ?ku ?_
    (case k1 => k_asm)
    (case k2 => k_asm)
    (case k3 => k_asm)
    (case k5 => k_asm)
    (case kK => exact rfl)
    (case kd => first | exact room1 hd rfl | ktr_room)
    (case ku => first | exact unit3 hu rfl | exact unit1 hu rfl | exact unit0 hu rfl | exact unit2 hu rfl | ktr_units)
    clear lN
    intro h9 tk9 F9 N9
    (try dsimp only)
  k_with "call ref" =>
    (rename News _ _ _ _ => lN)
    k_dflt refine' Tell.use2 (isspace_ hv) ?k1 ?k2 ?k3 lN ?k5 ?kK ?kd ?ku ?_
    (case k1 => k_asm)
    (case k2 => k_asm)
    (case k3 => k_asm)
    (case k5 => k_asm)
    (case kK => exact rfl)
    (case kd => first | exact room1 hd rfl | ktr_room)
    (case ku => first | exact unit3 hu rfl | exact unit1 hu rfl | exact unit0 hu rfl | exact unit2 hu rfl | ktr_units)
    clear lN
    intro h9 tk9 F9 N9
    (try dsimp only)
  k_with "call ref" =>
    (rename News _ _ _ _ => lN)
    k_dflt refine' Tell.use2 (isupper_ hv) ?k1 ?k2 ?k3 lN ?k5 ?kK ?kd ?ku ?_
    (case k1 => k_asm)
    (case k2 => k_asm)
    (case k3 => k_asm)
    (case k5 => k_asm)
    (case kK => exact rfl)
    (case kd => first | exact room1 hd rfl | ktr_room)
    (case ku => first | exact unit3 hu rfl | exact unit1 hu rfl | exact unit0 hu rfl | exact unit2 hu rfl | ktr_units)
    clear lN
    intro h9 tk9 F9 N9
    (try dsimp only)
  k_with "call ref" =>
    (rename News _ _ _ _ => lN)
    k_dflt refine' Tell.use2 (isxdigit_ hv) ?k1 ?k2 ?k3 lN ?k5 ?kK ?kd ?ku ?_
    (case k1 => k_asm)
    (case k2 => k_asm)
    (case k3 => k_asm)
    (case k5 => k_asm)
    (case kK => exact rfl)
    (case kd => first | exact room1 hd rfl | ktr_room)
    (case ku => first | exact unit3 hu rfl | exact unit1 hu rfl | exact unit0 hu rfl | exact unit2 hu rfl | ktr_units)
    clear lN
    intro h9 tk9 F9 N9
    (try dsimp only)
  k_with "call ref" =>
    (rename News _ _ _ _ => lN)
    k_dflt refine' Tell.use2 (isctrl_ hv) ?k1 ?k2 ?k3 lN ?k5 ?kK ?kd ?ku ?_
    (case k1 => k_asm)
    (case k2 => k_asm)
    (case k3 => k_asm)
    (case k5 => k_asm)
    (case kK => exact rfl)
    (case kd => first | exact room1 hd rfl | ktr_room)
    (case ku => first | exact unit3 hu rfl | exact unit1 hu rfl | exact unit0 hu rfl | exact unit2 hu rfl | ktr_units)
    clear lN
    intro h9 tk9 F9 N9
    (try dsimp only)
  k_with "call ref" =>
    (rename News _ _ _ _ => lN)
    k_dflt refine' Tell.use2 (ismeta_ hv) ?k1 ?k2 ?k3 lN ?k5 ?kK ?kd ?ku ?_
    (case k1 => k_asm)
    (case k2 => k_asm)
    (case k3 => k_asm)
    (case k5 => k_asm)
    (case kK => exact rfl)
    (case kd => first | exact room1 hd rfl | ktr_room)
    (case ku => first | exact unit3 hu rfl | exact unit1 hu rfl | exact unit0 hu rfl | exact unit2 hu rfl | ktr_units)
    clear lN
    intro h9 tk9 F9 N9
    (try dsimp only)
  k_with "exec Assign cons ListComp" =>
    with_unfolding_all refine comp_assign (cl := []) ?hsw ?hclos ?hcell ?hkind ?hnames ?hy ?hp ?_
    (case hsw => with_unfolding_all rfl)
    (case hclos => with_unfolding_all rfl)
    (case hcell => decide +kernel)
    (case hkind => rfl)
    (case hnames => decide +kernel)
    (case hy => rfl)
    (case hp => rfl)
  k_with "pyIter ref" =>
    (rename Fr _ _ _ _ => lF)
    (rename News _ _ _ _ => lN)
    refine iter_list lF lN (by k_mem) ?_
    clear lF lN
    intro it' h' F' N' l'
  k_with "pyIter ref" =>
    refine iter_enum N' (by k_mem) ?_
  k_with "call type:enumerate" =>
    (rename Fr _ _ _ _ => lF)
    (rename News _ _ _ _ => lN)
    refine enum_make (n := nj) lF lN (by (repeat (first | exact hJ | refine List.Mem.tail _ ?_))) ?_
    clear lF lN
    intro e' it' oi' h' F' N' hI' hE' hA'
  k_with "Exists" =>
    refine ⟨_, _, _, _, F', N', loop_none (items := (saidG c).map Value.bool) (nl := 0 + 1 + 1) ⟨rfl, rfl⟩ ?mem (fun q hq => Nat.ne_of_lt (l' q hq)) rfl rfl rfl ?test, ?_⟩
    (case mem => k_mem)
    (case test =>
      intro C v s' mC E' hv hn hm
      obtain ⟨b, _, rfl⟩ := List.mem_map.mp hv
      exact strange_test rfl rfl hn hm)
    (rintro D9 h9 tk9 ys9 k9 led9 hlt9 F9 N9 ⟨rfl, rfl⟩)
    clear F' N' l'
  k_with "eval ListComp" =>
    with_unfolding_all refine comp_eval (cl := [(Str.ofString "said", L' + 1)]) ?hclos ?hcell ?hkind ?hnames ?_
    (case hclos => with_unfolding_all rfl)
    (case hcell => decide +kernel)
    (case hkind => rfl)
    (case hnames => decide +kernel)
  k_with "Exists" =>
    (rename Obj.data _ = Data.cell (some (Value.ref _)) => lC)
    refine ⟨_, _, _, _, _, F', N', loop_enum (items := jvals js) (nl := nj) (fun _ v => saidP c v) hI' hE' ?mem hA' rfl rfl rfl rfl (by decide) ?sz (by decide) ?test, ?_⟩
    (case mem => (repeat (first | exact hJ | refine List.Mem.tail _ ?_)))
    (case sz => (simp only [jvals, List.length_map]; omega))
    (case test =>
      intro C i v t s' mC E' hv hn hm hmi hN
      obtain ⟨q, hq, rfl⟩ := jvals_get hv
      have hr := hjr q hq
      exact said_test (vs := saidG c) rfl rfl rfl rfl ⟨_, (hN (L' + 1, _) (by k_mem)).1, lC⟩ (PySem.IsL.isList (n := 0 + 1 + 1) (hN (_, listOf ((saidG c).map Value.bool).toArray (0 + 1 + 1)) (by k_mem)).1) hn hm hr.1 hr.2 (by show 15 ≤ 1000; decide))
    (rintro D8 h8 tk8 ys8 k8 led8 hlt8 F8 N8 ⟨rfl, hI8⟩)
    have hy8 : ys8.size ≤ 4 := by (have a1 := hI8.length; have a2 := idxs_length (fun _ v => saidP c v) (jvals js) 0; simp only [jvals, List.length_map, Array.length_toList] at a1 a2; omega)
    clear F' N'
  k_with "call builtin:len" =>
    (rename News _ _ _ _ => lN)
    refine len_K (n := nj) lN (by (repeat (first | exact hJ | refine List.Mem.tail _ ?_))) (by simp only [jvals, List.size_toArray, List.length_map]; omega) ?_
  k_with "binaryOp Add ref ref" =>
    (rename Fr _ _ _ _ => lF)
    (rename News _ _ _ _ => lN)
    refine add_K lF lN (by k_mem) (by k_mem) (by simp only [Array.size_append, List.size_toArray, List.length_cons, List.length_nil]; omega) ?_
    clear lF lN
    intro D7 h7 F7 N7 l7
  k_with "subscriptTail" =>
    (rename News _ _ _ _ => lN)
    with_unfolding_all refine first_tail hI8 lN (.head _) ?_
    intro t7
  k_steps
  · (rename News h₀ _ _ _ => lN)
    refine hret _ _ _ _ (by k_asm) (fun p hp => lN p (by repeat (first | exact hp | refine List.Mem.tail _ ?_))) ⟨⟨t7, ?_⟩, rfl⟩
    simp only [jvals, List.size_toArray, List.length_map]
    rfl
end
end Mine
end

section
open PySem PySem.W PyProof.Rows PySem.Spec PySem.Calls
set_option maxRecDepth 100000
namespace Mine
section
variable {prog : Program} {w : World} {A : Around} {E : Value → Shared → Prop} {s : Shared} {x y : Str} {t u : Tok} {Q : Value → Shared → Prop}
theorem fold_rep (a : Nat) : ∀ (n : Nat) (acc : Array Nat), ((List.replicate n #[a]).foldl (· ++ ·) acc).toList = acc.toList ++ List.replicate n a
  | 0, acc => by simp
  | n + 1, acc => by
    rw [List.replicate_succ, List.foldl_cons, fold_rep a n]
    simp [List.replicate_succ]
theorem smul {a n : Nat} (hx : x.cps.toList = [a]) (hn : 1 ≤ n) (hz : n ≤ 1000) (h : ∀ z t' k, z.cps.toList = List.replicate n a → Q (.str z t') { s with toks := k }) :
    wpAny (model prog w) A (binaryOp .Mult (.str x t) (.int (n : Int) u)) Q E s := by
  have hc : x.cps = #[a] := Array.toList_inj.mp hx
  have hl : x.length = 1 := by unfold Str.length; rw [hc]; rfl
  refine SB.mul (mulOk_of 16 1048576 (by omega) (by omega) (by omega) (by decide) (by decide)) fun t' k => h _ _ _ ?_
  unfold Txt.mul
  rw [if_neg (by omega)]
  split
  · rename_i hh
    rw [hl] at hh
    simp only [Bool.or_eq_true, beq_iff_eq] at hh
    have : n = 1 := by omega
    subst this
    exact hx
  · show ((List.replicate (n : Int).toNat x.cps).foldl (· ++ ·) #[]).toList = _
    rw [hc, Int.toNat_natCast, fold_rep]
    rfl
theorem smulI {a : Nat} {n : Int} (hx : x.cps.toList = [a]) (hn : 1 ≤ n) (hz : n ≤ 1000) (h : ∀ z t' k, z.cps.toList = List.replicate n.toNat a → Q (.str z t') { s with toks := k }) :
    wpAny (model prog w) A (binaryOp .Mult (.str x t) (.int n u)) Q E s := by
  obtain ⟨k, rfl⟩ := Int.eq_ofNat_of_zero_le (show 0 ≤ n by omega)
  exact smul hx (by omega) (by omega) h
theorem app_list {a b : List Nat} (hx : x.cps.toList = a) (hy : y.cps.toList = b) : (x ++ y).cps.toList = a ++ b := by
  rw [← hx, ← hy, Str.cps_append]; simp
theorem len_list' {a : List Nat} (hx : x.cps.toList = a) : x.length = a.length := by
  rw [← hx]; simp [Str.length]
theorem sadd {a b : List Nat} (hx : x.cps.toList = a) (hy : y.cps.toList = b) (hz : a.length + b.length ≤ 1000) (h : ∀ z t' k, z.cps.toList = a ++ b → Q (.str z t') { s with toks := k }) :
    wpAny (model prog w) A (binaryOp .Add (.str x t) (.str y u)) Q E s :=
  SB.add (fun t' k => h _ t' k (app_list hx hy)) (by rw [len_list' hx, len_list' hy, sizeLine_eq]; omega)
theorem siadd {a b : List Nat} (hx : x.cps.toList = a) (hy : y.cps.toList = b) (hz : a.length + b.length ≤ 1000) (h : ∀ z t' k, z.cps.toList = a ++ b → Q (.str z t') { s with toks := k }) :
    wpAny (model prog w) A (inplaceOp .Add (.str x t) (.str y u)) Q E s :=
  SB.iadd (fun t' k => h _ t' k (app_list hx hy)) (by rw [len_list' hx, len_list' hy, sizeLine_eq]; omega)
theorem sitem {value slice : PySem.Expr} {a : List Nat} {i : Int} (hx : x.cps.toList = a) (h0 : 0 ≤ i) (h1 : i < a.length) (hz : a.length ≤ 1000)
    (h : Q (.str ⟨#[a.getD i.toNat 0]⟩ s.toks) { s with toks := s.toks + 1 })
    (hs : subscripted slice false (.str x t) (.int i u) = operate [.str x t, .int i u] (getItem (.str x t) (.int i u)) := by with_unfolding_all rfl)
    (ht : ∀ r, letTemporaryGo value (.str x t) r = pure () := by intro _; with_unfolding_all rfl) :
    wpAny (model prog w) A (subscriptTail value slice (.str x t) (.int i u)) Q E s := by
  have hl := len_list' hx
  refine item_str (by unfold fitsSsize; simp only [Bool.not_eq_true', Bool.or_eq_false_iff, decide_eq_false_iff_not, Bool.and_eq_true, decide_eq_true_eq]; omega) (by omega) (by omega) (fun _ => ?_) hs ht
  have e : Txt.item x i = ⟨#[a.getD i.toNat 0]⟩ := by
    unfold Txt.item
    have hk : seqIndex? i x.length = some i.toNat := by
      unfold seqIndex?
      simp only [show ¬ i < 0 by omega, if_false]
      rw [if_pos (by simp only [Bool.and_eq_true, decide_eq_true_eq]; omega)]
    have hg : Txt.charAt x i = a[i.toNat]? := by
      unfold Txt.charAt
      rw [hk, ← hx]
      simp
    rw [hg, List.getD_eq_getElem?_getD]
  rw [e]; exact h
end
theorem lit_c : (Str.ofString "c").cps.toList = [99] := by decide
theorem lit_t : (Str.ofString "t").cps.toList = [116] := by decide
theorem lit_s : (Str.ofString "s").cps.toList = [115] := by decide
theorem lit_b : (Str.ofString "b").cps.toList = [98] := by decide
theorem lit_p : (Str.ofString "p").cps.toList = [112] := by decide
theorem lit_d : (Str.ofString "d").cps.toList = [100] := by decide
theorem lit_U : (Str.ofString "U").cps.toList = [85] := by decide
theorem lit_u : (Str.ofString "u").cps.toList = [117] := by decide
theorem lit_L : (Str.ofString "L").cps.toList = [76] := by decide
theorem lit_l : (Str.ofString "l").cps.toList = [108] := by decide
theorem lit_x : (Str.ofString "x").cps.toList = [120] := by decide
theorem lit_n : (Str.ofString "n").cps.toList = [110] := by decide
theorem lit_m : (Str.ofString "m").cps.toList = [109] := by decide
end Mine
end

section
open PySem PySem.W PyProof.Rows PySem.Spec PySem.Calls
set_option maxRecDepth 100000
set_option maxHeartbeats 8000000
namespace Mine
def kindsL : List Nat := [99, 99, 99, 99, 99, 99, 99, 99, 99, 116, 115, 115, 115, 115, 99, 99, 99, 99, 99, 99, 99, 99, 99, 99, 99, 99, 99, 99, 99, 99, 99, 99, 98, 112, 112, 112, 112, 112, 112, 112, 112, 112, 112, 112, 112, 112, 112, 112, 100, 100, 100, 100, 100, 100, 100, 100, 100, 100, 112, 112, 112, 112, 112, 112, 112, 85, 85, 85, 85, 85, 85, 117, 117, 117, 117, 117, 117, 117, 117, 117, 117, 117, 117, 117, 117, 117, 117, 117, 117, 117, 117, 112, 112, 112, 112, 112, 112, 76, 76, 76, 76, 76, 76, 108, 108, 108, 108, 108, 108, 108, 108, 108, 108, 108, 108, 108, 108, 108, 108, 108, 108, 108, 108, 112, 112, 112, 112, 120]
def takenG : List Str := [Str.ofString "dUuLl", Str.ofString "UuLl", Str.ofString "ctsbpdUuLlx", Str.ofString "tb", Str.ofString "ctsx", Str.ofString "d", Str.ofString "pdUuLl", Str.ofString "Ll", Str.ofString "bpdUuLl", Str.ofString "p", Str.ofString "tsb", Str.ofString "Uu", Str.ofString "dUL", Str.ofString "cts", Str.ofString "m"]
def kindG (c : Int) : Str := if c < 0 then Str.ofString "n" else if 127 < c then Str.ofString "m" else ⟨#[kindsL.getD c.toNat 0]⟩
def turnP (c : Int) (v : Value) : Bool := match v with
  | .int j _ => inS (kindG c) (takenG.getD j.toNat (Str.ofString ""))
  | _ => false
def turnG (js : List (Int × Tok)) (c : Int) : Int := (idxs (fun _ v => turnP c v) 0 (jvals js) ++ [(js.length : Int)]).headD 0
theorem kind_eq (c : Int) : (c < 0 → kindG c = Str.ofString "n") ∧ (127 < c → kindG c = Str.ofString "m") ∧ (¬ c < 0 → ¬ 127 < c → kindG c = ⟨#[kindsL.getD c.toNat 0]⟩) :=
  ⟨fun h => if_pos h, fun h => (if_neg (by omega)).trans (if_pos h), fun h h' => (if_neg h).trans (if_neg h')⟩
theorem turn_tail {prog : Program} {w : World} {A : Around} {E : Value → Shared → Prop} {s : Shared} {h₀ : Heap} {L l : Addr} {news : List (Addr × Obj)} {value slice : PySem.Expr} {ys : Array Value} {ns : List Int} {n : Int} {t u : Tok} {k : Nat} {Q : Value → Shared → Prop} (hI : IntsAre ys.toList ns)
    (N : News h₀ L s.heap news) (hm : (l, listOf (ys ++ #[Value.int n t]) k) ∈ news) (h : ∀ t', Q (.int ((ns ++ [n]).headD 0) t') s)
    (hs : subscripted slice false (.ref l) (.int 0 u) = operate [.ref l, .int 0 u] (getItem (.ref l) (.int 0 u)) := by with_unfolding_all rfl) :
    wpAny (model prog w) A (subscriptTail value slice (.ref l) (.int 0 u)) Q E s := by
  obtain ⟨t', ht⟩ := first_item (n := n) (t := t) hI
  rw [Array.empty_append] at ht
  have hL := PySem.IsL.isList (n := k) (N _ hm).1
  exact tail_any hL.typeIs slot_list_getitem.lookup (wpAny_getItem_list hL (by decide) (by decide) ht (h t')) hs
theorem strs_get {vs : List Value} {xs : List Str} (h : StrsAre vs xs) : ∀ j, j < xs.length → ∃ t, vs[j]? = some (.str (xs.getD j (Str.ofString "")) t) := by
  induction h with
  | nil => intro j hj; exact absurd hj (Nat.not_lt_zero _)
  | cons x t _ ih =>
    intro j hj
    cases j with
    | zero => exact ⟨t, rfl⟩
    | succ j => simpa using ih j (by simpa using hj)
theorem kind_test2 {prog : Program} {w : World} {A : Around} {E : Value → Shared → Prop} {s : Shared} {cenv : Env} {p1 p2 p3 p4 p5 : Pos} {mC : Str → Option Value} {k : Str} {tk₀ : Tok} {S c c2 : Addr} {j : Int} {t : Tok} {vs : List Value} {xs : List Str} (hk : cenv.scope.kind = .function) (hl : cenv.kindOf (Str.ofString "which") = some .local) (hls : cenv.kindOf (Str.ofString "taken") = some .cell) (hlk : cenv.kindOf (Str.ofString "kind") = some .cell)
    (hc : cenv.cells.lookup (Str.ofString "taken") = some c) (hcell : s.heap.IsCell c (some (.ref S))) (hc2 : cenv.cells.lookup (Str.ofString "kind") = some c2) (hcell2 : s.heap.IsCell c2 (some (.str k tk₀))) (hS : s.heap.IsList S vs.toArray) (hst : StrsAre vs xs) (hn : s.heap.Ns cenv.locals mC) (hv : mC (Str.ofString "which") = some (.int j t)) (h0 : 0 ≤ j) (h1 : j < xs.length) (hz : xs.length ≤ 1000) :
    wpAny (model prog w) A (isTrue (.Compare (.Name (Str.ofString "kind") p1) [.In] [.Subscript (.Name (Str.ofString "taken") p2) (.Name (Str.ofString "which") p3) p4] p5) cenv
      (eval (.Compare (.Name (Str.ofString "kind") p1) [.In] [.Subscript (.Name (Str.ofString "taken") p2) (.Name (Str.ofString "which") p3) p4] p5) cenv))
      (fun r s'' => r = inS k (xs.getD j.toNat (Str.ofString "")) ∧ ∃ tk, s'' = { s with toks := tk }) E s := by
  obtain ⟨tz, hx⟩ := strs_get hst j.toNat (by omega)
  have hlen : vs.length = xs.length := hst.len_eq
  exact kind_test hk hl hls hlk hc hcell hc2 hcell2 hS hn hv h0 (by omega) (by omega) hx
section
local macro_rules | `(tactic| k_all) => `(tactic| (refine allNe (by assumption) ?_; (try dsimp only); omega))
theorem kind_if {prog : Program} {w : World} {A : Around} {E : Value → Shared → Prop} {s : Shared} {cenv : Env} {p1 p2 p3 p4 p5 p6 p7 p8 p9 pa pb pc pd : Pos} {k2 k4 k6 k8 : Nat} {mC : Str → Option Value} {c : Int} {z : Str} {tc tz : Tok} {Q : Value → Shared → Prop}
    (hk : cenv.scope.kind = .function) (hl : cenv.kindOf (Str.ofString "code") = some .local) (hl2 : cenv.kindOf (Str.ofString "kinds") = some .local) (hn : s.heap.Ns cenv.locals mC) (hv : mC (Str.ofString "code") = some (.int c tc)) (hv2 : mC (Str.ofString "kinds") = some (.str z tz)) (hz : z.cps.toList = kindsL)
    (h : ∀ t tk, Q (.str (kindG c) t) { s with toks := tk }) :
    wpAny (model prog w) A (eval (.IfExp (.Compare (.Name (Str.ofString "code") p1) [.Lt] [.Constant (.int 0) k2 p2] p3) (.Constant (.str (Str.ofString "n")) k4 p4) (.IfExp (.Compare (.Name (Str.ofString "code") p5) [.Gt] [.Constant (.int 127) k6 p6] p7) (.Constant (.str (Str.ofString "m")) k8 p8) (.Subscript (.Name (Str.ofString "kinds") p9) (.Name (Str.ofString "code") pa) pb) pc) pd) cenv) Q E s := by
  have hkG := kind_eq c
  k_with_none
  k_with "eval Name" => refine nameC hk hl hn hv ?_
  k_with "eval Name" => refine nameC hk hl2 hn hv2 ?_
  k_with "subscriptTail Name Name str int" => with_unfolding_all refine sitem (a := kindsL) hz (by omega) (by show c < 128; omega) (by decide) ?_
  repeat' (first | walk1 | (dsimp only; walk1))
  all_goals
    first
    | (rw [hkG.1 (by assumption)] at h; exact h _ _)
    | (rw [hkG.2.1 (by assumption)] at h; exact h _ _)
    | (rw [hkG.2.2 (by assumption) (by assumption)] at h; exact h _ _)
theorem turn_ {w : World} {mean : ExcName → Option Value} {mg mb : Str → Option Value} {c : Int} {tc : Tok} {J : Addr} {js : List (Int × Tok)} {nj : Nat} {news : List (Addr × Obj)} (hJ : (J, jO js nj) ∈ news)
    (hjl : js.length ≤ 4) (hjr : ∀ p ∈ js, 0 ≤ p.1 ∧ p.1 < 15) (hc0 : -8 ≤ c) (hc1 : c ≤ 263) :
   Tell w mean mg mb 199 [.ref J, .int c tc] news 12 48 (fun r news' => (∃ t, r = .int (turnG js c) t) ∧ news' = news) := by
  unfold Tell
  intro dp un gd cn cs ad ccd cl outer A₀ base h₀ L m s Q E B F X N T hk hd hu hret
  refine wpAny_call ?_
  k_dflt (refine' code_defC ?k1 ?k2 ?k3 ?k4 ?k5 ?kA ?kF ?kK ?k6 ?k7 ?k8 ?k9 ?kB ?kD ?_ ?c2 ?c3 ?c4; (case kA => exact rfl); (case kF => exact rfl); (case kK => assumption); (case k1 => k_asm); (case k2 => k_asm); (case k3 => k_asm); (case k4 => k_asm); (case k5 => k_asm); (case k6 => k_is); (case k7 => k_is); (case k8 => first | exact unit0 hd rfl | ktr_room); (case k9 => exact BindsTo.of_eq rfl); (case kB => exact rfl); (case kD => decide +kernel); (case c2 => exact rfl); (case c3 => exact rfl); (case c4 => exact rfl); k_whole; intro g' L' h' tk' cells' FG' F' N' Y' B' X' T' l1; k_cells Y'; (try simp only [List.cons_append, List.nil_append] at N'); (try dsimp only); (try k_fold))
  k_with_none
  k_with "binaryOp Mult str int" => (k_dflt (refine' smulI ?a ?b ?c ?_; (case a => (first | assumption | exact lit_c | exact lit_t | exact lit_s | exact lit_b | exact lit_p | exact lit_d | exact lit_U | exact lit_u | exact lit_L | exact lit_l | exact lit_x | exact lit_n | exact lit_m)); (case b => decide); (case c => decide)); intro z9 t9 k9 hz9)
  k_with "binaryOp Add str str" => (k_dflt (refine' sadd ?a ?b ?c ?_; (case a => (first | assumption | exact lit_c | exact lit_t | exact lit_s | exact lit_b | exact lit_p | exact lit_d | exact lit_U | exact lit_u | exact lit_L | exact lit_l | exact lit_x | exact lit_n | exact lit_m)); (case b => (first | assumption | exact lit_c | exact lit_t | exact lit_s | exact lit_b | exact lit_p | exact lit_d | exact lit_U | exact lit_u | exact lit_L | exact lit_l | exact lit_x | exact lit_n | exact lit_m)); (case c => (simp only [List.length_append, List.length_replicate, List.length_cons, List.length_nil]; decide))); intro z9 t9 k9 hz9)
  k_with "inplaceOp Add str str" => (k_dflt (refine' siadd ?a ?b ?c ?_; (case a => (first | assumption | exact lit_c | exact lit_t | exact lit_s | exact lit_b | exact lit_p | exact lit_d | exact lit_U | exact lit_u | exact lit_L | exact lit_l | exact lit_x | exact lit_n | exact lit_m)); (case b => (first | assumption | exact lit_c | exact lit_t | exact lit_s | exact lit_b | exact lit_p | exact lit_d | exact lit_U | exact lit_u | exact lit_L | exact lit_l | exact lit_x | exact lit_n | exact lit_m)); (case c => (simp only [List.length_append, List.length_replicate, List.length_cons, List.length_nil]; decide))); intro z9 t9 k9 hz9)
  k_with "eval IfExp" =>
    (rename Fr _ _ _ _ => lF)
    with_unfolding_all refine kind_if rfl rfl rfl lF.ns rfl rfl (Eq.trans (by with_reducible assumption) (by decide)) ?_
    intro t4 k4
    (try dsimp only)
  k_with "eval ListComp" =>
    with_unfolding_all refine comp_eval (cl := [(Str.ofString "taken", L' + 1 + 1), (Str.ofString "kind", L' + 1)]) ?hclos ?hcell ?hkind ?hnames ?_
    (case hclos => with_unfolding_all rfl)
    (case hcell => decide +kernel)
    (case hkind => rfl)
    (case hnames => decide +kernel)
  k_with "pyIter ref" =>
    refine iter_enum N' (by k_mem) ?_
  k_with "call type:enumerate" =>
    (rename Fr _ _ _ _ => lF)
    (rename News _ _ _ _ => lN)
    refine enum_make (n := nj) lF lN (by (repeat (first | exact hJ | refine List.Mem.tail _ ?_))) ?_
    clear lF lN
    intro e' it' oi' h' F' N' hI' hE' hA'
  k_with "Exists" =>
    (rename Obj.data _ = Data.cell (some (Value.ref _)) => lC)
    (rename Obj.data _ = Data.cell (some (Value.str _ _)) => lK)
    refine ⟨_, _, _, _, _, F', N', loop_enum (items := jvals js) (nl := nj) (fun _ v => turnP c v) hI' hE' ?mem hA' rfl rfl rfl rfl (by decide) ?sz (by decide) ?test, ?_⟩
    (case mem => (repeat (first | exact hJ | refine List.Mem.tail _ ?_)))
    (case sz => (simp only [jvals, List.length_map]; omega))
    (case test =>
      intro C i v t s' mC E' hv hn hm hmi hN
      obtain ⟨q, hq, rfl⟩ := jvals_get hv
      have hr := hjr q hq
      exact (kind_test2 (xs := takenG) rfl rfl rfl rfl rfl ⟨_, (hN (L' + 1 + 1, _) (by k_mem)).1, lC⟩ rfl ⟨_, (hN (L' + 1, _) (by k_mem)).1, lK⟩ (PySem.IsL.isList (n := 0) (hN _ (.head _)).1) (by repeat (first | exact StrsAre.nil | refine StrsAre.cons _ _ ?_)) hn hm hr.1 (by show q.1 < 15; exact hr.2) (by decide)))
    (rintro D8 h8 tk8 ys8 k8 led8 hlt8 F8 N8 ⟨rfl, hI8⟩)
    have hy8 : ys8.size ≤ 4 := by (have a1 := hI8.length; have a2 := idxs_length (fun _ v => turnP c v) (jvals js) 0; simp only [jvals, List.length_map, Array.length_toList] at a1 a2; omega)
    clear F' N'
  k_with "call builtin:len" =>
    (rename News _ _ _ _ => lN)
    refine len_K (n := nj) lN (by (repeat (first | exact hJ | refine List.Mem.tail _ ?_))) (by simp only [jvals, List.size_toArray, List.length_map]; omega) ?_
  k_with "binaryOp Add ref ref" =>
    (rename Fr _ _ _ _ => lF)
    (rename News _ _ _ _ => lN)
    refine add_K lF lN (by k_mem) (by k_mem) (by simp only [List.size_toArray, List.length_cons, List.length_nil]; omega) ?_
    clear lF lN
    intro D7 h7 F7 N7 l7
  k_with "subscriptTail" =>
    (rename News _ _ _ _ => lN)
    with_unfolding_all refine turn_tail hI8 lN (.head _) ?_
    intro t7
  k_steps
  all_goals
    (rename News h₀ _ _ _ => lN)
    refine hret _ _ _ _ (by k_asm) (fun p hp => lN p (by repeat (first | exact hp | refine List.Mem.tail _ ?_))) ⟨⟨t7, ?_⟩, rfl⟩
    simp only [jvals, List.size_toArray, List.length_map]
    rfl
end
end Mine
end

section
open PySem PySem.W PyProof.Rows PySem.Spec PySem.Calls
set_option maxRecDepth 100000
namespace Mine
section
variable {prog : Program} {w : World} {A : Around} {E : Value → Shared → Prop} {s : Shared} {env : Env}
def ListEnd (L it l : Addr) (K : Nat → Heap → (Str → Option Value) → List (Addr × Obj) → Prop) (s : Shared) (Q : Flow → Shared → Prop) (i : Nat) (f : Flow) (s₃ : Shared) : Prop := match f with
  | .next | .cont => ∃ g' m' led' h' tk' oi', s₃ = { s with heap := h', toks := tk' } ∧ Fr g' L h' m' ∧ News g' L h' ((it, oi') :: led') ∧ IsLI oi' l (i + 1) ∧ K (i + 1) g' m' led'
  | .brk => Q .next s₃
  | .ret v => Q (.ret v) s₃
def ListInv (L it l : Addr) (K : Nat → Heap → (Str → Option Value) → List (Addr × Obj) → Prop) (s : Shared) (sz : Nat) (n : Nat) (s' : Shared) : Prop :=
  ∃ g m led h tk i oi, n = sz + 1 - i ∧ i ≤ sz ∧ s' = { s with heap := h, toks := tk } ∧ Fr g L h m ∧ News g L h ((it, oi) :: led) ∧ IsLI oi l i ∧ K i g m led
theorem for_list {x : Str} {px : Pos} {body : List Stmt} {Q : Flow → Shared → Prop} {L it l : Addr} {items : Array Value} {g₀ : Heap} {m₀ : Str → Option Value} {led₀ : List (Addr × Obj)} {oi : Obj}
    (K : Nat → Heap → (Str → Option Value) → List (Addr × Obj) → Prop)
    (F0 : Fr g₀ L s.heap m₀) (N0 : News g₀ L s.heap ((it, oi) :: led₀)) (hoi : IsLI oi l 0) (h0 : K 0 g₀ m₀ led₀)
    (hl : ∀ i g m led, K i g m led → ∃ n, (l, listOf items n) ∈ led) (hadr : ∀ i g m led, K i g m led → ∀ p ∈ led, p.1 ≠ it)
    (turn : ∀ i v g m led h tk oi', items[i]? = some v → K i g m led → Fr g L h (fun y => if y = x then some v else m y) → News g L h ((it, oi') :: led) → IsLI oi' l (i + 1) →
      wpAny (model prog w) A (execs body env) (ListEnd L it l K s Q i) E { s with heap := h, toks := tk })
    (done : ∀ g m led h tk, K items.size g m led → Fr g L h m → News g L h led → Q .next { s with heap := h, toks := tk })
    (hA : A.handled = none) (hL : env.locals = L) (hx : env.kindOf x = some .local) (hp : (env.scope.kind == .class || (env.scope.kind == .module && env.locals != env.globals)) = false) :
    ForAt prog w A env (.Name x px) body Q E (.ref it) s := by
  refine ⟨ListInv L it l K s items.size, items.size + 1, ⟨g₀, m₀, led₀, s.heap, s.toks, 0, oi, rfl, Nat.zero_le _, rfl, F0, N0, hoi, h0⟩, ?_⟩
  rintro n s' ⟨g, m, led, h, tk, i, oi, rfl, hi, rfl, F₁, N₁, hoi₁, hK⟩
  have hit := N₁ _ (.head _)
  obtain ⟨nl, hlm⟩ := hl _ _ _ _ hK
  have hlist : h.IsList l items := PySem.IsL.isList (n := nl) (N₁ _ (.tail _ hlm)).1
  have hLI : h.IsListIter it l i := ⟨oi, hit.1, hoi₁.1, hoi₁.2⟩
  cases hv : items[i]? with
  | none =>
    have hsz : i = items.size := Nat.le_antisymm hi (by simpa using hv)
    refine wpAny_pyNext_list_end hA hLI hlist hv fun h' he' => ?_
    subst hsz
    exact done g m led h' tk hK (fr_ext F₁ he' hit.2.1 hit.2.2) (news_ext (fun p hp => N₁ p (.tail _ hp)) he' (hadr _ _ _ _ hK))
  | some v =>
    have hlt : i < items.size := (Array.getElem?_eq_some_iff.mp hv).1
    refine wpAny_pyNext_list_item hLI hlist hv fun h₂ hit₂ hs₂ => ?_
    have hs₂' : Heap.SameBut it h h₂ := hs₂
    obtain ⟨oi', hoi₂, hc', hd'⟩ := hit₂
    have F₂ := F₁.change hs₂' hit.2.1 hit.2.2
    have N₂ : News g L h₂ ((it, oi') :: led) := fun q hq => by
      rcases List.mem_cons.mp hq with rfl | hq
      · exact ⟨hoi₂, hit.2⟩
      · have z := N₁ q (.tail _ hq)
        exact ⟨(hs₂'.2 _ (hadr _ _ _ _ hK q hq)).trans z.1, z.2⟩
    refine wpAny_of_eq (a := ()) rfl ?_
    refine wpAny_assign_Name (wpAny_storeName_local hx (hL ▸ F₂.ns) (fun h₃ hn₃ hs₃ => ?_) hp)
    rw [hL] at hn₃ hs₃
    refine wpAny_mono (turn i v g m led h₃ _ oi' hv hK (F₂.set hn₃ hs₃) (N₂.set hs₃) ⟨hc', hd'⟩) (fun f s₃ h₃ => ?_) fun _ _ x => x
    cases f with
    | brk => exact h₃
    | ret v => exact h₃
    | next =>
      obtain ⟨g', m', led', h'', tk'', oi'', rfl, F₃, N₃, hoi₃, hK₃⟩ := h₃
      exact ⟨items.size + 1 - (i + 1), by omega, g', m', led', h'', tk'', i + 1, oi'', rfl, hlt, rfl, F₃, N₃, hoi₃, hK₃⟩
    | cont =>
      obtain ⟨g', m', led', h'', tk'', oi'', rfl, F₃, N₃, hoi₃, hK₃⟩ := h₃
      exact ⟨items.size + 1 - (i + 1), by omega, g', m', led', h'', tk'', i + 1, oi'', rfl, hlt, rfl, F₃, N₃, hoi₃, hK₃⟩

/-- a loop over a list that changes nothing but its own name, and may leave early -/
def KeepEnd (g₀ : Heap) (L it l : Addr) (x : Str) (m₀ : Str → Option Value) (led₀ : List (Addr × Obj)) (P : Nat → Prop) (s : Shared) (Q : Flow → Shared → Prop) (i : Nat) (f : Flow) (s₃ : Shared) : Prop := match f with
  | .next | .cont => ∃ h' tk' oi' u', s₃ = { s with heap := h', toks := tk' } ∧ Fr g₀ L h' (fun y => if y = x then u' else m₀ y) ∧ News g₀ L h' ((it, oi') :: led₀) ∧ IsLI oi' l (i + 1) ∧ P (i + 1)
  | .brk => Q .next s₃
  | .ret v => Q (.ret v) s₃
theorem for_keep {x : Str} {px : Pos} {body : List Stmt} {Q : Flow → Shared → Prop} {L it l : Addr} {items : Array Value} {n : Nat} {g₀ : Heap} {m₀ : Str → Option Value} {led₀ : List (Addr × Obj)} {oi : Obj} (P : Nat → Prop)
    (F0 : Fr g₀ L s.heap m₀) (N0 : News g₀ L s.heap ((it, oi) :: led₀)) (hoi : IsLI oi l 0) (hl : (l, listOf items n) ∈ led₀) (hadr : ∀ p ∈ led₀, p.1 ≠ it) (h0 : P 0)
    (turn : ∀ i v u h tk oi', items[i]? = some v → P i → Fr g₀ L h (fun y => if y = x then some v else if y = x then u else m₀ y) → News g₀ L h ((it, oi') :: led₀) → IsLI oi' l (i + 1) →
      wpAny (model prog w) A (execs body env) (KeepEnd g₀ L it l x m₀ led₀ P s Q i) E { s with heap := h, toks := tk })
    (done : ∀ u h tk, P items.size → Fr g₀ L h (fun y => if y = x then u else m₀ y) → News g₀ L h led₀ → Q .next { s with heap := h, toks := tk })
    (hA : A.handled = none) (hL : env.locals = L) (hx : env.kindOf x = some .local) (hp : (env.scope.kind == .class || (env.scope.kind == .module && env.locals != env.globals)) = false) :
    ForAt prog w A env (.Name x px) body Q E (.ref it) s := by
  have e0 : ∀ z, m₀ z = (if z = x then m₀ x else m₀ z) := fun z => by split <;> simp_all
  refine for_list (l := l) (items := items) (fun i g m led => g = g₀ ∧ (∃ u, m = fun y => if y = x then u else m₀ y) ∧ led = led₀ ∧ P i) F0 N0 hoi ⟨rfl, ⟨m₀ x, funext e0⟩, rfl, h0⟩ ?_ ?_ ?_ ?_ hA hL hx hp
  · rintro i g m led ⟨_, _, rfl, _⟩; exact ⟨n, hl⟩
  · rintro i g m led ⟨_, _, rfl, _⟩; exact hadr
  · rintro i v g m led h tk oi' hv ⟨rfl, ⟨u, rfl⟩, rfl, hP⟩ F N hI
    refine wpAny_mono (turn i v u h tk oi' hv hP F N hI) (fun f s₃ h₃ => ?_) fun _ _ x => x
    cases f with
    | brk => exact h₃
    | ret v => exact h₃
    | next => obtain ⟨h', tk', oi', u', rfl, F', N', hI', hP'⟩ := h₃; exact ⟨_, _, _, h', tk', oi', rfl, F', N', hI', rfl, ⟨u', rfl⟩, rfl, hP'⟩
    | cont => obtain ⟨h', tk', oi', u', rfl, F', N', hI', hP'⟩ := h₃; exact ⟨_, _, _, h', tk', oi', rfl, F', N', hI', rfl, ⟨u', rfl⟩, rfl, hP'⟩
  · rintro g m led h tk ⟨rfl, ⟨u, rfl⟩, rfl, hP⟩ F N
    exact done u h tk hP F N
end
end Mine
end

section
open PySem PySem.W PyProof.Rows PySem.Spec PySem.Calls
set_option maxRecDepth 100000
set_option maxHeartbeats 8000000
namespace Mine
section
variable {prog : Program} {w : World} {A : Around} {E : Value → Shared → Prop} {s : Shared}
theorem ne_nil {q b : Addr} {xs : List Ent} {n k : Nat} {Q : Value → Shared → Prop} (ha : s.heap.get? q = some (hO xs n)) (hb : s.heap.get? b = some (listOf #[] k)) (hu : A.units < cLine) (h : Q (.bool (decide (0 < xs.length))) s) :
    wpAny (model prog w) A (compareOp .NotEq (.ref q) (.ref b)) Q E s := by
  refine cmp_ofNotEq (wpAny_richCompare_same_room (op := .NotEq) (T := "list") ⟨_, ha, rfl⟩ ⟨_, hb, rfl⟩ PySem.F.slot_list_ne ?_ hu)
  cases xs with
  | nil =>
    refine call_meets PySem.F.slot_list_ne ⟨_, ha, rfl⟩ PySem.F.entry_list_ne (PySem.F.args_list_ne_2 _ _) (PySem.SeqAt.list_neAt q b (vals []).toArray #[] n k none none #[] #[] rfl (fun _ => true)) ⟨ha, hb, ?_, ⟨(fun e => nomatch e), h⟩⟩
    intro j h1 _
    exact absurd h1 (Nat.not_lt_zero _)
  | cons x r =>
    exact call_meets PySem.F.slot_list_ne ⟨_, ha, rfl⟩ PySem.F.entry_list_ne (PySem.F.args_list_ne_2 _ _) (PySem.SeqAt.list_ne_lengthsAt q b (vals (x :: r)).toArray #[] n k none none #[] #[] (by simp [vals])) ⟨ha, hb, ⟨(fun e => nomatch e), by simpa using h⟩⟩
end
/-- a queue: where it lies, its entries, its count of changes -/
structure Que where
  a : Addr
  xs : List Ent
  n : Nat
def qvals (qs : List Que) : List Value := qs.map fun q => .ref q.a
def qled (qs : List Que) : List (Addr × Obj) := qs.map fun q => (q.a, hO q.xs q.n)
def frontG : List Que → Option (Ent × List Que)
  | [] => none
  | q :: r => match q.xs with
    | [] => (frontG r).map fun p => (p.1, q :: p.2)
    | e :: t => some (e, { q with xs := t, n := q.n + 1 } :: r)
theorem upd_mid {d : Addr} {o o' : Obj} {post : List (Addr × Obj)} (h2 : ∀ p ∈ post, p.1 ≠ d) : ∀ {pre : List (Addr × Obj)}, (∀ p ∈ pre, p.1 ≠ d) → Upd d o o' (pre ++ (d, o) :: post) (pre ++ (d, o') :: post)
  | [], _ => .head h2
  | p :: r, h1 => .tail (h1 p (.head _)) (upd_mid h2 fun q hq => h1 q (.tail _ hq))
theorem front_cons (q : Que) (r : List Que) (hq : q.xs = []) : frontG (q :: r) = (frontG r).map fun p => (p.1, q :: p.2) := by
  rw [frontG, hq]
theorem front_hit (q : Que) (r : List Que) {e : Ent} {t : List Ent} (hq : q.xs = e :: t) : frontG (q :: r) = some (e, { q with xs := t, n := q.n + 1 } :: r) := by
  rw [frontG, hq]
theorem front_skip {qs : List Que} {i : Nat} (h : ∀ q ∈ qs.take i, q.xs = []) : frontG qs = (frontG (qs.drop i)).map fun p => (p.1, qs.take i ++ p.2) := by
  induction i generalizing qs with
  | zero =>
    show frontG qs = (frontG qs).map fun p => (p.1, p.2)
    generalize frontG qs = o
    cases o <;> rfl
  | succ i ih =>
    cases qs with
    | nil => rfl
    | cons q r =>
      have hq : q.xs = [] := h q (by simp)
      have := ih (qs := r) fun q' hq' => h q' (by simp [hq'])
      rw [front_cons q r hq, this, List.drop_succ_cons, List.take_succ_cons]
      generalize frontG (r.drop i) = o
      cases o <;> rfl
theorem front_none {qs : List Que} (h : ∀ q ∈ qs, q.xs = []) : frontG qs = none := by
  induction qs with
  | nil => rfl
  | cons q r ih => rw [front_cons q r (h q (.head _)), ih fun q' hq' => h q' (.tail _ hq')]; rfl
theorem pop0 {prog : Program} {w : World} {A : Around} {E : Value → Shared → Prop} {s : Shared} {g : Heap} {L q : Addr} {m : Str → Option Value} {pre post : List (Addr × Obj)} {e : Ent} {t : List Ent} {n : Nat} {u : Tok} {Q : Value → Shared → Prop} (F : Fr g L s.heap m) (N : News g L s.heap (pre ++ (q, hO (e :: t) n) :: post)) (h1 : ∀ p ∈ pre, p.1 ≠ q) (h2 : ∀ p ∈ post, p.1 ≠ q) (hz : t.length ≤ 1000)
    (h : ∀ h', Fr g L h' m → News g L h' (pre ++ (q, hO t (n + 1)) :: post) → Q (.ref e.a) { s with heap := h' }) : wpAny (model prog w) A (call (.builtin "list.pop") [.ref q, .int 0 u]) Q E s :=
  kl_popAt (its := (vals (e :: t)).toArray) (k := 0) (p := []) (q := vals t) (y := .ref e.a) F N (by decide) (by simp [seqIndex?, vals]) rfl (upd_mid h2 h1) (by rw [sizeLine_eq]; simp only [vals, List.length_map, List.length_cons]; omega) h
theorem qled_split {qs : List Que} {i : Nat} {q : Que} (h : qs[i]? = some q) : qs = qs.take i ++ q :: qs.drop (i + 1) := by
  have hlt : i < qs.length := (List.getElem?_eq_some_iff.mp h).1
  have : q = qs[i] := (List.getElem?_eq_some_iff.mp h).2.symm
  rw [this, ← List.drop_eq_getElem_cons hlt, List.take_append_drop]
theorem drop_at {qs : List Que} {i : Nat} {q : Que} (h : qs[i]? = some q) : qs.drop i = q :: qs.drop (i + 1) := by
  have hlt : i < qs.length := (List.getElem?_eq_some_iff.mp h).1
  rw [(List.getElem?_eq_some_iff.mp h).2.symm, ← List.drop_eq_getElem_cons hlt]
theorem qled_at {qs : List Que} {i : Nat} {q : Que} {e : Ent} {t : List Ent} {rest : List (Addr × Obj)} (h : qs[i]? = some q) (he : q.xs = e :: t) :
    qled qs ++ rest = qled (qs.take i) ++ (q.a, hO (e :: t) q.n) :: (qled (qs.drop (i + 1)) ++ rest) := by
  conv => lhs; rw [qled_split h]
  simp [qled, he]
theorem news_front {g h : Heap} {L : Addr} {a b c : Addr × Obj} {qs : List Que} {i : Nat} {q : Que} {e : Ent} {t : List Ent} {rest : List (Addr × Obj)} (hi : qs[i]? = some q) (he : q.xs = e :: t)
    (N : News g L h (a :: b :: c :: (qled qs ++ rest))) : News g L h ((c :: qled (qs.take i)) ++ (q.a, hO (e :: t) q.n) :: (qled (qs.drop (i + 1)) ++ rest)) := by
  rw [List.cons_append, ← qled_at (rest := rest) hi he]
  exact fun p hp => N p (List.Mem.tail _ (List.Mem.tail _ hp))
theorem que_ne {qs : List Que} {i : Nat} {q : Que} (h : qs[i]? = some q) (hn : (qs.map (·.a)).Nodup) : (∀ p ∈ qs.take i, p.a ≠ q.a) ∧ ∀ p ∈ qs.drop (i + 1), p.a ≠ q.a := by
  rw [qled_split h, List.map_append, List.map_cons] at hn
  have := List.nodup_append.mp hn
  refine ⟨fun p hp => this.2.2 _ (List.mem_map.mpr ⟨p, hp, rfl⟩) _ (List.mem_cons_self), fun p hp e => ?_⟩
  exact (List.nodup_cons.mp this.2.1).1 (e ▸ List.mem_map.mpr ⟨p, hp, rfl⟩)
theorem qvals_get {qs : List Que} {i : Nat} {v : Value} (h : (qvals qs).toArray[i]? = some v) : ∃ q, qs[i]? = some q ∧ v = .ref q.a := by
  simp only [qvals, List.getElem?_toArray, List.getElem?_map, Option.map_eq_some_iff] at h
  obtain ⟨q, hq, rfl⟩ := h
  exact ⟨q, hq, rfl⟩
theorem keep_ret {g₀ : Heap} {L it l : Addr} {x : Str} {m₀ : Str → Option Value} {led₀ : List (Addr × Obj)} {P : Nat → Prop} {s s₃ : Shared} {Q : Flow → Shared → Prop} {i : Nat} {v : Value} (h : Q (.ret v) s₃) : KeepEnd g₀ L it l x m₀ led₀ P s Q i (.ret v) s₃ := h
section
theorem front_ {w : World} {mean : ExcName → Option Value} {mg mb : Str → Option Value} {QQ : Addr} {qs : List Que} {nq : Nat} {rest : List (Addr × Obj)} (hq : (qs.map (·.a)).Nodup) (hQ : ∀ q ∈ qs, q.a ≠ QQ) (hR : ∀ p ∈ rest, ∀ q ∈ qs, p.1 ≠ q.a) (hz : ∀ q ∈ qs, q.xs.length ≤ 1000) (hz2 : qs.length ≤ 1000) :
   Tell w mean mg mb 220 [.ref QQ] ((QQ, listOf (qvals qs).toArray nq) :: (qled qs ++ rest)) 4 16 (fun r news' => match frontG qs with
     | none => (∃ t, r = .str (Str.ofString "nothing there") t) ∧ news' = (QQ, listOf (qvals qs).toArray nq) :: (qled qs ++ rest)
     | some (e, qs') => r = .ref e.a ∧ news' = (QQ, listOf (qvals qs).toArray nq) :: (qled qs' ++ rest)) := by
  unfold Tell
  intro dp un gd cn cs ad ccd cl outer A₀ base h₀ L m s Q E B F X N T hk hd hu hret
  refine wpAny_call ?_
  k_dflt ktr_enter
  k_with_none
  k_with "exec For Name Name cons nil" => k_dflt refine for_any ?_
  k_with "exec For" => k_dflt refine for_any ?_
  k_with "KeepEnd" => first | (refine keep_ret ?_; (try dsimp only)) | refine hold ?_
  k_with "pyIter ref" =>
    (rename Fr _ _ _ _ => lF)
    (rename News _ _ _ _ => lN)
    refine iter_list lF lN (List.Mem.head _) ?_
    clear lF lN
    intro it' h' F' N' l'
  k_with "ForAt" =>
    with_unfolding_all refine for_keep (items := (qvals qs).toArray) (n := nq) (fun i => ∀ q ∈ qs.take i, q.xs = []) F' N' ⟨rfl, rfl⟩ (List.Mem.head _) (fun p hp => Nat.ne_of_lt (l' p hp)) (by simp) ?turn ?done rfl rfl rfl rfl
    (case' turn =>
      clear F' N'
      intro i v u kH kTk oi9 hv hP kFr kNews hI9
      obtain ⟨q, hqi, rfl⟩ := qvals_get hv
      have hqm : q ∈ qs := List.mem_of_getElem? hqi
      have hmem : (q.a, hO q.xs q.n) ∈ qled qs ++ rest := List.mem_append_left _ (List.mem_map.mpr ⟨q, hqm, rfl⟩)
      (try dsimp only)
      (try k_fold))
    (case' done =>
      clear F' N'
      intro u kH kTk hP kFr kNews
      (try dsimp only))
  k_with "compareOp NotEq ref ref" =>
    (rename News _ _ _ _ => lN)
    refine ne_nil (n := q.n) (lN (q.a, hO q.xs q.n) ?m1).1 (lN _ (List.Mem.head _)).1 (by ktr_units) ?_
    (case m1 => (repeat (first | exact hmem | refine List.Mem.tail _ ?_)))
  k_with "getMethod ref" =>
    (rename News _ _ _ _ => lN)
    refine kl_method (its := (vals q.xs).toArray) (n := q.n) lN ?m1 PySem.F.slot_list_pop PySem.F.type_list_pop ?_
    (case m1 => (repeat (first | exact hmem | refine List.Mem.tail _ ?_)))
  k_with "call builtin:list.pop" =>
    (rename Fr _ _ _ _ => lF)
    (rename News _ _ _ _ => lN)
    (rename 0 < q.xs.length => lP)
    obtain ⟨e9, t9, he9⟩ := List.exists_cons_of_length_pos lP
    have lN2 := news_front hqi he9 lN
    have lne := que_ne hqi hq
    with_unfolding_all refine pop0 lF lN2 ?p1 ?p2 ?p3 ?_
    (case p1 =>
      intro p hp
      rcases List.mem_cons.mp hp with rfl | hp
      · exact Ne.symm (hQ q hqm)
      · obtain ⟨q', hq', rfl⟩ := List.mem_map.mp hp
        exact lne.1 q' hq')
    (case p2 =>
      intro p hp
      rcases List.mem_append.mp hp with hp | hp
      · obtain ⟨q', hq', rfl⟩ := List.mem_map.mp hp
        exact lne.2 q' hq'
      · exact hR p hp q hqm)
    (case p3 =>
      have z9 := hz q hqm
      rw [he9, List.length_cons] at z9
      omega)
    clear lF lN lN2
    intro h8 F8 N8
    (try dsimp only)
  k_steps
  · (rename News h₀ _ _ _ => lN)
    have e1 : (qvals qs).toArray.size = qs.length := by simp [qvals]
    rw [e1, List.take_length] at hP
    have e2 : frontG qs = none := front_none hP
    refine hret _ _ _ _ (by k_asm) lN ?_
    show (match frontG qs with | none => _ | some (e, qs') => _)
    rw [e2]
    exact ⟨⟨_, rfl⟩, rfl⟩
  · (rename News h₀ _ _ _ => lN)
    have e2 : frontG qs = some (e9, qs.take i ++ { q with xs := t9, n := q.n + 1 } :: qs.drop (i + 1)) := by
      rw [front_skip hP, drop_at hqi, front_hit _ _ he9]; rfl
    refine hret _ _ _ _ (by k_asm) lN ?_
    show (match frontG qs with | none => _ | some (e, qs') => _)
    rw [e2]
    refine ⟨rfl, ?_⟩
    simp only [qled, List.map_append, List.map_cons, List.cons_append, List.append_assoc]
  · unfold Hold KeepEnd
    (rename Fr _ _ _ _ => lF)
    (rename News _ _ _ _ => lN)
    (rename ¬ 0 < q.xs.length => lP)
    refine ⟨_, _, oi9, some (.ref q.a), rfl, fr_eq lF (fun z => ?_), fun p hp => lN p (List.Mem.tail _ hp), hI9, ?_⟩
    · by_cases h : z = Str.ofString "queue"
      · rw [if_pos h, if_pos h]
      · rw [if_neg h, if_neg h, if_neg h]
    · intro q' hq'
      rw [List.take_add_one, hqi] at hq'
      rcases List.mem_append.mp hq' with h | h
      · exact hP q' h
      · simp only [Option.toList_some, List.mem_singleton] at h
        subst h
        exact List.eq_nil_of_length_eq_zero (by omega)
end
end Mine
end

section
/-! the heap's law: what siftup and siftdown keep -/
namespace Mine
section
variable {α : Type} {d : α} {lt : α → α → Bool}
theorem par_lt {c : Nat} (h : 0 < c) : (c - 1) / 2 < c := by omega
theorem par_le (c : Nat) : (c - 1) / 2 ≤ c := by omega
theorem par_child {c p : Nat} (h : 0 < c) (e : (c - 1) / 2 = p) : c = 2 * p + 1 ∨ c = 2 * p + 1 + 1 := by omega
theorem par_ge {c p : Nat} (h : 0 < c) (e : (c - 1) / 2 = p) : 2 * p + 1 ≤ c := (par_child h e).elim (fun q => Nat.le_of_eq q.symm) fun q => q ▸ Nat.le_succ _
theorem par_l (p : Nat) : (2 * p + 1 - 1) / 2 = p ∧ (2 * p + 1 + 1 - 1) / 2 = p := by omega
theorem dbl_lt (p : Nat) : p < 2 * p + 1 := by omega
theorem fuel_le {n f p k : Nat} (h : n ≤ f + 1 + p) (hk : p < k) : n ≤ f + k := by omega
/-- no edge with its upper end at s or behind it is turned, but those that touch x -/
def Edges (d : α) (lt : α → α → Bool) (s : Nat) (ex : Nat → Nat → Prop) (ys : List α) : Prop :=
  ∀ c, 0 < c → c < ys.length → s ≤ (c - 1) / 2 → ¬ ex ((c - 1) / 2) c → lt (ys.getD c d) (ys.getD ((c - 1) / 2) d) = false
/-- p lies beneath s -/
inductive Desc (s : Nat) : Nat → Prop where
  | refl : Desc s s
  | step {p : Nat} (h : 0 < p) : Desc s ((p - 1) / 2) → Desc s p
theorem Desc.le {s p : Nat} (h : Desc s p) : s ≤ p := by
  induction h with
  | refl => exact Nat.le_refl _
  | step h _ ih => exact Nat.le_trans ih (par_le _)
theorem Desc.up {s p : Nat} (h : Desc s p) (hs : s < p) : Desc s ((p - 1) / 2) := by
  cases h with
  | refl => omega
  | step _ h => exact h
/-- the grandparent's word: what stands above x is not above x's children -/
def Grand (d : α) (lt : α → α → Bool) (s : Nat) (x : Nat) (ys : List α) : Prop :=
  s < x → ∀ c, 0 < c → c < ys.length → (c - 1) / 2 = x → lt (ys.getD c d) (ys.getD ((x - 1) / 2) d) = false
structure Ord (lt : α → α → Bool) : Prop where
  asymm : ∀ a b, lt a b = true → lt b a = false
  trans : ∀ a b c, lt b a = false → lt c b = false → lt c a = false
theorem swp_getD {ys : List α} {i j k : Nat} (hi : i < ys.length) (hj : j < ys.length) :
    (swp d ys i j).getD k d = if k = j then ys.getD i d else if k = i then ys.getD j d else ys.getD k d := by
  unfold swp
  simp only [List.getD_eq_getElem?_getD, List.getElem?_set, List.length_set]
  by_cases h1 : k = j
  · subst h1; simp [hj]
  · have h1' : ¬ j = k := fun e => h1 e.symm
    by_cases h2 : k = i
    · subst h2; simp [h1, h1', hi]
    · have h2' : ¬ i = k := fun e => h2 e.symm
      simp [h1, h2, h1', h2']
theorem sd_edges (O : Ord lt) {s : Nat} : ∀ (pos : Nat) (ys : List α), pos < ys.length → Desc s pos → Edges d lt s (fun _ c => c = pos) ys → Grand d lt s pos ys → Edges d lt s (fun _ _ => False) (sdG d lt s pos ys) := by
  intro pos
  induction pos using Nat.strongRecOn with
  | _ pos ih =>
    intro ys hp hD hE hG
    rw [sdG]
    split
    · rename_i hs
      have hU := hD.up hs
      have hle := hU.le
      have hpos : 0 < pos := Nat.lt_of_le_of_lt (Nat.zero_le _) hs
      have hpl : (pos - 1) / 2 < ys.length := Nat.lt_trans (par_lt hpos) hp
      split
      · rename_i hl
        refine ih _ (par_lt hpos) _ (by rw [swp_length]; exact hpl) hU ?_ ?_
        · intro c h0 hc hsc hne
          rw [swp_length] at hc
          rw [swp_getD hp hpl, swp_getD hp hpl]
          by_cases c1 : c = pos
          · -- the edge pp → pos
            subst c1
            rw [if_neg (Nat.ne_of_gt (par_lt h0)), if_pos rfl, if_pos rfl]
            exact O.asymm _ _ hl
          · rw [if_neg hne, if_neg c1]
            by_cases c2 : (c - 1) / 2 = (pos - 1) / 2
            · rw [if_pos c2]
              have := hE c h0 hc hsc c1
              rw [c2] at this
              exact O.trans _ _ _ (O.asymm _ _ hl) this
            · rw [if_neg c2]
              by_cases c3 : (c - 1) / 2 = pos
              · rw [if_pos c3]
                exact hG hs c h0 hc c3
              · rw [if_neg c3]
                exact hE c h0 hc hsc c1
        · intro hs2 c h0 hc hcp
          have hpp : 0 < (pos - 1) / 2 := Nat.lt_of_le_of_lt (Nat.zero_le _) hs2
          rw [swp_length] at hc
          rw [swp_getD hp hpl, swp_getD hp hpl]
          rw [if_neg (fun e => Nat.ne_of_lt (par_lt h0) (hcp.trans e.symm)), if_neg (show ¬ ((pos - 1) / 2 - 1) / 2 = (pos - 1) / 2 from Nat.ne_of_lt (par_lt hpp)), if_neg (show ¬ ((pos - 1) / 2 - 1) / 2 = pos from Nat.ne_of_lt (Nat.lt_of_le_of_lt (par_le _) (par_lt hpos)))]
          have hz := hE ((pos - 1) / 2) hpp hpl (hU.up hs2).le (Nat.ne_of_lt (par_lt hpos))
          by_cases c1 : c = pos
          · rw [if_pos c1]; exact hz
          · rw [if_neg c1]
            have := hE c h0 hc (hcp.symm ▸ hle) c1
            rw [hcp] at this
            exact O.trans _ _ _ hz this
      · rename_i hl
        intro c h0 hc hsc _
        by_cases c1 : c = pos
        · subst c1; simpa using hl
        · exact hE c h0 hc hsc c1
    · rename_i hs
      intro c h0 hc hsc _
      exact hE c h0 hc hsc fun e => hs (Nat.lt_of_le_of_lt hsc (e ▸ par_lt h0))
theorem chd_cases (ys : List α) (c : Nat) : chd d lt ys c = c ∨ (chd d lt ys c = c + 1 ∧ c + 1 < ys.length) := by
  unfold chd; split
  · rename_i h; exact .inr ⟨rfl, h.1⟩
  · exact .inl rfl
theorem chd_least (O : Ord lt) {ys : List α} {c k : Nat} (hk : k = c ∨ k = c + 1) (hl : k < ys.length) : lt (ys.getD k d) (ys.getD (chd d lt ys c) d) = false := by
  have refl : ∀ a, lt a a = false := fun a => by
    cases h : lt a a with
    | false => rfl
    | true => exact (O.asymm _ _ h).symm.trans h |>.symm ▸ rfl
  unfold chd
  split
  · rename_i h
    rcases hk with rfl | rfl
    · exact h.2
    · exact refl _
  · rename_i h
    rcases hk with rfl | rfl
    · exact refl _
    · have : lt (ys.getD c d) (ys.getD (c + 1) d) = true := by
        cases q : lt (ys.getD c d) (ys.getD (c + 1) d) with
        | true => rfl
        | false => exact absurd ⟨hl, q⟩ h
      exact O.asymm _ _ this
/-- behind the way down: the hole is a leaf -/
theorem su_edges (O : Ord lt) {s : Nat} : ∀ (fuel pos : Nat) (ys : List α), pos < ys.length → ys.length ≤ fuel + pos → Desc s pos → Edges d lt s (fun p c => c = pos ∨ p = pos) ys → Grand d lt s pos ys →
    Edges d lt s (fun _ c => c = (suG d lt pos ys fuel).2) (suG d lt pos ys fuel).1 ∧ Grand d lt s (suG d lt pos ys fuel).2 (suG d lt pos ys fuel).1 ∧ Desc s (suG d lt pos ys fuel).2 := by
  intro fuel
  induction fuel with
  | zero => intro pos ys hp hf; omega
  | succ f ih =>
    intro pos ys hp hf hD hE hG
    unfold suG
    split
    · rename_i hc
      have hl := chd_lt (d := d) (lt := lt) hc
      have hge := chd_ge (d := d) (lt := lt) (ys := ys) (c := 2 * pos + 1)
      have hcs := chd_cases (d := d) (lt := lt) ys (2 * pos + 1)
      have hlst := fun k hk hl => chd_least (d := d) (lt := lt) O (ys := ys) (c := 2 * pos + 1) (k := k) hk hl
      generalize chd d lt ys (2 * pos + 1) = k at hl hge hcs hlst
      have hpar : (k - 1) / 2 = pos := by
        rcases hcs with rfl | ⟨rfl, _⟩
        · exact (par_l _).1
        · exact (par_l _).2
      have hpk : pos < k := Nat.lt_of_lt_of_le (dbl_lt pos) hge
      have hk0 : 0 < k := Nat.lt_of_le_of_lt (Nat.zero_le _) hpk
      refine ih k _ (by rw [swp_length]; exact hl) (by rw [swp_length]; exact fuel_le hf hpk) (.step hk0 (hpar ▸ hD)) ?_ ?_
      · intro c h0 hc' hsc hne
        rw [swp_length] at hc'
        rw [swp_getD hp hl, swp_getD hp hl]
        rw [if_neg (fun e => hne (.inl e)), if_neg (fun e => hne (.inr e))]
        by_cases c1 : c = pos
        · rw [if_pos c1, if_neg (show ¬ (c - 1) / 2 = pos from Nat.ne_of_lt (c1 ▸ par_lt h0))]
          subst c1
          have hs : s < c := Nat.lt_of_le_of_lt hsc (par_lt h0)
          exact hG hs k hk0 hl hpar
        · rw [if_neg c1]
          by_cases c2 : (c - 1) / 2 = pos
          · rw [if_pos c2]
            exact hlst c (par_child h0 c2) hc'
          · rw [if_neg c2]
            exact hE c h0 hc' hsc fun e => e.elim c1 c2
      · intro hs c h0 hc' hcp
        rw [swp_length] at hc'
        rw [swp_getD hp hl, swp_getD hp hl, hpar]
        have hcpos : ¬ c = pos := Nat.ne_of_gt (Nat.lt_trans hpk (hcp ▸ par_lt h0))
        rw [if_neg (fun e => Nat.ne_of_lt (par_lt h0) (hcp.trans e.symm)), if_neg hcpos, if_neg (Nat.ne_of_lt hpk), if_pos rfl]
        have := hE c h0 hc' (hcp.symm ▸ Nat.le_trans hD.le (Nat.le_of_lt hpk)) (fun e => e.elim hcpos fun q => Nat.ne_of_lt hpk (q.symm.trans hcp))
        rw [hcp] at this
        exact this
    · rename_i hc
      refine ⟨fun c h0 hc' hsc hne => hE c h0 hc' hsc ?_, hG, hD⟩
      have hne' : c ≠ pos := hne
      have hc2 : c < ys.length := hc'
      exact fun e => e.elim hne' fun q => hc (Nat.lt_of_le_of_lt (par_ge h0 q) hc2)
theorem siftup_edges (O : Ord lt) {s : Nat} {ys : List α} (hs : s < ys.length) (hE : Edges d lt s (fun p _ => p = s) ys) : Edges d lt s (fun _ _ => False) (siftup d lt s ys) := by
  obtain ⟨a, b, c⟩ := su_edges (d := d) O (s := s) ys.length s ys hs (by omega) .refl (fun c h0 hc hsc hne => hE c h0 hc hsc (fun e => hne (.inr e))) (fun h => absurd h (Nat.lt_irrefl _))
  refine sd_edges O _ _ ?_ c a b
  rw [suG_length]
  exact (suG_perm (d := d) (lt := lt) ys.length hs).2
def IsHeap (d : α) (lt : α → α → Bool) (ys : List α) : Prop := Edges d lt 0 (fun _ _ => False) ys
theorem isHeap_nil : IsHeap d lt [] := fun c _ h => absurd h (Nat.not_lt_zero _)
theorem IsHeap.root (O : Ord lt) {ys : List α} (h : IsHeap d lt ys) : ∀ i, i < ys.length → lt (ys.getD i d) (ys.getD 0 d) = false := by
  intro i
  induction i using Nat.strongRecOn with
  | _ i ih =>
    intro hi
    by_cases h0 : i = 0
    · subst h0
      cases q : lt (ys.getD 0 d) (ys.getD 0 d) with
      | false => rfl
      | true => exact q.symm.trans (O.asymm _ _ q)
    · exact O.trans _ _ _ (ih ((i - 1) / 2) (par_lt (Nat.pos_of_ne_zero h0)) (Nat.lt_of_le_of_lt (par_le i) hi)) (h i (Nat.pos_of_ne_zero h0) hi (Nat.zero_le _) id)
theorem desc0 : ∀ p, Desc 0 p := by
  intro p
  induction p using Nat.strongRecOn with
  | _ p ih =>
    by_cases h : p = 0
    · subst h; exact .refl
    · exact .step (Nat.pos_of_ne_zero h) (ih _ (par_lt (Nat.pos_of_ne_zero h)))
theorem heap_push (O : Ord lt) {xs : List α} {e : α} (h : IsHeap d lt xs) : IsHeap d lt (sdG d lt 0 xs.length (xs ++ [e])) := by
  refine sd_edges O _ _ (by simp) (desc0 _) ?_ ?_
  · intro c h0 hc hsc hne
    simp only [List.length_append, List.length_cons, List.length_nil] at hc
    have hc' : c < xs.length := by omega
    have e1 : ∀ i, i < xs.length → (xs ++ [e]).getD i d = xs.getD i d := fun i hi => by
      rw [List.getD_eq_getElem?_getD, List.getD_eq_getElem?_getD, List.getElem?_append_left hi]
    rw [e1 _ hc', e1 _ (Nat.lt_of_le_of_lt (par_le c) hc')]
    exact h c h0 hc' hsc id
  · intro hs c h0 hc hcp
    simp only [List.length_append, List.length_cons, List.length_nil] at hc
    omega
theorem heap_set0 (O : Ord lt) {xs : List α} {e : α} (h : IsHeap d lt xs) : IsHeap d lt (siftup d lt 0 (xs.set 0 e)) := by
  by_cases hl : xs.length = 0
  · have : xs = [] := List.eq_nil_of_length_eq_zero hl
    subst this
    intro c _ hc
    rw [siftup_length] at hc
    exact absurd hc (Nat.not_lt_zero _)
  · refine siftup_edges O (by rw [List.length_set]; omega) ?_
    intro c h0 hc hsc hne
    rw [List.length_set] at hc
    have e1 : ∀ i, i ≠ 0 → (xs.set 0 e).getD i d = xs.getD i d := fun i hi => by
      rw [List.getD_eq_getElem?_getD, List.getD_eq_getElem?_getD, List.getElem?_set_ne (Ne.symm hi)]
    rw [e1 _ (by omega), e1 _ hne]
    exact h c h0 hc hsc id
theorem heap_drop {xs : List α} (h : IsHeap d lt xs) : IsHeap d lt xs.dropLast := by
  intro c h0 hc hsc _
  rw [List.length_dropLast] at hc
  have e1 : ∀ i, i < xs.length - 1 → xs.dropLast.getD i d = xs.getD i d := fun i hi => by
    rw [List.getD_eq_getElem?_getD, List.getD_eq_getElem?_getD, List.getElem?_dropLast, if_pos hi]
  rw [e1 _ hc, e1 _ (Nat.lt_of_le_of_lt (par_le c) hc)]
  exact h c h0 (Nat.lt_of_lt_of_le hc (Nat.sub_le _ _)) hsc id
end
end Mine
end

section
open PySem PySem.W PyProof.Rows PySem.Spec PySem.Calls
set_option maxRecDepth 100000
namespace Mine
abbrev Key := Int × Int
def klt (a b : Key) : Bool := decide (a.1 < b.1) || (decide (a.1 = b.1) && decide (a.2 < b.2))
def Ent.key (e : Ent) : Key := (e.t, e.p)
theorem klt_iff {a b : Key} : klt a b = true ↔ (a.1 < b.1 ∨ (a.1 = b.1 ∧ a.2 < b.2)) := by
  simp [klt]
theorem klt_no {a b : Key} : klt a b = false ↔ ¬ (a.1 < b.1 ∨ (a.1 = b.1 ∧ a.2 < b.2)) := by
  rw [← klt_iff, Bool.not_eq_true]
theorem elt_key (x y : Ent) : elt x y = klt x.key y.key := rfl
theorem elt_ord : Ord elt where
  asymm a b h := by
    rw [elt_key] at *
    rw [klt_no]; rw [klt_iff] at h
    omega
  trans a b c h1 h2 := by
    rw [elt_key] at *
    rw [klt_no] at *
    omega
def ins (k : Key) : List Key → List Key
  | [] => [k]
  | h :: r => if klt k h = true then k :: h :: r else h :: ins k r
theorem ins_perm (k : Key) : ∀ S, (ins k S).Perm (k :: S)
  | [] => .refl _
  | h :: r => by
    unfold ins
    split
    · exact .refl _
    · exact ((ins_perm k r).cons h).trans (.swap _ _ _)
theorem ins_mid {k : Key} {B : List Key} (hB : ∀ b ∈ B, klt k b = true) : ∀ {A : List Key}, (∀ a ∈ A, klt k a = false) → ins k (A ++ B) = A ++ k :: B
  | [], _ => by
    cases B with
    | nil => rfl
    | cons b t => show (if klt k b = true then _ else _) = _; rw [if_pos (hB b (.head _))]; rfl
  | a :: A, hA => by
    show (if klt k a = true then _ else a :: ins k (A ++ B)) = _
    rw [hA a (.head _), ins_mid hB fun x hx => hA x (.tail _ hx)]
    rfl
def Srt (S : List Key) : Prop := S.Pairwise fun a b => klt a b = true
theorem klt_trans {a b c : Key} (h : klt a b = true) (h' : klt b c = true) : klt a c = true := by
  rw [klt_iff] at *; omega
theorem srt_ins {k : Key} : ∀ {S : List Key}, Srt S → (∀ a ∈ S, a.2 ≠ k.2) → Srt (ins k S)
  | [], _, _ => List.pairwise_singleton _ _
  | h :: r, hS, hk => by
    unfold ins
    split
    · rename_i hl
      refine List.pairwise_cons.mpr ⟨fun a ha => ?_, hS⟩
      rcases List.mem_cons.mp ha with rfl | ha
      · exact hl
      · exact klt_trans hl ((List.pairwise_cons.mp hS).1 a ha)
    · rename_i hl
      have hh : klt h k = true := by
        have h1 := hk h (.head _)
        have h2 : klt k h = false := by simpa using hl
        rw [klt_no] at h2
        rw [klt_iff]
        omega
      refine List.pairwise_cons.mpr ⟨fun a ha => ?_, srt_ins (List.pairwise_cons.mp hS).2 fun a ha => hk a (.tail _ ha)⟩
      rcases List.mem_cons.mp ((ins_perm k r).mem_iff.mp ha) with rfl | ha
      · exact hh
      · exact (List.pairwise_cons.mp hS).1 a ha
inductive Ans where
  | none
  | nothing
  | ent (k : Key)
def specStep (t : Int) (i : Nat) (n : Int) (S : List Key) : List Key × Ans :=
  if n % 6 < 2 then (ins (t, i) S, .none)
  else if n % 6 = 2 then (match S with | [] => ([], .nothing) | k :: r => (r, .ent k))
  else if n % 6 = 3 then (match S with | [] => ([], .nothing) | k :: r => (ins (t, i) r, .ent k))
  else if n % 6 = 4 then (match ins (t, i) S with | [] => ([], .nothing) | k :: r => (r, .ent k))
  else (S, .none)
theorem step_in {t : Int} {i : Nat} {n : Int} {S : List Key} (h : n % 6 < 2) : specStep t i n S = (ins (t, i) S, .none) := if_pos h
theorem step_2_none {t : Int} {i : Nat} {n : Int} (h : n % 6 = 2) : specStep t i n [] = ([], .nothing) := by
  unfold specStep; rw [if_neg (by omega), if_pos h]
theorem step_2 {t : Int} {i : Nat} {n : Int} {k : Key} {r : List Key} (h : n % 6 = 2) : specStep t i n (k :: r) = (r, .ent k) := by
  unfold specStep; rw [if_neg (by omega), if_pos h]
theorem step_3_none {t : Int} {i : Nat} {n : Int} (h : n % 6 = 3) : specStep t i n [] = ([], .nothing) := by
  unfold specStep; rw [if_neg (by omega), if_neg (by omega), if_pos h]
theorem step_3 {t : Int} {i : Nat} {n : Int} {k : Key} {r : List Key} (h : n % 6 = 3) : specStep t i n (k :: r) = (ins (t, i) r, .ent k) := by
  unfold specStep; rw [if_neg (by omega), if_neg (by omega), if_pos h]
theorem step_4 {t : Int} {i : Nat} {n : Int} {S : List Key} {k : Key} {r : List Key} (h : n % 6 = 4) (hS : ins (t, i) S = k :: r) : specStep t i n S = (r, .ent k) := by
  unfold specStep; rw [if_neg (by omega), if_neg (by omega), if_neg (by omega), if_pos h, hS]
theorem step_5 {t : Int} {i : Nat} {n : Int} {S : List Key} (h : n % 6 = 5) : specStep t i n S = (S, .none) := by
  unfold specStep; rw [if_neg (by omega), if_neg (by omega), if_neg (by omega), if_neg (by omega)]
/-- what holds of the things that lie there ahead of deed i -/
structure Fine (i : Nat) (S : List Key) : Prop where
  srt : Srt S
  low : ∀ k ∈ S, k.2 < i
  nodup : (S.map (·.2)).Nodup
  len : S.length ≤ i
theorem Fine.nil : Fine 0 [] := ⟨List.Pairwise.nil, (fun _ h => nomatch h), List.Pairwise.nil, Nat.le_refl _⟩
theorem Fine.next {i : Nat} {S : List Key} (h : Fine i S) : Fine (i + 1) S := ⟨h.srt, fun k hk => by have := h.low k hk; omega, h.nodup, Nat.le_succ_of_le h.len⟩
theorem Fine.tail {i : Nat} {k : Key} {r : List Key} (h : Fine i (k :: r)) : Fine i r :=
  ⟨(List.pairwise_cons.mp h.srt).2, fun x hx => h.low x (.tail _ hx), (List.nodup_cons.mp h.nodup).2, Nat.le_trans (Nat.le_succ _) h.len⟩
theorem Fine.ins {i : Nat} {t : Int} {S : List Key} (h : Fine i S) : Fine (i + 1) (ins (t, (i : Int)) S) := by
  have hp := ins_perm (t, (i : Int)) S
  refine ⟨srt_ins h.srt fun a ha => ?_, fun k hk => ?_, ((hp.map _).nodup_iff).mpr ?_, by rw [hp.length_eq]; have := h.len; simp only [List.length_cons]; omega⟩
  · have := h.low a ha
    show a.2 ≠ (i : Int)
    omega
  · rcases List.mem_cons.mp (hp.mem_iff.mp hk) with rfl | hk
    · show (i : Int) < _; omega
    · have := h.low k hk; omega
  · refine List.nodup_cons.mpr ⟨fun hm => ?_, h.nodup⟩
    obtain ⟨a, ha, e⟩ := List.mem_map.mp hm
    have := h.low a ha
    have e' : a.2 = (i : Int) := e
    omega
theorem Fine.step {i : Nat} {t n : Int} {S : List Key} (h : Fine i S) : Fine (i + 1) (specStep t i n S).1 := by
  unfold specStep
  split
  · exact h.ins
  · split
    · cases S with
      | nil => exact h.next
      | cons k r => exact h.tail.next
    · split
      · cases S with
        | nil => exact h.next
        | cons k r => exact h.tail.ins
      · split
        · have hi := h.ins (t := t)
          generalize Mine.ins (t, (i : Int)) S = z at hi
          cases z with
          | nil => exact ⟨List.Pairwise.nil, (fun _ h => nomatch h), List.Pairwise.nil, Nat.zero_le _⟩
          | cons k r => exact hi.tail
        · exact h.next
def specAt (T : Int → Int) (ns : List Int) : Nat → List Key × List Ans
  | 0 => ([], [])
  | i + 1 => ((specStep (T (ns.getD i 0)) i (ns.getD i 0) (specAt T ns i).1).1, (specAt T ns i).2 ++ [(specStep (T (ns.getD i 0)) i (ns.getD i 0) (specAt T ns i).1).2])
theorem fine_at (T : Int → Int) (ns : List Int) : ∀ i, Fine i (specAt T ns i).1
  | 0 => Fine.nil
  | i + 1 => (fine_at T ns i).step
theorem specAt_congr {T T' : Int → Int} {ns : List Int} (h : ∀ i, i < ns.length → T (ns.getD i 0) = T' (ns.getD i 0)) : ∀ i, i ≤ ns.length → specAt T ns i = specAt T' ns i
  | 0, _ => rfl
  | i + 1, hi => by
    have e1 := specAt_congr h i (by omega)
    have e2 := h i (by omega)
    unfold specAt
    rw [e1, e2]

/-! the heap answers so -/
structure Rel (xs : List Ent) (S : List Key) : Prop where
  heap : IsHeap dEnt elt xs
  perm : (xs.map Ent.key).Perm S
theorem Rel.nil : Rel [] [] := ⟨isHeap_nil, .refl _⟩
theorem Rel.len {xs : List Ent} {S : List Key} (h : Rel xs S) : xs.length = S.length := by simpa using h.perm.length_eq
theorem Rel.is_nil {xs : List Ent} (h : Rel xs []) : xs = [] := by
  have := h.len
  exact List.eq_nil_of_length_eq_zero this
theorem Rel.places {xs : List Ent} {S : List Key} (h : Rel xs S) : (xs.map (·.p)).Perm (S.map (·.2)) := by
  have := h.perm.map (·.2)
  rw [List.map_map] at this
  exact this
theorem Rel.nodup {i : Nat} {xs : List Ent} {S : List Key} (h : Rel xs S) (f : Fine i S) : (xs.map (·.p)).Nodup := h.places.nodup_iff.mpr f.nodup
theorem Rel.nodup_new {i : Nat} {xs : List Ent} {S : List Key} {e : Ent} (h : Rel xs S) (f : Fine i S) (he : e.p = i) : ((xs ++ [e]).map (·.p)).Nodup := by
  rw [List.map_append]
  refine (List.perm_append_comm.nodup_iff).mpr ?_
  show (e.p :: xs.map (·.p)).Nodup
  refine List.nodup_cons.mpr ⟨fun hm => ?_, h.nodup f⟩
  obtain ⟨a, ha, e'⟩ := List.mem_map.mp (h.places.mem_iff.mp hm)
  have := f.low a ha
  have e2 : a.2 = e.p := e'
  omega
theorem Rel.push {xs : List Ent} {S : List Key} {e : Ent} (h : Rel xs S) : Rel (sdG dEnt elt 0 xs.length (xs ++ [e])) (ins e.key S) := by
  refine ⟨heap_push elt_ord h.heap, ?_⟩
  have h1 := (sdG_perm (d := dEnt) (lt := elt) (start := 0) (pos := xs.length) (ys := xs ++ [e]) (by simp)).map Ent.key
  refine h1.trans ?_
  rw [List.map_append]
  refine List.perm_append_comm.trans ?_
  exact (h.perm.cons e.key).trans (ins_perm e.key S).symm
theorem Rel.root {x : Ent} {t : List Ent} {k : Key} {r : List Key} (h : Rel (x :: t) (k :: r)) (hs : Srt (k :: r)) : x.key = k ∧ (t.map Ent.key).Perm r := by
  have hx : x.key ∈ k :: r := h.perm.mem_iff.mp (.head _)
  have e1 : x.key = k := by
    rcases List.mem_cons.mp hx with e | hx
    · exact e
    · have h1 := (List.pairwise_cons.mp hs).1 _ hx
      have h2 : k ∈ (x :: t).map Ent.key := h.perm.mem_iff.mpr (.head _)
      obtain ⟨y, hy, rfl⟩ := List.mem_map.mp h2
      obtain ⟨j, hj, rfl⟩ := List.mem_iff_getElem.mp hy
      have h3 := h.heap.root elt_ord j hj
      rw [elt_key, getD_of_lt hj] at h3
      rw [show ((x :: t).getD 0 dEnt) = x from rfl, h1] at h3
      cases h3
  refine ⟨e1, ?_⟩
  have := h.perm
  rw [List.map_cons, e1] at this
  exact this.cons_inv
theorem popRest_perm (x : Ent) (t : List Ent) : (popRest (x :: t)).Perm t := by
  unfold popRest
  split
  · rename_i h
    simp only [List.length_cons] at h
    have : t = [] := List.eq_nil_of_length_eq_zero (by omega)
    subst this
    exact .refl _
  · rename_i h
    simp only [List.length_cons] at h
    have hne : t ≠ [] := fun e => by subst e; simp at h
    have e1 : (x :: t).dropLast = x :: t.dropLast := List.dropLast_cons_of_ne_nil hne
    have e2 : (x :: t).getLastD dEnt = t.getLast hne := by
      rw [getLastD_ne (List.cons_ne_nil x t), List.getLast_cons hne]
    rw [e1, e2, List.set_cons_zero]
    refine (siftup_perm (by simp)).trans ?_
    have : (t.getLast hne :: t.dropLast).Perm (t.dropLast ++ [t.getLast hne]) := (List.perm_append_singleton _ _).symm
    rw [List.dropLast_concat_getLast hne] at this
    exact this
theorem Rel.pop {x : Ent} {t : List Ent} {k : Key} {r : List Key} (h : Rel (x :: t) (k :: r)) (hs : Srt (k :: r)) : Rel (popRest (x :: t)) r := by
  refine ⟨?_, ((popRest_perm x t).map _).trans (h.root hs).2⟩
  unfold popRest
  split
  · exact isHeap_nil
  · exact heap_set0 elt_ord (heap_drop h.heap)
theorem set0_perm (x e : Ent) (t : List Ent) : (siftup dEnt elt 0 ((x :: t).set 0 e)).Perm (e :: t) := siftup_perm (by simp)
theorem Rel.replace {x e : Ent} {t : List Ent} {k : Key} {r : List Key} (h : Rel (x :: t) (k :: r)) (hs : Srt (k :: r)) : Rel (siftup dEnt elt 0 ((x :: t).set 0 e)) (ins e.key r) := by
  refine ⟨heap_set0 elt_ord h.heap, ((set0_perm x e t).map _).trans ?_⟩
  exact ((h.root hs).2.cons e.key).trans (ins_perm _ _).symm
theorem heapG_perm (k : Nat) : ∀ {xs : List Ent}, k ≤ xs.length → (heapG k xs).Perm xs := by
  induction k with
  | zero => intro xs _; exact .refl _
  | succ k ih =>
    intro xs h
    exact (ih (by rw [siftup_length]; omega)).trans (siftup_perm (by omega))
theorem heapG_heap (k : Nat) : ∀ {xs : List Ent}, k ≤ xs.length → Edges dEnt elt k (fun _ _ => False) xs → IsHeap dEnt elt (heapG k xs) := by
  induction k with
  | zero => intro xs _ h; exact h
  | succ k ih =>
    intro xs hk h
    refine ih (by rw [siftup_length]; omega) (siftup_edges elt_ord (by omega) ?_)
    intro c h0 hc hsc hne
    exact h c h0 hc (by omega) id
theorem Rel.heapify {xs : List Ent} {S : List Key} (h : Rel xs S) : Rel (heapG (xs.length / 2) xs.reverse) S := by
  have hl : xs.length / 2 ≤ xs.reverse.length := by rw [List.length_reverse]; omega
  refine ⟨heapG_heap _ hl fun c h0 hc hsc _ => ?_, ((heapG_perm _ hl).map _).trans (((List.reverse_perm xs).map _).trans h.perm)⟩
  rw [List.length_reverse] at hc
  omega
theorem Rel.pushpop {i : Nat} {xs : List Ent} {S : List Key} {e : Ent} (h : Rel xs S) (f : Fine i S) (he : e.p = i) :
    ∃ k r, ins e.key S = k :: r ∧ (if 0 < xs.length ∧ elt (xs.getD 0 dEnt) e = true then xs.getD 0 dEnt else e).key = k ∧ Rel (if 0 < xs.length ∧ elt (xs.getD 0 dEnt) e = true then siftup dEnt elt 0 (xs.set 0 e) else xs) r := by
  cases S with
  | nil =>
    have := h.is_nil
    subst this
    exact ⟨e.key, [], rfl, rfl, h⟩
  | cons k r =>
    cases xs with
    | nil => have := h.len; simp at this
    | cons x t =>
      have hr := h.root f.srt
      have e0 : (x :: t).getD 0 dEnt = x := rfl
      rw [e0]
      by_cases hl : elt x e = true
      · have hc : 0 < (x :: t).length ∧ elt x e = true := ⟨Nat.succ_pos _, hl⟩
        rw [if_pos hc, if_pos hc]
        refine ⟨k, ins e.key r, ?_, hr.1, h.replace f.srt⟩
        show (if klt e.key k = true then _ else _) = _
        rw [if_neg]
        rw [← hr.1, ← elt_key, elt_ord.asymm _ _ hl]
        exact Bool.false_ne_true
      · have hc : ¬ (0 < (x :: t).length ∧ elt x e = true) := fun c => hl c.2
        rw [if_neg hc, if_neg hc]
        refine ⟨e.key, k :: r, ?_, rfl, h⟩
        show (if klt e.key k = true then _ else _) = _
        rw [if_pos]
        have h1 : klt x.key e.key = false := by rw [← elt_key]; simpa using hl
        rw [hr.1] at h1
        have h2 := f.low k (.head _)
        rw [klt_no] at h1
        rw [klt_iff]
        have h3 : e.key.2 = (i : Int) := he
        omega

/-! the queues answer so -/
def qkeys (qs : List Que) : List Key := (qs.map fun q => q.xs.map Ent.key).flatten
theorem qkeys_cons (q : Que) (r : List Que) : qkeys (q :: r) = q.xs.map Ent.key ++ qkeys r := rfl
theorem qkeys_append (a b : List Que) : qkeys (a ++ b) = qkeys a ++ qkeys b := by simp [qkeys]
theorem front_keys : ∀ (qs : List Que), match frontG qs with
    | none => qkeys qs = [] ∧ ∀ q ∈ qs, q.xs = []
    | some (e, qs') => qkeys qs = e.key :: qkeys qs' ∧ qs'.map (·.a) = qs.map (·.a) ∧ (∀ (j : Nat) (q' : Que), qs'[j]? = some q' → ∃ q : Que, qs[j]? = some q ∧ ∀ x ∈ q'.xs, x ∈ q.xs) ∧ ∃ q ∈ qs, e ∈ q.xs
  | [] => ⟨rfl, (fun _ h => nomatch h)⟩
  | q :: r => by
    have ih := front_keys r
    cases hx : q.xs with
    | nil =>
      rw [front_cons q r hx]
      cases hf : frontG r with
      | none =>
        rw [hf] at ih
        refine ⟨by rw [qkeys_cons, hx]; exact ih.1, fun q' hq' => ?_⟩
        rcases List.mem_cons.mp hq' with rfl | hq'
        · exact hx
        · exact ih.2 q' hq'
      | some p =>
        rw [hf] at ih
        obtain ⟨h1, h2, h3, q0, hq0, he0⟩ := ih
        refine ⟨by rw [qkeys_cons, qkeys_cons, hx]; exact h1, by simp only [List.map_cons, h2], fun j q' hj => ?_, q0, .tail _ hq0, he0⟩
        cases j with
        | zero => exact ⟨q, rfl, by simp at hj; subst hj; exact fun x hx => hx⟩
        | succ j => exact h3 j q' (by simpa using hj)
    | cons e t =>
      rw [front_hit q r hx]
      refine ⟨by rw [qkeys_cons, qkeys_cons, hx]; rfl, rfl, fun j q' hj => ?_, q, .head _, by rw [hx]; exact .head _⟩
      cases j with
      | zero =>
        simp at hj
        subst hj
        exact ⟨q, rfl, fun x hx' => by rw [hx]; exact .tail _ hx'⟩
      | succ j => exact ⟨q', by simpa using hj, fun x hx => hx⟩
/-- a queue's things bear its number -/
def QFine (i : Nat) (qs : List Que) : Prop := ∀ (j : Nat) (q : Que), qs[j]? = some q → ∀ e ∈ q.xs, e.t = (j : Int) ∧ e.p < i
def pushQ (qs : List Que) (j : Nat) (q : Que) (e : Ent) : List Que := qs.take j ++ { q with xs := q.xs ++ [e], n := q.n + 1 } :: qs.drop (j + 1)
theorem push_keys {i j : Nat} {qs : List Que} {q : Que} {e : Ent} (hq : qs[j]? = some q) (f : QFine i qs) (ht : e.t = j) (hp : e.p = i) : qkeys (pushQ qs j q e) = ins e.key (qkeys qs) := by
  have hlt : j < qs.length := (List.getElem?_eq_some_iff.mp hq).1
  conv => rhs; rw [qled_split hq]
  rw [pushQ, qkeys_append, qkeys_append, qkeys_cons, qkeys_cons]
  have e1 : (q.xs ++ [e]).map Ent.key = q.xs.map Ent.key ++ [e.key] := by simp
  rw [show (({ q with xs := q.xs ++ [e], n := q.n + 1 } : Que).xs) = q.xs ++ [e] from rfl, e1, ← List.append_assoc, ← List.append_assoc, ← List.append_assoc, List.append_assoc _ [e.key], ins_mid]
  · rfl
  · intro b hb
    obtain ⟨l, hl, hb⟩ := List.mem_flatten.mp hb
    obtain ⟨q', hq', rfl⟩ := List.mem_map.mp hl
    obtain ⟨x, hx, rfl⟩ := List.mem_map.mp hb
    obtain ⟨k, hk⟩ := List.mem_iff_getElem?.mp hq'
    rw [List.getElem?_drop] at hk
    have := f _ _ hk x hx
    rw [klt_iff]
    left
    show e.t < x.t
    omega
  · intro a ha
    rw [klt_no]
    show ¬ (e.t < a.1 ∨ (e.t = a.1 ∧ e.p < a.2))
    rcases List.mem_append.mp ha with ha | ha
    · obtain ⟨l, hl, ha⟩ := List.mem_flatten.mp ha
      obtain ⟨q', hq', rfl⟩ := List.mem_map.mp hl
      obtain ⟨x, hx, rfl⟩ := List.mem_map.mp ha
      obtain ⟨k, hk⟩ := List.mem_iff_getElem?.mp hq'
      rw [List.getElem?_take] at hk
      split at hk
      · have := f _ _ hk x hx
        show ¬ (e.t < x.t ∨ (e.t = x.t ∧ e.p < x.p))
        omega
      · cases hk
    · obtain ⟨x, hx, rfl⟩ := List.mem_map.mp ha
      have := f _ _ hq x hx
      show ¬ (e.t < x.t ∨ (e.t = x.t ∧ e.p < x.p))
      omega
theorem push_get {j k : Nat} {qs : List Que} {q q' : Que} {e : Ent} (hq : qs[j]? = some q) (h : (pushQ qs j q e)[k]? = some q') : (k = j ∧ q' = { q with xs := q.xs ++ [e], n := q.n + 1 }) ∨ (k ≠ j ∧ qs[k]? = some q') := by
  have hlt : j < qs.length := (List.getElem?_eq_some_iff.mp hq).1
  have hl : (qs.take j).length = j := by rw [List.length_take]; omega
  unfold pushQ at h
  rcases Nat.lt_trichotomy k j with c | c | c
  · right
    rw [List.getElem?_append_left (by omega), List.getElem?_take_of_lt c] at h
    exact ⟨by omega, h⟩
  · left
    subst c
    rw [List.getElem?_append_right (by omega), hl, Nat.sub_self] at h
    simp only [List.getElem?_cons_zero, Option.some.injEq] at h
    exact ⟨rfl, h.symm⟩
  · right
    rw [List.getElem?_append_right (by omega), hl] at h
    obtain ⟨d, rfl⟩ : ∃ d, k = j + 1 + d := ⟨k - (j + 1), by omega⟩
    rw [show j + 1 + d - j = d + 1 by omega, List.getElem?_cons_succ, List.getElem?_drop] at h
    exact ⟨by omega, h⟩
end Mine
end

section
open PySem PySem.W PyProof.Rows PySem.Spec PySem.Calls
set_option maxRecDepth 100000
namespace Mine
section
variable {prog : Program} {w : World} {A : Around} {R : Result → Shared → Prop} {s : Shared} {env : Env} {iter : PySem.Expr} {scope : Scope} {cl : List (Str × Addr)} {pos : Pos}
/-- new queues, none of them in use -/
structure Fresh (D C : Addr) (led : List (Addr × Obj)) (qs : List Que) : Prop where
  bare : ∀ q ∈ qs, q.xs = [] ∧ q.n = 0
  nodup : (qs.map (·.a)).Nodup
  apart : ∀ q ∈ qs, D < q.a ∧ C < q.a ∧ ∀ p ∈ led, p.1 < q.a
def CQInv (s₂ : Shared) (g : Heap) (L : Addr) (m : Str → Option Value) (led : List (Addr × Obj)) (it : Addr) (K : Nat) (D C : Nat) (n : Nat) (s' : Shared) : Prop :=
  ∃ h tk i k mC qs, n = K + 1 - i ∧ i ≤ K ∧ s' = { s₂ with heap := h, toks := tk } ∧ Fr g L h m ∧ News g L h ((D, listOf (qvals qs).toArray k) :: (it, riO (i : Nat) ((K : Int) - (i : Nat)) 1) :: (qled qs ++ led)) ∧ h.Ns C mC ∧ qs.length = i ∧ Fresh D C ((it, riO 0 K 1) :: led) qs

theorem nodup_snoc {xs : List Addr} {a : Addr} (h : xs.Nodup) (ha : ∀ x ∈ xs, x ≠ a) : (xs ++ [a]).Nodup := by
  refine List.nodup_append.mpr ⟨h, by simp, fun x hx y hy => ?_⟩
  simp only [List.mem_singleton] at hy
  subst hy
  exact ha x hx
theorem loop_nils {x : Str} {px pl : Pos} {it : Addr} {K : Nat} {g : Heap} {L : Addr} {m : Str → Option Value} {led : List (Addr × Obj)} {s₂ : Shared}
    (hK : K ≤ 1000) (hadr : ∀ q ∈ led, q.1 ≠ it) (hA : A.handled = none) (hx : scope.names.lookup x = some .local) (hkind : scope.kind = .function) :
    CompLoop prog w A env (.List [] pl) (.Name x px) iter [] scope cl pos g L m ((it, riO 0 K 1) :: led) (.ref it) s₂
      (fun ys led' => ∃ qs, ys = (qvals qs).toArray ∧ led' = qled qs ++ led ∧ qs.length = K ∧ (∀ q ∈ qs, q.xs = [] ∧ q.n = 0) ∧ (qs.map (·.a)).Nodup ∧ ∀ q ∈ qs, ∀ p ∈ led, p.1 < q.a) := by
  intro D C h₁ mC tk hD hL hC hg F₁ N₁ hn R hR
  have hkx : (compEnvC scope cl C env).kindOf x = some .local := lookup_relabel_local hx
  have hks : (compEnvC scope cl C env).scope.kind = .function := hkind
  have hp : ((compEnvC scope cl C env).scope.kind == .class || ((compEnvC scope cl C env).scope.kind == .module && (compEnvC scope cl C env).locals != (compEnvC scope cl C env).globals)) = false := by rw [hks]; rfl
  have hiD : it < D := hD _ (.head _)
  have hlD : ∀ q ∈ led, q.1 < D := fun q hq => hD _ (.tail _ hq)
  have loop : codeAny (model prog w) A (.compLoop (.ListComp (.List [] pl) [⟨.Name x px, iter, [], 0⟩] scope pos) 0 (.ref it) (.ref D) (compEnvC scope cl C env)) R { s₂ with heap := h₁, toks := tk } := by
    refine compLoop_any (CQInv s₂ g L m led it K D C) ?_ (K + 1) ⟨h₁, tk, 0, 0, mC, [], rfl, Nat.zero_le _, rfl, F₁, N₁, hn, rfl, ⟨fun _ h => (nomatch h), List.nodup_nil, fun _ h => (nomatch h)⟩⟩
    rintro n s' ⟨h, tk, i, k, mC, qs, rfl, hi, rfl, F', N', hn', hlen, fr⟩
    have zD := N' _ (.head _)
    have zi := N' _ (.tail _ (.head _))
    have zr : ∀ p ∈ qled qs ++ led, _ := fun p hp => N' p (.tail _ (.tail _ hp))
    have hqa : ∀ p ∈ qled qs ++ led, p.1 ≠ it ∧ p.1 ≠ C ∧ p.1 ≠ D := fun p hp => by
      rcases List.mem_append.mp hp with hp | hp
      · obtain ⟨q, hq, rfl⟩ := List.mem_map.mp hp
        have a := fr.apart q hq
        have b := a.2.2 _ (.head _)
        exact ⟨Nat.ne_of_gt b, Nat.ne_of_gt a.2.1, Nat.ne_of_gt a.1⟩
      · have := hlD p hp
        exact ⟨hadr p hp, Nat.ne_of_lt (Nat.lt_trans this hC), Nat.ne_of_lt this⟩
    by_cases hlt : i < K
    · refine wpAny_pyNext_range_item zi.1 (by omega) fun h₂ hi₂ hs₂ => ?_
      refine wpAny_of_eq (a := ()) rfl ?_
      refine wpAny_assign_Name (wpAny_storeName_local hkx (hn'.sameBut hs₂ (Nat.ne_of_gt (Nat.lt_trans hiD hC))) (fun h₃ hn₃ hs₃ => ?_) hp)
      have hs₂' : Heap.SameBut it h h₂ := hs₂
      have hs₃' : Heap.SameBut C h₂ h₃ := hs₃
      have F₃ : Fr g L h₃ m := (F'.change hs₂' zi.2.1 zi.2.2).change hs₃' (Nat.ne_of_gt (Nat.lt_trans hL hC)) hg
      have e1 : ((i : Nat) : Int) + 1 = ((i + 1 : Nat) : Int) := by omega
      have e2 : (K : Int) - (i : Nat) - 1 = (K : Int) - ((i + 1 : Nat) : Int) := by omega
      rw [e1, e2] at hi₂
      have N₃ : News g L h₃ ((D, listOf (qvals qs).toArray k) :: (it, riO ((i + 1 : Nat) : Int) ((K : Int) - ((i + 1 : Nat) : Int)) 1) :: (qled qs ++ led)) := fun q hq => by
        rcases List.mem_cons.mp hq with rfl | hq
        · exact ⟨(hs₃'.2 _ (Nat.ne_of_lt hC)).trans ((hs₂'.2 _ (Nat.ne_of_gt hiD)).trans zD.1), zD.2⟩
        · rcases List.mem_cons.mp hq with rfl | hq
          · exact ⟨(hs₃'.2 _ (Nat.ne_of_lt (Nat.lt_trans hiD hC))).trans hi₂, zi.2⟩
          · exact ⟨(hs₃'.2 _ (hqa q hq).2.1).trans ((hs₂'.2 _ (hqa q hq).1).trans (zr q hq).1), (zr q hq).2⟩
      refine wpAny_tests_nil ?_
      rw [if_pos rfl]
      refine List_ (args_nil (newList_NK F₃ N₃ fun h₄ F₄ N₄ up₄ => ?_))
      have hCs : C < h₃.objs.size := hn₃.lt
      have hDs : D < h₃.objs.size := Heap.lt_size (N₃ _ (.head _)).1
      have hr₃ : ∀ p ∈ qled qs ++ led, p.1 < h₃.objs.size := fun p hp => Heap.lt_size (N₃ p (.tail _ (.tail _ hp))).1
      have his : it < h₃.objs.size := Heap.lt_size (N₃ _ (.tail _ (.head _))).1
      have hn₄ := hn₃.keeps up₄
      refine append_sb (x := .ref h₃.objs.size) F₄ (D := D) (its := (qvals qs).toArray) (n := k) (r := (h₃.objs.size, hO [] 0) :: (it, riO ((i + 1 : Nat) : Int) ((K : Int) - ((i + 1 : Nat) : Int)) 1) :: (qled qs ++ led)) (fun p hp => N₄ p ?_) (fun p hp => ?_) (fun h₅ F₅ N₅ hs₅ => ?_) ?_
      · rcases List.mem_cons.mp hp with rfl | hp
        · exact .tail _ (.head _)
        · rcases List.mem_cons.mp hp with rfl | hp
          · exact .head _
          · exact .tail _ (.tail _ hp)
      · rcases List.mem_cons.mp hp with rfl | hp
        · exact Nat.ne_of_gt hDs
        · rcases List.mem_cons.mp hp with rfl | hp
          · exact Nat.ne_of_lt hiD
          · exact (hqa p hp).2.2
      · refine ⟨K + 1 - (i + 1), by omega, h₅, _, i + 1, k + 1, _, qs ++ [⟨h₃.objs.size, [], 0⟩], rfl, hlt, rfl, F₅, fun p hp => N₅ p ?_, hn₄.sameBut hs₅ (Nat.ne_of_gt hC), by rw [List.length_append, hlen]; rfl, ⟨fun q hq => ?_, ?_, fun q hq => ?_⟩⟩
        · have e3 : (qvals (qs ++ [⟨h₃.objs.size, [], 0⟩])).toArray = (qvals qs).toArray.push (.ref h₃.objs.size) := by simp [qvals]
          rw [e3] at hp
          rcases List.mem_cons.mp hp with rfl | hp
          · exact .head _
          · rcases List.mem_cons.mp hp with rfl | hp
            · exact .tail _ (.tail _ (.head _))
            · rcases List.mem_append.mp hp with hp | hp
              · rw [qled, List.map_append] at hp
                rcases List.mem_append.mp hp with hp | hp
                · exact .tail _ (.tail _ (.tail _ (List.mem_append_left _ hp)))
                · simp only [List.map_cons, List.map_nil, List.mem_singleton] at hp
                  subst hp
                  exact .tail _ (.head _)
              · exact .tail _ (.tail _ (.tail _ (List.mem_append_right _ hp)))
        · rcases List.mem_append.mp hq with hq | hq
          · exact fr.bare q hq
          · simp only [List.mem_singleton] at hq
            subst hq
            exact ⟨rfl, rfl⟩
        · rw [List.map_append]
          refine nodup_snoc fr.nodup fun x hx => ?_
          obtain ⟨q, hq, rfl⟩ := List.mem_map.mp hx
          exact Nat.ne_of_lt (hr₃ (q.a, hO q.xs q.n) (List.mem_append_left _ (List.mem_map.mpr ⟨q, hq, rfl⟩)))
        · rcases List.mem_append.mp hq with hq | hq
          · exact fr.apart q hq
          · simp only [List.mem_singleton] at hq
            subst hq
            refine ⟨hDs, hCs, fun p hp => ?_⟩
            rcases List.mem_cons.mp hp with rfl | hp
            · exact his
            · exact hr₃ p (List.mem_append_right _ hp)
      · simp only [qvals, List.size_toArray, List.length_map]
        omega
    · have hiK : i = K := by omega
      refine wpAny_pyNext_range_end hA zi.1 (by omega) fun h' he' => ?_
      have he'' : Heap.ExtBut it h h' := he'
      refine hR _ ⟨h', tk, (qvals qs).toArray, k, qled qs ++ led, mC, rfl, fr_ext F' he'' zi.2.1 zi.2.2, fun p hp => ?_, hn'.extBut he'' (Nat.ne_of_gt (Nat.lt_trans hiD hC)), fun p hp => (hqa p hp).2.1, qs, rfl, rfl, hlen.trans hiK, fr.bare, fr.nodup, fun q hq p hp => (fr.apart q hq).2.2 p (.tail _ hp)⟩
      rcases List.mem_cons.mp hp with rfl | hp
      · exact ⟨he'' _ _ (Nat.ne_of_gt hiD) zD.1, zD.2⟩
      · exact ⟨he'' _ _ (hqa p hp).1 (zr p hp).1, (zr p hp).2⟩
  exact codeAny_compStart_list loop (wpAny_pyIter_rangeiter (N₁ _ (.tail _ (.head _))).1 loop)
end
end Mine
end

section
open PySem PySem.W PyProof.Rows PySem.Spec PySem.Calls
set_option maxRecDepth 100000
namespace Mine
def tk (c : Int) (j : Nat) : Bool := inS (kindG c) (takenG.getD j (Str.ofString ""))
/-- the eleven kinds of the signs below 128 -/
def kindsN : List Nat := [99, 116, 115, 98, 112, 100, 85, 117, 76, 108, 120]
def takenN : List (List Nat) := takenG.map (·.cps.toList)
theorem tk0 : kindsN.all (fun a => (List.range 15).all fun j => inS ⟨#[a]⟩ (takenG.getD j (Str.ofString "")) == (takenN.getD j []).contains a) = true := by decide +kernel
def mid (k : Nat) : Bool := kindsN.contains (kindsL.getD k 0) && (List.range 15).all fun j => (saidG (k : Int)).getD j false == (takenN.getD j []).contains (kindsL.getD k 0)
theorem mid0 : (List.range 128).all mid = true := by decide +kernel
theorem low0 : (List.range 15).all (fun j => tk (-1) j == false) = true := by decide +kernel
theorem high0 : (List.range 15).all (fun j => tk 128 j == decide (j = 14)) = true := by decide +kernel
theorem said_low {c : Int} (h : c < 0) (j : Nat) : (saidG c).getD j false = false := by
  have e : saidG c = List.replicate 15 false := by
    simp only [saidG, jalnum, jalpha, jascii, jblank, jcntrl, jdigit, jgraph, jlower, jprint, jpunct, jspace, jupper, jxdigit, jctrl, jmeta, rng, List.replicate]
    simp
    omega
  rw [e, List.getD_eq_getElem?_getD, List.getElem?_replicate]
  split <;> rfl
theorem said_high {c : Int} (h : 127 < c) {j : Nat} (hj : j < 15) : (saidG c).getD j false = decide (j = 14) := by
  have e : saidG c = List.replicate 14 false ++ [true] := by
    simp only [saidG, jalnum, jalpha, jascii, jblank, jcntrl, jdigit, jgraph, jlower, jprint, jpunct, jspace, jupper, jxdigit, jctrl, jmeta, rng, List.replicate]
    simp
    omega
  rw [e]
  have : (List.range 15).all (fun j => (List.replicate 14 false ++ [true]).getD j false == decide (j = 14)) = true := by decide
  simpa using List.all_eq_true.mp this j (List.mem_range.mpr hj)
theorem said_tk {c : Int} {j : Nat} (hj : j < 15) : (saidG c).getD j false = tk c j := by
  by_cases h1 : c < 0
  · rw [said_low h1]
    have := List.all_eq_true.mp low0 j (List.mem_range.mpr hj)
    simp only [beq_iff_eq] at this
    rw [← this, tk, tk, kindG, kindG, if_pos (by decide), if_pos h1]
  · by_cases h2 : 127 < c
    · rw [said_high h2 hj]
      have := List.all_eq_true.mp high0 j (List.mem_range.mpr hj)
      simp only [beq_iff_eq] at this
      rw [← this, tk, tk, kindG, kindG, if_neg (by decide), if_pos (by decide), if_neg h1, if_pos h2]
    · have m := List.all_eq_true.mp mid0 c.toNat (List.mem_range.mpr (by omega))
      obtain ⟨m1, m2⟩ := Bool.and_eq_true_iff.mp m
      have m3 := List.all_eq_true.mp m2 j (List.mem_range.mpr hj)
      have m4 := List.all_eq_true.mp (List.all_eq_true.mp tk0 _ (List.contains_iff_mem.mp m1)) j (List.mem_range.mpr hj)
      simp only [beq_iff_eq] at m3 m4
      rw [show ((c.toNat : Nat) : Int) = c by omega] at m3
      rw [m3, ← m4, tk, (kind_eq c).2.2 h1 h2]
theorem idxs_congr {p q : Nat → Value → Bool} : ∀ (l : List Value) (i : Nat), (∀ k, ∀ v ∈ l, p k v = q k v) → idxs p i l = idxs q i l
  | [], _, _ => rfl
  | v :: r, i, h => by
    simp only [idxs]
    rw [h i v (.head _), idxs_congr r (i + 1) fun k v hv => h k v (.tail _ hv)]
theorem first_turn {js : List (Int × Tok)} (hj : ∀ p ∈ js, 0 ≤ p.1 ∧ p.1 < 15) (c : Int) : firstG js c = turnG js c := by
  unfold firstG turnG
  rw [idxs_congr (q := fun _ v => turnP c v)]
  intro k v hv
  obtain ⟨q, hq, rfl⟩ := List.mem_map.mp hv
  have := hj q hq
  exact said_tk (by omega)
theorem idxs_lt {p : Nat → Value → Bool} : ∀ (l : List Value) (i : Nat), ∀ x ∈ idxs p i l, (i : Int) ≤ x ∧ x < (i : Int) + l.length
  | [], _, _, h => by simp [idxs] at h
  | v :: r, i, x, h => by
    simp only [idxs] at h
    have ih := idxs_lt (p := p) r (i + 1) x
    simp only [List.length_cons]
    split at h
    · rcases List.mem_cons.mp h with rfl | h
      · omega
      · have := ih h; omega
    · have := ih h; omega
theorem turn_range (js : List (Int × Tok)) (c : Int) : 0 ≤ turnG js c ∧ turnG js c ≤ js.length := by
  unfold turnG
  have hl : (jvals js).length = js.length := by simp [jvals]
  cases h : idxs (fun _ v => turnP c v) 0 (jvals js) with
  | nil => show (0 : Int) ≤ (js.length : Int) ∧ (js.length : Int) ≤ (js.length : Int); omega
  | cons x r =>
    have := idxs_lt (p := fun _ v => turnP c v) (jvals js) 0 x (by rw [h]; exact .head _)
    show 0 ≤ x ∧ x ≤ _
    rw [hl] at this
    omega
end Mine
end

section
open PySem PySem.W PyProof.Rows PySem.Spec PySem.Calls
set_option maxRecDepth 100000
namespace Mine
def thingD (n : Int) : Dat := if drawn n < 264 then .int (codeG n) else .str ⟨#[(codeG n).toNat]⟩
theorem IsThing.dat {led : List (Addr × Obj)} {n : Int} {v : Value} (h : IsThing n v) : DatIn led v (thingD n) := by
  unfold thingD
  rcases h with ⟨hp, t, rfl⟩ | ⟨hp, t, rfl⟩
  · rw [if_pos hp]; exact .int _ _
  · rw [if_neg hp]; exact .str _ _
def datA (ns : List Int) : Ans → Dat
  | .none => .none
  | .nothing => .str (Str.ofString "nothing there")
  | .ent k => .tuple [.int k.1, .int k.2, thingD (ns.getD k.2.toNat 0)]
theorem ent_dat {led : List (Addr × Obj)} {ns : List Int} {e : Ent} (hm : (e.a, tupO e) ∈ led) (hx : IsThing (ns.getD e.p.toNat 0) e.x) : DatIn led (.ref e.a) (datA ns (.ent e.key)) :=
  .tuple hm (.cons (.int _ _) (.cons (.int _ _) (.cons hx.dat .nil)))
theorem datA_ok (ns : List Int) (a : Ans) : kqdOk 8 (datA ns a) = true := by
  cases a with
  | none => rfl
  | nothing => show PyData.strOk (Str.ofString "nothing there") = true; decide +kernel
  | ent k =>
    have h1 : kqdOk 7 (thingD (ns.getD k.2.toNat 0)) = true := by
      unfold thingD
      split
      · rfl
      · rename_i h
        have e : codeG (ns.getD k.2.toNat 0) = drawn (ns.getD k.2.toNat 0) - 264 := if_neg h
        have hi := drawn_hi (ns.getD k.2.toNat 0)
        show PyData.strOk ⟨#[(codeG (ns.getD k.2.toNat 0)).toNat]⟩ = true
        have hl : (codeG (ns.getD k.2.toNat 0)).toNat < 264 := by omega
        generalize (codeG (ns.getD k.2.toNat 0)).toNat = z at hl
        have : (List.range 264).all (fun z => PyData.strOk ⟨#[z]⟩) = true := by decide +kernel
        exact List.all_eq_true.mp this z (List.mem_range.mpr hl)
    show (List.all [Dat.int k.1, Dat.int k.2, thingD (ns.getD k.2.toNat 0)] (kqdOk 7)) = true
    simp only [List.all_cons, h1, List.all_nil]
    rfl
/-- the addresses at hand do not meet -/
structure Ground (fix : List Addr) (B : Nat) (news : List (Addr × Obj)) : Prop where
  nd : fix.Nodup
  hi : ∀ a ∈ fix, a < B
  old : ∀ p ∈ news, p.1 ∉ fix
def topA (l : List Addr) : Nat := l.foldr (fun (a : Nat) b => max (a + 1) b) 0
theorem lt_topA {l : List Addr} : ∀ a ∈ l, a < topA l := by
  induction l with
  | nil => intro a h; cases h
  | cons x r ih =>
    intro a h
    show (a : Nat) < max ((x : Nat) + 1) (topA r)
    rcases List.mem_cons.mp h with rfl | h
    · exact Nat.lt_of_lt_of_le (Nat.lt_succ_self _) (Nat.le_max_left _ _)
    · exact Nat.lt_of_lt_of_le (ih a h) (Nat.le_max_right _ _)
theorem topA_le {l : List Addr} {D : Nat} (h : ∀ a ∈ l, a < D) : topA l ≤ D := by
  induction l with
  | nil => exact Nat.zero_le _
  | cons x r ih => exact Nat.max_le.mpr ⟨h x (.head _), ih fun a ha => h a (.tail _ ha)⟩
theorem specAt_len (T : Int → Int) (ns : List Int) : ∀ i, (specAt T ns i).2.length = i
  | 0 => rfl
  | i + 1 => by simp [specAt, specAt_len T ns i]
theorem same_of {mm m₀ : Str → Option Value} {a b c d e : Str} (h : ∀ z, z ≠ a → z ≠ b → z ≠ c → z ≠ d → z ≠ e → mm z = m₀ z) :
    ∀ z, mm z = if z = a then mm a else if z = b then mm b else if z = c then mm c else if z = d then mm d else if z = e then mm e else m₀ z := by
  intro z
  by_cases h1 : z = a
  · rw [if_pos h1, h1]
  rw [if_neg h1]
  by_cases h2 : z = b
  · rw [if_pos h2, h2]
  rw [if_neg h2]
  by_cases h3 : z = c
  · rw [if_pos h3, h3]
  rw [if_neg h3]
  by_cases h4 : z = d
  · rw [if_pos h4, h4]
  rw [if_neg h4]
  by_cases h5 : z = e
  · rw [if_pos h5, h5]
  rw [if_neg h5]
  exact h z h1 h2 h3 h4 h5
theorem six (n : Int) : n % 6 = 0 ∨ n % 6 = 1 ∨ n % 6 = 2 ∨ n % 6 = 3 ∨ n % 6 = 4 ∨ n % 6 = 5 := by omega
end Mine
end

section
open PySem PySem.W PyProof.Rows PySem.Spec PySem.Calls
set_option maxRecDepth 100000
namespace Mine
abbrev numsOf (ns : List (Int × Tok)) : List Int := ns.map (·.1)
abbrev turnN (js : List (Int × Tok)) (n : Int) : Int := turnG js (codeG n)
abbrev dueAt (js ns : List (Int × Tok)) (i : Nat) : List Key × List Ans := specAt (turnN js) (numsOf ns) i
structure DueQ (ns : List (Int × Tok)) (z i : Nat) (qa : List Addr) (qs : List Que) (tups : List (Addr × Obj)) (S : List Key) : Prop where
  len : qs.length = z
  adr : qs.map (·.a) = qa
  keys : qkeys qs = S
  fine : QFine i qs
  ents : ∀ q ∈ qs, ∀ e ∈ q.xs, (e.a, tupO e) ∈ tups ∧ IsThing ((numsOf ns).getD e.p.toNat 0) e.x
structure DueI (js ns : List (Int × Tok)) (i : Nat) (qa : List Addr) (B : Nat) (qs : List Que) (vs : List Value) (tups : List (Addr × Obj)) : Prop where
  q : DueQ ns (js.length + 1) i qa qs tups (dueAt js ns i).1
  ans : DatAll tups vs ((dueAt js ns i).2.map (datA (numsOf ns)))
  hi : ∀ p ∈ tups, B ≤ p.1
section
variable {ns : List (Int × Tok)} {z i : Nat} {qa : List Addr} {qs qs' : List Que} {tups : List (Addr × Obj)} {S : List Key} {e : Ent} {q : Que} {j : Nat}
theorem DueQ.next (h : DueQ ns z i qa qs tups S) : DueQ ns z (i + 1) qa qs tups S :=
  ⟨h.len, h.adr, h.keys, fun j q hq e he => by have := h.fine j q hq e he; exact ⟨this.1, by omega⟩, h.ents⟩
theorem DueQ.front_none (h : DueQ ns z i qa qs tups S) (hf : frontG qs = none) : S = [] := by
  have := front_keys qs
  rw [hf] at this
  rw [← h.keys]; exact this.1
theorem DueQ.front (h : DueQ ns z i qa qs tups S) (hf : frontG qs = some (e, qs')) : ∃ r, S = e.key :: r ∧ DueQ ns z i qa qs' tups r ∧ (e.a, tupO e) ∈ tups ∧ IsThing ((numsOf ns).getD e.p.toNat 0) e.x := by
  have := front_keys qs
  rw [hf] at this
  obtain ⟨h1, h2, h3, q0, hq0, he0⟩ := this
  have hl : qs'.length = qs.length := by simpa using congrArg List.length h2
  refine ⟨qkeys qs', h.keys.symm.trans h1, ⟨hl.trans h.len, h2.trans h.adr, rfl, fun j q' hq' x hx => ?_, fun q' hq' x hx => ?_⟩, h.ents q0 hq0 e he0⟩
  · obtain ⟨q, hq, hs⟩ := h3 j q' hq'
    exact h.fine j q hq x (hs x hx)
  · obtain ⟨j, hj⟩ := List.mem_iff_getElem?.mp hq'
    obtain ⟨q, hq, hs⟩ := h3 j q' hj
    exact h.ents q (List.mem_of_getElem? hq) x (hs x hx)
theorem DueQ.push (h : DueQ ns z i qa qs tups S) (hq : qs[j]? = some q) (ht : e.t = (j : Int)) (hp : e.p = (i : Int)) (hx : IsThing ((numsOf ns).getD i 0) e.x) :
    DueQ ns z (i + 1) qa (pushQ qs j q e) ((e.a, tupO e) :: tups) (ins e.key S) := by
  have hlt : j < qs.length := (List.getElem?_eq_some_iff.mp hq).1
  have hsp := qled_split hq
  refine ⟨?_, ?_, by rw [push_keys hq h.fine ht hp, h.keys], fun k q' hk x hx' => ?_, fun q' hq' x hx' => ?_⟩
  · rw [← h.len, pushQ]
    simp only [List.length_append, List.length_cons, List.length_take, List.length_drop]
    omega
  · rw [← h.adr, pushQ]
    conv => rhs; rw [hsp]
    simp only [List.map_append, List.map_cons]
  · rcases push_get hq hk with ⟨rfl, rfl⟩ | ⟨_, hk'⟩
    · rcases List.mem_append.mp hx' with hx' | hx'
      · have := h.fine k q hq x hx'
        exact ⟨this.1, by omega⟩
      · simp only [List.mem_singleton] at hx'
        subst hx'
        exact ⟨ht, by omega⟩
    · have := h.fine k q' hk' x hx'
      exact ⟨this.1, by omega⟩
  · obtain ⟨k, hk⟩ := List.mem_iff_getElem?.mp hq'
    rcases push_get hq hk with ⟨rfl, rfl⟩ | ⟨_, hk'⟩
    · rcases List.mem_append.mp hx' with hx' | hx'
      · have := h.ents q (List.mem_of_getElem? hq) x hx'
        exact ⟨.tail _ this.1, this.2⟩
      · simp only [List.mem_singleton] at hx'
        subst hx'
        refine ⟨.head _, ?_⟩
        rw [hp, Int.toNat_natCast]; exact hx
    · have := h.ents q' (List.mem_of_getElem? hk') x hx'
      exact ⟨.tail _ this.1, this.2⟩
end
section
variable {js ns : List (Int × Tok)} {i : Nat} {qa : List Addr} {B : Nat} {qs qs' : List Que} {vs : List Value} {tups : List (Addr × Obj)} {e e0 : Ent} {q : Que} {j : Nat} {n : Int}
theorem due_at_succ (hn : (numsOf ns).getD i 0 = n) : dueAt js ns (i + 1) = ((specStep (turnN js n) i n (dueAt js ns i).1).1, (dueAt js ns i).2 ++ [(specStep (turnN js n) i n (dueAt js ns i).1).2]) := by
  subst hn; rfl
theorem DueI.step (h : DueI js ns i qa B qs vs tups) (hn : (numsOf ns).getD i 0 = n) {S' : List Key} {a : Ans} {tups' : List (Addr × Obj)} {v : Value}
    (hs : specStep (turnN js n) i n (dueAt js ns i).1 = (S', a)) (hq : DueQ ns (js.length + 1) (i + 1) qa qs' tups' S') (hsub : ∀ p ∈ tups, p ∈ tups') (hv : DatIn tups' v (datA (numsOf ns) a)) (hhi : ∀ p ∈ tups', B ≤ p.1) :
    DueI js ns (i + 1) qa B qs' (vs ++ [v]) tups' := by
  refine ⟨?_, ?_, hhi⟩
  · rw [due_at_succ hn, hs]; exact hq
  · rw [due_at_succ hn, hs, List.map_append]
    exact DatAll.append (DatAll.mono hsub h.ans) (.cons hv .nil)
theorem DueI.in (h : DueI js ns i qa B qs vs tups) (hn : (numsOf ns).getD i 0 = n) (h6 : n % 6 < 2) (hq : qs[j]? = some q) (hj : turnN js n = (j : Int)) (ht : e.t = turnN js n) (hp : e.p = (i : Int)) (hx : IsThing n e.x) (hB : B ≤ e.a) :
    DueI js ns (i + 1) qa B (pushQ qs j q e) (vs ++ [.none]) ((e.a, tupO e) :: tups) := by
  have hk : e.key = (turnN js n, (i : Int)) := by rw [← ht, ← hp]; rfl
  refine h.step hn (step_in h6) (hk ▸ h.q.push hq (ht.trans hj) hp (hn.symm ▸ hx)) (fun p hp => .tail _ hp) .none fun p hp => ?_
  rcases List.mem_cons.mp hp with rfl | hp
  · exact hB
  · exact h.hi p hp
theorem DueI.out_none (h : DueI js ns i qa B qs vs tups) (hn : (numsOf ns).getD i 0 = n) (h6 : n % 6 = 2 ∨ n % 6 = 3) (hf : frontG qs = none) {t : Tok} :
    DueI js ns (i + 1) qa B qs (vs ++ [.str (Str.ofString "nothing there") t]) tups := by
  have hS := h.q.front_none hf
  have hq := h.q.next
  refine h.step hn (S' := []) (a := .nothing) ?_ (hS ▸ hq) (fun p hp => hp) (.str _ _) h.hi
  rw [hS]
  rcases h6 with h6 | h6
  · exact step_2_none h6
  · exact step_3_none h6
theorem DueI.out (h : DueI js ns i qa B qs vs tups) (hn : (numsOf ns).getD i 0 = n) (h6 : n % 6 = 2) (hf : frontG qs = some (e, qs')) : DueI js ns (i + 1) qa B qs' (vs ++ [.ref e.a]) tups := by
  obtain ⟨r, hS, hq, hm, hx⟩ := h.q.front hf
  exact h.step hn (by rw [hS]; exact step_2 h6) hq.next (fun p hp => hp) (ent_dat hm hx) h.hi
theorem DueI.swap (h : DueI js ns i qa B qs vs tups) (hn : (numsOf ns).getD i 0 = n) (h6 : n % 6 = 3) (hf : frontG qs = some (e0, qs')) (hq : qs'[j]? = some q) (hj : turnN js n = (j : Int)) (ht : e.t = turnN js n) (hp : e.p = (i : Int)) (hx : IsThing n e.x) (hB : B ≤ e.a) :
    DueI js ns (i + 1) qa B (pushQ qs' j q e) (vs ++ [.ref e0.a]) ((e.a, tupO e) :: tups) := by
  have hk : e.key = (turnN js n, (i : Int)) := by rw [← ht, ← hp]; rfl
  obtain ⟨r, hS, hq', hm, hx'⟩ := h.q.front hf
  refine h.step hn (by rw [hS]; exact step_3 h6) (hk ▸ hq'.push hq (ht.trans hj) hp (hn.symm ▸ hx)) (fun p hp => .tail _ hp) (ent_dat (.tail _ hm) hx') fun p hp => ?_
  rcases List.mem_cons.mp hp with rfl | hp
  · exact hB
  · exact h.hi p hp
theorem DueI.through (h : DueI js ns i qa B qs vs tups) (hn : (numsOf ns).getD i 0 = n) (h6 : n % 6 = 4) (hq : qs[j]? = some q) (hj : turnN js n = (j : Int)) (ht : e.t = turnN js n) (hp : e.p = (i : Int)) (hx : IsThing n e.x) (hB : B ≤ e.a)
    (hf : frontG (pushQ qs j q e) = some (e0, qs')) : DueI js ns (i + 1) qa B qs' (vs ++ [.ref e0.a]) ((e.a, tupO e) :: tups) := by
  have hk : e.key = (turnN js n, (i : Int)) := by rw [← ht, ← hp]; rfl
  have hp' := h.q.push hq (ht.trans hj) hp (hn.symm ▸ hx)
  obtain ⟨r, hS, hq', hm, hx'⟩ := hp'.front hf
  refine h.step hn (step_4 h6 (hk ▸ hS)) hq' (fun p hp => .tail _ hp) (ent_dat hm hx') fun p hp => ?_
  rcases List.mem_cons.mp hp with rfl | hp
  · exact hB
  · exact h.hi p hp
theorem DueI.through_some (h : DueI js ns i qa B qs vs tups) (hn : (numsOf ns).getD i 0 = n) (hq : qs[j]? = some q) (hj : turnN js n = (j : Int)) (ht : e.t = turnN js n) (hp : e.p = (i : Int)) (hx : IsThing n e.x) : frontG (pushQ qs j q e) ≠ none := by
  intro hf
  have := (h.q.push hq (ht.trans hj) hp (hn.symm ▸ hx)).front_none hf
  have hl := (ins_perm e.key (dueAt js ns i).1).length_eq
  rw [this] at hl
  simp at hl
theorem DueI.turned (h : DueI js ns i qa B qs vs tups) (hn : (numsOf ns).getD i 0 = n) (h6 : n % 6 = 5) : DueI js ns (i + 1) qa B qs (vs ++ [.none]) tups :=
  h.step hn (step_5 h6) h.q.next (fun p hp => hp) .none h.hi
theorem DueI.len (h : DueI js ns i qa B qs vs tups) : vs.length = i := by
  have := h.ans.length
  rw [List.length_map, specAt_len] at this
  exact this
theorem mem_flat {qs : List Que} {q : Que} (hq : q ∈ qs) : q.xs.length ≤ (qkeys qs).length := by
  induction qs with
  | nil => cases hq
  | cons x r ih =>
    rw [qkeys_cons, List.length_append, List.length_map]
    rcases List.mem_cons.mp hq with rfl | hq
    · omega
    · have := ih hq; omega
theorem DueI.size (h : DueI js ns i qa B qs vs tups) {q : Que} (hq : q ∈ qs) : q.xs.length ≤ i := by
  have h1 := mem_flat hq
  rw [h.q.keys] at h1
  exact Nat.le_trans h1 (fine_at (turnN js) (numsOf ns) i).len
theorem nth_of (hl : qs.length = js.length + 1) (n : Int) : ∃ (j : Nat) (q : Que), turnN js n = (j : Int) ∧ qs[j]? = some q := by
  have hr := turn_range js (codeG n)
  show ∃ (j : Nat) (q : Que), turnG js (codeG n) = (j : Int) ∧ qs[j]? = some q
  generalize turnG js (codeG n) = z at hr
  refine ⟨z.toNat, qs[z.toNat]'(by omega), by omega, ?_⟩
  exact List.getElem?_eq_getElem _
theorem DueI.zero (hl : qs.length = js.length + 1) (hb : ∀ q ∈ qs, q.xs = [] ∧ q.n = 0) : DueI js ns 0 (qs.map (·.a)) B qs [] [] := by
  refine ⟨⟨hl, rfl, ?_, fun j q hq e he => ?_, fun q hq e he => ?_⟩, .nil, fun _ h => (nomatch h)⟩
  · show qkeys qs = []
    clear hl
    induction qs with
    | nil => rfl
    | cons x r ih => rw [qkeys_cons, (hb x (.head _)).1, ih fun q hq => hb q (.tail _ hq)]; rfl
  · rw [(hb q (List.mem_of_getElem? hq)).1] at he; cases he
  · rw [(hb q hq).1] at he; cases he
end
end Mine
end

section
open PySem PySem.W PyProof.Rows PySem.Spec PySem.Calls
set_option maxRecDepth 100000
namespace Mine
/-- the ledger of due's loop -/
abbrev dueL (QQ : Addr) (nq : Nat) (qs : List Que) (DD : Addr) (vs : List Value) (k : Nat) (e : Addr) (oe : Obj) (it : Addr) (oi : Obj) (tups news : List (Addr × Obj)) : List (Addr × Obj) :=
  (QQ, listOf (qvals qs).toArray nq) :: (qled qs ++ ((DD, listOf vs.toArray k) :: (e, oe) :: (it, oi) :: (tups ++ news)))
section
variable {prog : Program} {w : World} {A : Around} {E : Value → Shared → Prop} {s : Shared} {g : Heap} {L : Addr} {m : Str → Option Value} {news tups : List (Addr × Obj)} {QQ DD e it : Addr} {oe oi : Obj} {nq k : Nat} {qs : List Que} {vs : List Value} {B : Nat}

theorem newList_A {led : List (Addr × Obj)} {Q : Value → Shared → Prop} (F : Fr g L s.heap m) (N : News g L s.heap led) (h : ∀ (D : Nat) h', Fr g L h' m → News g L h' ((D, listOf #[] 0) :: led) → (∀ p ∈ led, p.1 < D) → Q (.ref D) { s with heap := h' }) :
    wpAny (model prog w) A (newList []) Q E s := newList_N F N fun h' F' N' => h _ h' F' N' fun p hp => Heap.lt_size (N p hp).1
theorem iter_range {E : Value → Shared → Prop} {r : Addr} {K : Nat} {t u v : Tok} {led : List (Addr × Obj)} {Q : Value → Shared → Prop} (F : Fr g L s.heap m) (N : News g L s.heap led) (hr : IsRange s.heap r 0 (K : Int) 1 t u v) (hK : K ≤ 1000)
    (h : ∀ (it : Nat) h', Fr g L h' m → News g L h' ((it, riO 0 K 1) :: led) → (∀ p ∈ led, p.1 < it) → Q (.ref it) { s with heap := h' }) : wpAny (model prog w) A (pyIter (.ref r)) Q E s := by
  have hz : Builtin.Range.rangeSize 0 (K : Int) 1 = K := by
    unfold Builtin.Range.rangeSize
    rw [if_pos (by decide)]
    split <;> omega
  refine wpAny_pyIter_range hr ?_ ?_
  · exact small_one (by omega) (by omega) (by omega) (by omega)
  · rw [hz]
    exact h _ _ (F.push _) (N.push F _) fun p hp => Heap.lt_size (N p hp).1
theorem jvals_at {ns : List (Int × Tok)} {i : Nat} {v : Value} (h : (jvals ns).toArray[i]? = some v) : ∃ n t, v = .int n t ∧ (numsOf ns).getD i 0 = n ∧ i < ns.length := by
  simp only [jvals, List.getElem?_toArray, List.getElem?_map, Option.map_eq_some_iff] at h
  obtain ⟨q, hq, rfl⟩ := h
  exact ⟨q.1, q.2, rfl, by simp [numsOf, List.getD_eq_getElem?_getD, hq], (List.getElem?_eq_some_iff.mp hq).1⟩
theorem mod6 {n k : Int} {t u : Tok} {Q : Value → Shared → Prop} (h6 : n % 6 = k) (h : Q (.int k s.toks) { s with toks := s.toks + 1 }) : wpAny (model prog w) A (binaryOp .Mod (.int n t) (.int 6 u)) Q E s := by
  refine mod_int (by decide) ?_
  rw [Int.fmod_eq_emod_of_nonneg _ (by decide), h6]
  exact h
theorem news_front2 {l : List (Addr × Obj)} (N : News g L s.heap l) {l' : List (Addr × Obj)} (h : ∀ p ∈ l', p ∈ l) : News g L s.heap l' := fun p hp => N p (h p hp)
theorem due_append {v : Value} {Q : Value → Shared → Prop} (F : Fr g L s.heap m) (N : News g L s.heap (dueL QQ nq qs DD vs k e oe it oi tups news)) (G : Ground (QQ :: DD :: e :: it :: qs.map (·.a)) B news) (hB : ∀ p ∈ tups, B ≤ p.1) (hz : vs.length ≤ 1000)
    (h : ∀ h', Fr g L h' m → News g L h' (dueL QQ nq qs DD (vs ++ [v]) (k + 1) e oe it oi tups news) → Q .none { s with heap := h' }) : wpAny (model prog w) A (call (.builtin "list.append") [.ref DD, v]) Q E s := by
  have nd := G.nd
  simp only [List.nodup_cons, List.mem_cons, not_or] at nd
  have hD : DD < B := G.hi DD (.tail _ (.head _))
  refine append_sb (D := DD) (its := vs.toArray) (n := k) (r := (QQ, listOf (qvals qs).toArray nq) :: (qled qs ++ ((e, oe) :: (it, oi) :: (tups ++ news)))) F (fun p hp => N p ?_) (fun p hp => ?_) (fun h' F' N' _ => h h' F' fun p hp => N' p ?_) (by simpa using Nat.le_trans hz (by decide))
  · simp only [dueL, List.mem_cons, List.mem_append] at hp ⊢
    rcases hp with h | h | h | h | h | h | h
    · exact .inr (.inr (.inl h))
    · exact .inl h
    · exact .inr (.inl h)
    · exact .inr (.inr (.inr (.inl h)))
    · exact .inr (.inr (.inr (.inr (.inl h))))
    · exact .inr (.inr (.inr (.inr (.inr (.inl h)))))
    · exact .inr (.inr (.inr (.inr (.inr (.inr h)))))
  · simp only [List.mem_cons, List.mem_append] at hp
    rcases hp with rfl | h | rfl | rfl | h | h
    · exact nd.1.1
    · obtain ⟨q, hq, rfl⟩ := List.mem_map.mp h
      exact fun z => nd.2.1.2.2 (List.mem_map.mpr ⟨q, hq, z⟩)
    · exact Ne.symm nd.2.1.1
    · exact Ne.symm nd.2.1.2.1
    · have := hB p h
      exact fun z => absurd (z ▸ this) (Nat.not_le_of_lt hD)
    · exact fun z => G.old p h (z ▸ .tail _ (.head _))
  · have e1 : (vs ++ [v]).toArray = vs.toArray.push v := by simp
    simp only [dueL, e1, List.mem_cons, List.mem_append] at hp ⊢
    rcases hp with h | h | h | h | h | h | h
    · exact .inr (.inl h)
    · exact .inr (.inr (.inl h))
    · exact .inl h
    · exact .inr (.inr (.inr (.inl h)))
    · exact .inr (.inr (.inr (.inr (.inl h))))
    · exact .inr (.inr (.inr (.inr (.inr (.inl h)))))
    · exact .inr (.inr (.inr (.inr (.inr (.inr h)))))
theorem qvals_push {qs : List Que} {j : Nat} {q : Que} {x : Ent} (hq : qs[j]? = some q) : qvals (pushQ qs j q x) = qvals qs := by
  conv => rhs; rw [qled_split hq]
  simp only [qvals, pushQ, List.map_append, List.map_cons]
theorem qadr_push {qs : List Que} {j : Nat} {q : Que} {x : Ent} (hq : qs[j]? = some q) : (pushQ qs j q x).map (·.a) = qs.map (·.a) := by
  conv => rhs; rw [qled_split hq]
  simp only [pushQ, List.map_append, List.map_cons]
theorem que_append {j : Nat} {q : Que} {x : Ent} {Q : Value → Shared → Prop} (hq : qs[j]? = some q) (F : Fr g L s.heap m) (N : News g L s.heap (dueL QQ nq qs DD vs k e oe it oi tups news)) (G : Ground (QQ :: DD :: e :: it :: qs.map (·.a)) B news) (hB : ∀ p ∈ tups, B ≤ p.1) (hz : q.xs.length ≤ 1000)
    (h : ∀ h', Fr g L h' m → News g L h' (dueL QQ nq (pushQ qs j q x) DD vs k e oe it oi tups news) → Q .none { s with heap := h' }) : wpAny (model prog w) A (call (.builtin "list.append") [.ref q.a, .ref x.a]) Q E s := by
  have nd := G.nd
  simp only [List.nodup_cons, List.mem_cons, not_or] at nd
  have hqm : q ∈ qs := List.mem_of_getElem? hq
  have hqa : q.a ∈ qs.map (·.a) := List.mem_map.mpr ⟨q, hqm, rfl⟩
  have hD : q.a < B := G.hi q.a (.tail _ (.tail _ (.tail _ (.tail _ hqa))))
  have hne := que_ne hq nd.2.2.2.2
  have e1 : qled qs = qled (qs.take j) ++ (q.a, hO q.xs q.n) :: qled (qs.drop (j + 1)) := by
    conv => lhs; rw [qled_split hq]
    simp [qled]
  refine append_item (e := x) (H := q.a) (xs := q.xs) (n := q.n) (rest := qled (qs.take j) ++ (qled (qs.drop (j + 1)) ++ ((QQ, listOf (qvals qs).toArray nq) :: (DD, listOf vs.toArray k) :: (e, oe) :: (it, oi) :: (tups ++ news)))) F (fun p hp => N p ?_) (fun p hp => ?_) hz (fun h' F' N' => h h' F' fun p hp => N' p ?_)
  · simp only [dueL, e1, List.mem_cons, List.mem_append] at hp ⊢
    rcases hp with h | h | h | h | h | h | h | h | h
    · exact .inr (.inl (.inr (.inl h)))
    · exact .inr (.inl (.inl h))
    · exact .inr (.inl (.inr (.inr h)))
    · exact .inl h
    · exact .inr (.inr (.inl h))
    · exact .inr (.inr (.inr (.inl h)))
    · exact .inr (.inr (.inr (.inr (.inl h))))
    · exact .inr (.inr (.inr (.inr (.inr (.inl h)))))
    · exact .inr (.inr (.inr (.inr (.inr (.inr h)))))
  · simp only [List.mem_cons, List.mem_append] at hp
    rcases hp with h | h | rfl | rfl | rfl | rfl | h | h
    · obtain ⟨q', hq', rfl⟩ := List.mem_map.mp h
      exact hne.1 q' hq'
    · obtain ⟨q', hq', rfl⟩ := List.mem_map.mp h
      exact hne.2 q' hq'
    · exact fun z => nd.1.2.2.2 ((show QQ = q.a from z).symm ▸ hqa)
    · exact fun z => nd.2.1.2.2 ((show DD = q.a from z).symm ▸ hqa)
    · exact fun z => nd.2.2.1.2 ((show e = q.a from z).symm ▸ hqa)
    · exact fun z => nd.2.2.2.1 ((show it = q.a from z).symm ▸ hqa)
    · have := hB p h
      exact fun z => absurd (z ▸ this) (Nat.not_le_of_lt hD)
    · exact fun z => G.old p h (z ▸ .tail _ (.tail _ (.tail _ (.tail _ hqa))))
  · have e2 : qled (pushQ qs j q x) = qled (qs.take j) ++ (q.a, hO (q.xs ++ [x]) (q.n + 1)) :: qled (qs.drop (j + 1)) := by simp [qled, pushQ]
    simp only [dueL, qvals_push hq, e2, List.mem_cons, List.mem_append] at hp ⊢
    rcases hp with h | (h | h | h) | h | h | h | h | h
    · exact .inr (.inr (.inr (.inl h)))
    · exact .inr (.inl h)
    · exact .inl h
    · exact .inr (.inr (.inl h))
    · exact .inr (.inr (.inr (.inr (.inl h))))
    · exact .inr (.inr (.inr (.inr (.inr (.inl h)))))
    · exact .inr (.inr (.inr (.inr (.inr (.inr (.inl h))))))
    · exact .inr (.inr (.inr (.inr (.inr (.inr (.inr (.inl h)))))))
    · exact .inr (.inr (.inr (.inr (.inr (.inr (.inr (.inr h)))))))
/-- a new tuple takes its place in the ledger -/
theorem due_tuple {h' : Heap} {x : Ent} (N : News g L h' ((x.a, tupO x) :: dueL QQ nq qs DD vs k e oe it oi tups news)) : News g L h' (dueL QQ nq qs DD vs k e oe it oi ((x.a, tupO x) :: tups) news) := fun p hp => N p (by
  simp only [dueL, List.cons_append, List.mem_cons, List.mem_append] at hp ⊢
  rcases hp with h | h | h | h | h | h | h | h
  · exact .inr (.inl h)
  · exact .inr (.inr (.inl h))
  · exact .inr (.inr (.inr (.inl h)))
  · exact .inr (.inr (.inr (.inr (.inl h))))
  · exact .inr (.inr (.inr (.inr (.inr (.inl h)))))
  · exact .inl h
  · exact .inr (.inr (.inr (.inr (.inr (.inr (.inl h))))))
  · exact .inr (.inr (.inr (.inr (.inr (.inr (.inr h)))))))
theorem ground_due {h : Heap} {o : Obj} (N : News g L h ((e, oe) :: (it, oi) :: (DD, o) :: (QQ, listOf (qvals qs).toArray nq) :: (qled qs ++ news))) (hl : 0 < qs.length) (hb : ∀ q ∈ qs, q.xs = [] ∧ q.n = 0) (hqn : (qs.map (·.a)).Nodup) (h1 : ∀ p ∈ news, p.1 < QQ)
    (h2 : ∀ q ∈ qs, ∀ p ∈ news, p.1 < q.a) (h3 : ∀ p ∈ (QQ, listOf (qvals qs).toArray nq) :: (qled qs ++ news), p.1 < DD) (h4 : e ≠ it) (h5 : ∀ p ∈ (DD, o) :: (QQ, listOf (qvals qs).toArray nq) :: (qled qs ++ news), p.1 ≠ e ∧ p.1 ≠ it) :
    Ground (QQ :: DD :: e :: it :: qs.map (·.a)) (topA (QQ :: DD :: e :: it :: qs.map (·.a))) news := by
  have hqm : ∀ a ∈ qs.map (·.a), ∃ q ∈ qs, q.a = a ∧ (a, hO q.xs q.n) ∈ qled qs := fun a ha => by
    obtain ⟨q, hq, rfl⟩ := List.mem_map.mp ha
    exact ⟨q, hq, rfl, List.mem_map.mpr ⟨q, hq, rfl⟩⟩
  refine ⟨?_, lt_topA, fun p hp hm => ?_⟩
  · simp only [List.nodup_cons, List.mem_cons, not_or]
    refine ⟨⟨Nat.ne_of_lt (h3 _ (.head _)), (h5 _ (.tail _ (.head _))).1, (h5 _ (.tail _ (.head _))).2, fun hm => ?_⟩, ⟨(h5 _ (.head _)).1, (h5 _ (.head _)).2, fun hm => ?_⟩, ⟨h4, fun hm => ?_⟩, fun hm => ?_, hqn⟩
    · obtain ⟨q, hq, e1, hm'⟩ := hqm _ hm
      have a1 := (N (QQ, hO q.xs q.n) (.tail _ (.tail _ (.tail _ (.tail _ (List.mem_append_left _ hm')))))).1
      have a2 := (N (QQ, listOf (qvals qs).toArray nq) (.tail _ (.tail _ (.tail _ (.head _))))).1
      rw [(hb q hq).1, (hb q hq).2, a2] at a1
      have a3 := Option.some.inj a1
      have a4 : (qvals qs).toArray = (vals []).toArray := by
        have := congrArg Obj.data a3
        injection this
      have a5 := congrArg Array.size a4
      simp [qvals, vals] at a5
      subst a5
      exact absurd hl (Nat.lt_irrefl _)
    · obtain ⟨q, hq, e1, hm'⟩ := hqm _ hm
      exact Nat.lt_irrefl _ (h3 _ (.tail _ (List.mem_append_left _ hm')))
    · obtain ⟨q, hq, e1, hm'⟩ := hqm _ hm
      exact (h5 _ (.tail _ (.tail _ (List.mem_append_left _ hm')))).1 rfl
    · obtain ⟨q, hq, e1, hm'⟩ := hqm _ hm
      exact (h5 _ (.tail _ (.tail _ (List.mem_append_left _ hm')))).2 rfl
  · simp only [List.mem_cons] at hm
    have h5' := h5 p (.tail _ (.tail _ (List.mem_append_right _ hp)))
    rcases hm with hm | hm | hm | hm | hm
    · have := h1 p hp; rw [hm] at this; exact Nat.lt_irrefl _ this
    · have := h3 p (.tail _ (List.mem_append_right _ hp)); rw [hm] at this; exact Nat.lt_irrefl _ this
    · exact h5'.1 hm
    · exact h5'.2 hm
    · obtain ⟨q, hq, e1, _⟩ := hqm _ hm
      have := h2 q hq p hp
      rw [e1] at this; exact Nat.lt_irrefl _ this
theorem due_start {h' : Heap} (N : News g L h' ((e, oe) :: (it, oi) :: (QQ, listOf (qvals qs).toArray nq) :: (DD, listOf vs.toArray k) :: (qled qs ++ (tups ++ news)))) : News g L h' (dueL QQ nq qs DD vs k e oe it oi tups news) := fun p hp => N p (by
  simp only [dueL, List.mem_cons, List.mem_append] at hp ⊢
  rcases hp with h | h | h | h | h | h | h
  · exact .inr (.inr (.inl h))
  · exact .inr (.inr (.inr (.inr (.inl h))))
  · exact .inr (.inr (.inr (.inl h)))
  · exact .inl h
  · exact .inr (.inl h)
  · exact .inr (.inr (.inr (.inr (.inr (.inl h)))))
  · exact .inr (.inr (.inr (.inr (.inr (.inr h))))))
theorem due_end {h' : Heap} (N : News g L h' (dueL QQ nq qs DD vs k e oe it oi tups news)) : News g L h' ((e, oe) :: (it, oi) :: (QQ, listOf (qvals qs).toArray nq) :: (DD, listOf vs.toArray k) :: (qled qs ++ (tups ++ news))) := fun p hp => N p (by
  simp only [dueL, List.mem_cons, List.mem_append] at hp ⊢
  rcases hp with h | h | h | h | h | h | h
  · exact .inr (.inr (.inr (.inl h)))
  · exact .inr (.inr (.inr (.inr (.inl h))))
  · exact .inl h
  · exact .inr (.inr (.inl h))
  · exact .inr (.inl h)
  · exact .inr (.inr (.inr (.inr (.inr (.inl h)))))
  · exact .inr (.inr (.inr (.inr (.inr (.inr h))))))
theorem code_lo (n : Int) : -8 ≤ codeG n := by
  have := drawn_lo n
  unfold codeG
  split <;> omega
theorem code_hi (n : Int) : codeG n ≤ 263 := by
  have := drawn_hi n
  unfold codeG
  split <;> omega
theorem gmap {qa : List Addr} (h : qs.map (·.a) = qa) (G : Ground (QQ :: DD :: e :: it :: qa) B news) : Ground (QQ :: DD :: e :: it :: qs.map (·.a)) B news := h.symm ▸ G
theorem due_new {qa : List Addr} {D : Nat} (ha : qs.map (·.a) = qa) (hD : ∀ p ∈ dueL QQ nq qs DD vs k e oe it oi tups news, p.1 < D) : topA (QQ :: DD :: e :: it :: qa) ≤ D := by
  subst ha
  refine topA_le fun a h => ?_
  simp only [List.mem_cons] at h
  rcases h with rfl | rfl | rfl | rfl | h
  · exact hD (_, listOf (qvals qs).toArray nq) (.head _)
  · exact hD (_, listOf vs.toArray k) (.tail _ (List.mem_append_right _ (.head _)))
  · exact hD (_, oe) (.tail _ (List.mem_append_right _ (.tail _ (.head _))))
  · exact hD (_, oi) (.tail _ (List.mem_append_right _ (.tail _ (.tail _ (.head _)))))
  · obtain ⟨q, hq, rfl⟩ := List.mem_map.mp h
    exact hD (q.a, hO q.xs q.n) (.tail _ (List.mem_append_left _ (List.mem_map.mpr ⟨q, hq, rfl⟩)))
theorem due_make {E : Value → Shared → Prop} {qa : List Addr} {t p z : Int} {tt tp : Tok} {x : Value} {Q : Value → Shared → Prop} (F : Fr g L s.heap m) (N : News g L s.heap (dueL QQ nq qs DD vs k e oe it oi tups news)) (ha : qs.map (·.a) = qa) (hx : IsThing z x)
    (h : ∀ (X : Ent) h', X.t = t → X.p = p → IsThing z X.x → topA (QQ :: DD :: e :: it :: qa) ≤ X.a → Fr g L h' m → News g L h' (dueL QQ nq qs DD vs k e oe it oi ((X.a, tupO X) :: tups) news) → Q (.ref X.a) { s with heap := h' }) :
    wpAny (model prog w) A (newTuple [.int t tt, .int p tp, x]) Q E s :=
  newTuple_N F N fun h' F' N' => h ⟨s.heap.objs.size, t, tt, p, tp, x⟩ h' rfl rfl hx (due_new ha fun q hq => Heap.lt_size (N q hq).1) F' (due_tuple (x := ⟨s.heap.objs.size, t, tt, p, tp, x⟩) N')
theorem size_of {ns : List (Int × Tok)} {z i i' : Nat} {qa : List Addr} {S : List Key} (h : DueQ ns z i qa qs tups S) (f : Fine i' S) {q : Que} (hq : q ∈ qs) : q.xs.length ≤ i' := by
  have h1 := mem_flat hq
  rw [h.keys] at h1
  exact Nat.le_trans h1 f.len
theorem ent_le {x : Ent} (h : ∀ p ∈ tups, B ≤ p.1) (hx : B ≤ x.a) : ∀ p ∈ (x.a, tupO x) :: tups, B ≤ p.1 := fun p hp => by
  rcases List.mem_cons.mp hp with rfl | hp
  · exact hx
  · exact h p hp
theorem ne_ent {E : Value → Shared → Prop} {led : List (Addr × Obj)} {n : Int} {x : Ent} {t : Tok} {Q : Value → Shared → Prop} (N : News g L s.heap led) (hm : (x.a, tupO x) ∈ led) (hx : IsThing n x.x) (hu : A.units + 64 < cLine) (h : Q (.bool true) s) :
    wpAny (model prog w) A (compareOp .NotEq (.ref x.a) (.str (Str.ofString "nothing there") t)) Q E s := by
  have hD : DatIn led (.ref x.a) (.tuple [.int x.t, .int x.p, thingD n]) := .tuple hm (.cons (.int _ _) (.cons (.int _ _) (.cons hx.dat .nil)))
  have ok := datA_ok [n] (.ent (x.t, 0))
  have ok1 : kqdOk 7 (thingD n) = true := by
    have : (List.all [Dat.int x.t, Dat.int 0, thingD n] (kqdOk 7)) = true := ok
    simp only [List.all_cons, List.all_nil, Bool.and_true, Bool.and_eq_true] at this
    exact this.2.2
  have ok2 : kqdOk 8 (.tuple [.int x.t, .int x.p, thingD n]) = true := by
    show (List.all [Dat.int x.t, Dat.int x.p, thingD n] (kqdOk 7)) = true
    simp only [List.all_cons, ok1, List.all_nil]
    rfl
  obtain ⟨as, ra⟩ := kqd_in N 8 hD ok2
  have la := kqd_lay 8 _ ok2
  refine ne_dataH ra (Reads.str _ _) ?_ ?_ hu ?_
  · unfold SeqAt.shaped; rw [la.1, Bool.true_and]; exact decide_eq_true (Nat.le_trans la.2 (by decide))
  · decide +kernel
  · exact h
end
end Mine
end

section
open PySem PySem.W PyProof.Rows PySem.Spec PySem.Calls
set_option maxRecDepth 100000
namespace Mine
section
variable {prog : Program} {w : World} {A : Around} {E : Value → Shared → Prop} {s : Shared} {g : Heap} {L a : Addr} {m : Str → Option Value} {news : List (Addr × Obj)} {cn : Str} {cs : Scope} {ccd : Value} {cl : List (Str × Addr)} {env : Env}
/-- an expression's int in a pair of written ints -/
theorem in2 {l : PySem.Expr} {c d : Int} {k1 k2 x1 : Nat} {p2 p3 p4 p5 : Pos} {whole : Sem Value} {Q : Bool → Shared → Prop}
    (h : wpAny (model prog w) A (eval l env) (fun v s₁ => ∃ k t g L m news, v = .int k t ∧ Fr g L s₁.heap m ∧ News g L s₁.heap news ∧ ∀ h' tk', Fr g L h' m → News g L h' news → Q ([c, d].any (· == k)) { s₁ with heap := h', toks := tk' }) E s) :
    wpAny (model prog w) A (isTrue (.Compare l [.In] [.Tuple [.Constant (.int c) k1 p2, .Constant (.int d) k2 p3] x1 p4] p5) env whole) Q E s := by
  refine wpAny_isTrue_Compare1 (wpAny_mono h (fun v s₁ hv => ?_) fun _ _ x => x)
  obtain ⟨k, t, g, L, m, news, rfl, F, N, hQ⟩ := hv
  refine Tuple_ (args_cons (wpAny_Constant_int (args_cons (wpAny_Constant_int (args_nil ?_)))))
  refine newTuple_N F N fun h' F' N' => ?_
  refine in_tuple_ints ⟨_, (N' _ (.head _)).1, rfl, _, rfl⟩ (IntsAre.cons _ _ (IntsAre.cons _ _ .nil)) (wpAny_truthy_bool ?_)
  exact hQ _ _ F' fun p hp => N' p (.tail _ hp)
theorem in3 {l : PySem.Expr} {c d e : Int} {k1 k2 k3 x1 : Nat} {p2 p3 p4 p5 p6 : Pos} {whole : Sem Value} {Q : Bool → Shared → Prop}
    (h : wpAny (model prog w) A (eval l env) (fun v s₁ => ∃ k t g L m news, v = .int k t ∧ Fr g L s₁.heap m ∧ News g L s₁.heap news ∧ ∀ h' tk', Fr g L h' m → News g L h' news → Q ([c, d, e].any (· == k)) { s₁ with heap := h', toks := tk' }) E s) :
    wpAny (model prog w) A (isTrue (.Compare l [.In] [.Tuple [.Constant (.int c) k1 p2, .Constant (.int d) k2 p3, .Constant (.int e) k3 p6] x1 p4] p5) env whole) Q E s := by
  refine wpAny_isTrue_Compare1 (wpAny_mono h (fun v s₁ hv => ?_) fun _ _ x => x)
  obtain ⟨k, t, g, L, m, news, rfl, F, N, hQ⟩ := hv
  refine Tuple_ (args_cons (wpAny_Constant_int (args_cons (wpAny_Constant_int (args_cons (wpAny_Constant_int (args_nil ?_)))))))
  refine newTuple_N F N fun h' F' N' => ?_
  refine in_tuple_ints ⟨_, (N' _ (.head _)).1, rfl, _, rfl⟩ (IntsAre.cons _ _ (IntsAre.cons _ _ (IntsAre.cons _ _ .nil))) (wpAny_truthy_bool ?_)
  exact hQ _ _ F' fun p hp => N' p (.tail _ hp)
theorem nin2 {x : Str} {c d k : Int} {t : Tok} {k1 k2 x1 : Nat} {p1 p2 p3 p4 p5 : Pos} {whole : Sem Value} {Q : Bool → Shared → Prop} (b : Bool) (F : Fr g L s.heap m) (N : News g L s.heap news) (hv : m x = some (.int k t)) (hb : [c, d].any (· == k) = b)
    (h : ∀ h' tk', Fr g L h' m → News g L h' news → Q b { s with heap := h', toks := tk' })
    (hk : cs.kind = .function := by rfl) (hx : (envX cn cs L a ccd cl).kindOf x = some .local := by rfl) (hd : (x == ("__debug__" : Str)) = false := by decide) :
    wpAny (model prog w) A (isTrue (.Compare (.Name x p1) [.In] [.Tuple [.Constant (.int c) k1 p2, .Constant (.int d) k2 p3] x1 p4] p5) (envX cn cs L a ccd cl) whole) Q E s :=
  in2 (nameX_L F hv ⟨k, t, g, L, m, news, rfl, F, N, fun h' tk' F' N' => hb ▸ h h' tk' F' N'⟩ hk hx hd)
theorem nin3 {x : Str} {c d e k : Int} {t : Tok} {k1 k2 k3 x1 : Nat} {p1 p2 p3 p4 p5 p6 : Pos} {whole : Sem Value} {Q : Bool → Shared → Prop} (b : Bool) (F : Fr g L s.heap m) (N : News g L s.heap news) (hv : m x = some (.int k t)) (hb : [c, d, e].any (· == k) = b)
    (h : ∀ h' tk', Fr g L h' m → News g L h' news → Q b { s with heap := h', toks := tk' })
    (hk : cs.kind = .function := by rfl) (hx : (envX cn cs L a ccd cl).kindOf x = some .local := by rfl) (hd : (x == ("__debug__" : Str)) = false := by decide) :
    wpAny (model prog w) A (isTrue (.Compare (.Name x p1) [.In] [.Tuple [.Constant (.int c) k1 p2, .Constant (.int d) k2 p3, .Constant (.int e) k3 p6] x1 p4] p5) (envX cn cs L a ccd cl) whole) Q E s :=
  in3 (nameX_L F hv ⟨k, t, g, L, m, news, rfl, F, N, fun h' tk' F' N' => hb ▸ h h' tk' F' N'⟩ hk hx hd)
theorem neq1 {x : Str} {c k : Int} {t : Tok} {k1 : Nat} {p1 p2 p5 : Pos} {whole : Sem Value} {Q : Bool → Shared → Prop} (b : Bool) (F : Fr g L s.heap m) (hv : m x = some (.int k t)) (hb : (k == c) = b)
    (h : ∀ tk', Q b { s with toks := tk' })
    (hk : cs.kind = .function := by rfl) (hx : (envX cn cs L a ccd cl).kindOf x = some .local := by rfl) (hd : (x == ("__debug__" : Str)) = false := by decide) :
    wpAny (model prog w) A (isTrue (.Compare (.Name x p1) [.Eq] [.Constant (.int c) k1 p2] p5) (envX cn cs L a ccd cl) whole) Q E s := by
  refine wpAny_isTrue_Compare1 (nameX_L F hv (wpAny_Constant_int (eq_int ?_)) hk hx hd)
  exact wpAny_truthy_bool (by rw [hb]; exact h _)
/-- the place's rest by six, in two and five -/
theorem min25 {n : Int} {tn : Tok} {k1 k2 k3 x1 : Nat} {x : Str} {p1 p2 p3 p4 p5 p6 p7 : Pos} {whole : Sem Value} {Q : Bool → Shared → Prop} (b : Bool) (F : Fr g L s.heap m) (N : News g L s.heap news) (hv : m x = some (.int n tn)) (hb : [2, 5].any (· == n % 6) = b)
    (h : ∀ h' tk', Fr g L h' m → News g L h' news → Q b { s with heap := h', toks := tk' })
    (hk : cs.kind = .function := by rfl) (hx : (envX cn cs L a ccd cl).kindOf x = some .local := by rfl) (hd : (x == ("__debug__" : Str)) = false := by decide) :
    wpAny (model prog w) A (isTrue (.Compare (.BinOp (.Name x p1) .Mod (.Constant (.int 6) k3 p6) p7) [.In] [.Tuple [.Constant (.int 2) k1 p2, .Constant (.int 5) k2 p3] x1 p4] p5) (envX cn cs L a ccd cl) whole) Q E s := by
  refine in2 (wpAny_BinOp (nameX_L F hv (wpAny_Constant_int (mod_int (by decide) ?_)) hk hx hd))
  rw [Int.fmod_eq_emod_of_nonneg _ (by decide)]
  exact ⟨_, _, g, L, m, news, rfl, F, N, fun h' tk' F' N' => hb ▸ h h' tk' F' N'⟩
theorem yes25 {n : Int} (h : [2, 5].any (· == n % 6) = true) : n % 6 = 2 ∨ n % 6 = 5 := by
  simp at h; omega
theorem no25 {n : Int} (h : [2, 5].any (· == n % 6) = false) : n % 6 < 2 ∨ n % 6 = 3 ∨ n % 6 = 4 := by
  simp at h; omega
theorem are25 (n : Int) : [2, 5].any (· == n % 6) = true ∨ [2, 5].any (· == n % 6) = false := by
  cases [2, 5].any (· == n % 6)
  · exact .inr rfl
  · exact .inl rfl
theorem five (n : Int) : n % 6 < 2 ∨ n % 6 = 2 ∨ n % 6 = 3 ∨ n % 6 = 4 ∨ n % 6 = 5 := by omega
theorem no23 {n : Int} (h : n % 6 < 2) : [2, 3].any (· == n % 6) = false := by simp; omega
theorem yes014 {n : Int} (h : n % 6 < 2) : [0, 1, 4].any (· == n % 6) = true := by simp; omega
theorem no4 {n : Int} (h : n % 6 < 2) : (n % 6 == 4) = false := by simp; omega
end
end Mine
end

section
open PySem PySem.W PyProof.Rows PySem.Spec PySem.Calls
set_option maxRecDepth 100000
set_option maxHeartbeats 8000000
namespace Mine
/-- the names that a turn changes -/
abbrev dueM (u1 u2 u3 u4 u5 : Option Value) (m₀ : Str → Option Value) : Str → Option Value := fun y => if y = Str.ofString "number" then u1 else if y = Str.ofString "place" then u2 else if y = Str.ofString "turn" then u3 else if y = Str.ofString "gone" then u4 else if y = Str.ofString "kind" then u5 else m₀ y
theorem dueM_of {m m₀ : Str → Option Value} (h : ∀ z, z ≠ Str.ofString "number" → z ≠ Str.ofString "place" → z ≠ Str.ofString "turn" → z ≠ Str.ofString "gone" → z ≠ Str.ofString "kind" → m z = m₀ z) : ∃ u1 u2 u3 u4 u5, m = dueM u1 u2 u3 u4 u5 m₀ := ⟨_, _, _, _, _, funext (same_of h)⟩
def DueK (g₀ : Heap) (js ns : List (Int × Tok)) (m₀ : Str → Option Value) (QQ DD : Addr) (nq : Nat) (qa : List Addr) (B : Nat) (news : List (Addr × Obj)) (i : Nat) (g : Heap) (m : Str → Option Value) (led : List (Addr × Obj)) : Prop :=
  g = g₀ ∧ (∃ u1 u2 u3 u4 u5, m = dueM u1 u2 u3 u4 u5 m₀) ∧ ∃ qs vs k tups, led = (QQ, listOf (qvals qs).toArray nq) :: (DD, listOf vs.toArray k) :: (qled qs ++ (tups ++ news)) ∧ DueI js ns i qa B qs vs tups
theorem news_drop {g h : Heap} {L a : Addr} {d : Data} {r : List (Addr × Obj)} (N : News g L h ((a, { cls := .type "tuple", data := d }) :: r)) : News g L h r := fun p hp => N p (List.Mem.tail _ hp)
theorem Tell.mono {w : World} {mean : ExcName → Option Value} {mg mb : Str → Option Value} {f : Addr} {args : List Value} {news : List (Addr × Obj)} {dn un' : Nat} {P P' : Value → List (Addr × Obj) → Prop} (C : Tell w mean mg mb f args news dn un' P) (h : ∀ r n, P r n → P' r n) : Tell w mean mg mb f args news dn un' P' := by
  unfold Tell at *
  intro dp un gd cn cs a ccd cl outer A₀ base h₀ L m s Q E x1 x2 x3 x4 x5 x6 x7 x8 x9
  exact C dp un gd cn cs a ccd cl outer A₀ base h₀ L m s Q E x1 x2 x3 x4 x5 x6 x7 x8 fun r news' h' tk' y1 y2 y3 => x9 r news' h' tk' y1 y2 (h r news' y3)
theorem front2_ {w : World} {mean : ExcName → Option Value} {mg mb : Str → Option Value} {QQ : Addr} {qs : List Que} {nq : Nat} {rest : List (Addr × Obj)} (hq : (qs.map (·.a)).Nodup) (hQ : ∀ q ∈ qs, q.a ≠ QQ) (hR : ∀ p ∈ rest, ∀ q ∈ qs, p.1 ≠ q.a) (hz : ∀ q ∈ qs, q.xs.length ≤ 1000) (hz2 : qs.length ≤ 1000) :
   Tell w mean mg mb 220 [.ref QQ] ((QQ, listOf (qvals qs).toArray nq) :: (qled qs ++ rest)) 4 16 (fun r news' => (frontG qs = none ∧ (∃ t, r = .str (Str.ofString "nothing there") t) ∧ news' = (QQ, listOf (qvals qs).toArray nq) :: (qled qs ++ rest)) ∨
     (∃ e qs', frontG qs = some (e, qs') ∧ r = .ref e.a ∧ news' = (QQ, listOf (qvals qs').toArray nq) :: (qled qs' ++ rest))) := by
  refine (front_ hq hQ hR hz hz2).mono fun r n h => ?_
  have hk := front_keys qs
  cases hf : frontG qs with
  | none => rw [hf] at h; exact .inl ⟨rfl, h⟩
  | some p =>
    rw [hf] at h hk
    refine .inr ⟨p.1, p.2, rfl, h.1, h.2.trans ?_⟩
    have : qvals qs = qvals p.2 := by
      have h2 := congrArg (List.map Value.ref) hk.2.1
      simp only [List.map_map] at h2
      exact h2.symm
    rw [this]
theorem hadr_due {js ns : List (Int × Tok)} {i B : Nat} {QQ DD e it : Addr} {qa : List Addr} {qs : List Que} {vs : List Value} {tups news : List (Addr × Obj)} {o1 o2 : Obj} (G : Ground (QQ :: DD :: e :: it :: qa) B news) (hI : DueI js ns i qa B qs vs tups) :
    ∀ p ∈ (QQ, o1) :: (DD, o2) :: (qled qs ++ (tups ++ news)), p.1 ≠ e ∧ p.1 ≠ it := by
  have nd := G.nd
  simp only [List.nodup_cons, List.mem_cons, not_or] at nd
  intro p hp
  simp only [List.mem_cons, List.mem_append] at hp
  rcases hp with rfl | rfl | h | h | h
  · exact ⟨nd.1.2.1, nd.1.2.2.1⟩
  · exact ⟨nd.2.1.1, nd.2.1.2.1⟩
  · obtain ⟨q, hq, rfl⟩ := List.mem_map.mp h
    have hm : q.a ∈ qa := hI.q.adr ▸ List.mem_map.mpr ⟨q, hq, rfl⟩
    exact ⟨fun z => nd.2.2.1.2 ((show q.a = e from z) ▸ hm), fun z => nd.2.2.2.1 ((show q.a = it from z) ▸ hm)⟩
  · have h1 := hI.hi p h
    have h2 := G.hi e (.tail _ (.tail _ (.head _)))
    have h3 := G.hi it (.tail _ (.tail _ (.tail _ (.head _))))
    exact ⟨fun z => absurd (z ▸ h1) (Nat.not_le_of_lt h2), fun z => absurd (z ▸ h1) (Nat.not_le_of_lt h3)⟩
  · have h1 := G.old p h
    exact ⟨fun z => h1 (z ▸ .tail _ (.tail _ (.head _))), fun z => h1 (z ▸ .tail _ (.tail _ (.tail _ (.head _))))⟩
theorem adr_front {ns : List (Int × Tok)} {z i : Nat} {qa : List Addr} {qs qs' : List Que} {tups : List (Addr × Obj)} {S : List Key} {e : Ent} (h : DueQ ns z i qa qs tups S) (hf : frontG qs = some (e, qs')) : qs'.map (·.a) = qa := by
  obtain ⟨_, _, z8, _⟩ := h.front hf
  exact z8.adr
theorem due_apart {QQ DD e it : Addr} {oe oi o2 : Obj} {B : Nat} {qs : List Que} {tups news : List (Addr × Obj)} (G : Ground (QQ :: DD :: e :: it :: qs.map (·.a)) B news) (hB : ∀ p ∈ tups, B ≤ p.1) :
    ∀ p ∈ (DD, o2) :: (e, oe) :: (it, oi) :: (tups ++ news), ∀ q ∈ qs, p.1 ≠ q.a := by
  have nd := G.nd
  simp only [List.nodup_cons, List.mem_cons, not_or] at nd
  intro p hp q hq
  have hm : q.a ∈ qs.map (·.a) := List.mem_map.mpr ⟨q, hq, rfl⟩
  simp only [List.mem_cons, List.mem_append] at hp
  rcases hp with rfl | rfl | rfl | h | h
  · exact fun z => nd.2.1.2.2 ((show DD = q.a from z).symm ▸ hm)
  · exact fun z => nd.2.2.1.2 ((show e = q.a from z).symm ▸ hm)
  · exact fun z => nd.2.2.2.1 ((show it = q.a from z).symm ▸ hm)
  · have h1 := hB p h
    have h2 := G.hi q.a (.tail _ (.tail _ (.tail _ (.tail _ hm))))
    exact fun z => absurd (z ▸ h1) (Nat.not_le_of_lt h2)
  · exact fun z => G.old p h (z ▸ .tail _ (.tail _ (.tail _ (.tail _ hm))))
theorem due_fin {g : Heap} {js ns : List (Int × Tok)} {m₀ m9 mm : Str → Option Value} {QQ DD NS e it L : Addr} {nq k i B : Nat} {qa : List Addr} {news tups : List (Addr × Obj)} {s : Shared} {v : Value} {Q9 : Flow → Shared → Prop} {u1 u2 u3 u4 u5 : Option Value} {qs : List Que} {vs : List Value} {oi : Obj} {h : Heap} {tk : Nat}
    (hQ : EnumEnd L e it NS (DueK g js ns m₀ QQ DD nq qa B news) s v i = Q9) (hm : dueM u1 u2 u3 u4 u5 m₀ = m9) (F : Fr g L h mm) (hmm : ∀ z, z ≠ Str.ofString "number" → z ≠ Str.ofString "place" → z ≠ Str.ofString "turn" → z ≠ Str.ofString "gone" → z ≠ Str.ofString "kind" → mm z = m9 z)
    (N : News g L h (dueL QQ nq qs DD vs k e (enumO it ((i : Int) + 1) v) it oi tups news)) (hL : IsLI oi NS (i + 1)) (hI : DueI js ns (i + 1) qa B qs vs tups) : Q9 .next { s with heap := h, toks := tk } := by
  subst hQ
  refine ⟨.inl rfl, _, _, _, _, _, oi, rfl, F, due_end N, hL, rfl, dueM_of fun z z1 z2 z3 z4 z5 => ?_, _, _, _, _, rfl, hI⟩
  rw [hmm z z1 z2 z3 z4 z5, ← hm]
  simp only [dueM, if_neg z1, if_neg z2, if_neg z3, if_neg z4, if_neg z5]
section
theorem due_ {w : World} {mean : ExcName → Option Value} {mg mb : Str → Option Value} {J NS : Addr} {js ns : List (Int × Tok)} {nj nn : Nat} {news : List (Addr × Obj)} (hJ : (J, jO js nj) ∈ news) (hN : (NS, jO ns nn) ∈ news)
    (hjl : js.length ≤ 4) (hjr : ∀ p ∈ js, 0 ≤ p.1 ∧ p.1 < 15) (hnl : ns.length ≤ 100) :
   Tell w mean mg mb 225 [.ref J, .ref NS] news 20 160 (fun r news' => ∃ DD vs k tups, r = .ref DD ∧ (DD, listOf vs.toArray k) ∈ news' ∧ (∀ p ∈ news, p ∈ news') ∧ (∀ p ∈ tups, p ∈ news') ∧
     DatAll tups vs ((dueAt js ns ns.length).2.map (datA (numsOf ns)))) := by
  unfold Tell
  intro dp un gd cn cs ad ccd cl outer A₀ base h₀ L m s Q E B F X N T hk hd hu hret
  refine wpAny_call ?_
  k_dflt ktr_enter
  k_with_none
  k_with "exec For" => k_dflt refine for_any ?_
  k_with "exec For Tuple Call cons nil" => k_dflt refine for_any ?_
  k_with "EnumEnd" => refine hold ?_
  k_with "eval Call" => k_dflt refine Call_ ?_
  k_with "eval Call" => ((with_reducible show wpAny _ _ (eval (PySem.Expr.Call (PySem.Expr.Name _ _) [PySem.Expr.Name _ _] [] _) _) _ _ _); (with_reducible rename Fr _ _ _ _ => kF); k_dflt (refine' call1 kF ?k1 ?k2 ?k3 ?k4 ?k5 ?_; (case k1 => k_asm); (case k2 => k_asm); (case k3 => k_is); (case k4 => k_is); (case k5 => first | exact rfl | exact hq1); k_whole))
  k_with "call builtin:len" =>
    (rename News _ _ _ _ => lN)
    refine len_K (n := nj) lN (by (repeat (first | exact hJ | refine List.Mem.tail _ ?_))) (by simp only [jvals, List.size_toArray, List.length_map]; omega) ?_
  k_with "exec Assign cons ListComp" =>
    with_unfolding_all refine comp_assign (cl := []) ?hsw ?hclos ?hcell ?hkind ?hnames ?hy ?hp ?_
    (case hsw => with_unfolding_all rfl)
    (case hclos => with_unfolding_all rfl)
    (case hcell => decide +kernel)
    (case hkind => rfl)
    (case hnames => decide +kernel)
    (case hy => rfl)
    (case hp => rfl)
  k_with "pyIter ref" =>
    (rename IsRange _ _ _ _ _ _ _ _ => lR)
    (rename Fr _ _ _ _ => lF)
    (rename News _ _ _ _ => lN)
    rw [show (((jvals js).toArray.size : Nat) : Int) + 1 = ((js.length + 1 : Nat) : Int) by simp [jvals]] at lR
    refine iter_range lF lN lR (by omega) ?_
    clear lF lN lR
    intro it7 h7 F7 N7 hit7
  k_with "pyIter ref" =>
    (rename News _ _ _ _ => lN)
    refine iter_enum lN (List.Mem.head _) ?_
  k_with "Exists" =>
    refine ⟨_, _, _, _, F7, N7, loop_nils (by omega) (fun p hp => Nat.ne_of_lt (hit7 p hp)) rfl rfl rfl, ?_⟩
    (rintro QQ h9 tk9 ys9 nq led9 hlt9 F9 N9 ⟨qs, rfl, rfl, hql, hqb, hqn, hqa⟩)
    clear F7 N7
  k_with "newList" =>
    (rename Fr _ _ _ _ => lF)
    (rename News _ _ _ _ => lN)
    refine newList_A lF lN ?_
    clear lF lN
    intro DD h6 F6 N6 hDD
  k_with "call type:enumerate" =>
    (rename Fr _ _ _ _ => lF)
    (rename News _ _ _ _ => lN)
    refine enum_make (n := nn) lF lN (List.Mem.tail _ (List.Mem.tail _ (List.mem_append_right _ hN))) ?_
    clear lF lN
    intro e' it' oi' h' F' N' hI' hE' hA'
  k_with "ForAt" =>
    (rename Fr _ _ _ _ => lF)
    (rename News _ _ _ _ => lN)
    obtain ⟨B0, hB0, G0⟩ : ∃ B0, B0 = topA (QQ :: DD :: e' :: it' :: qs.map (·.a)) ∧ Ground (QQ :: DD :: e' :: it' :: qs.map (·.a)) B0 news := ⟨_, rfl, ground_due lN (by omega) hqb hqn (fun p hp => hlt9 p (List.Mem.tail _ hp)) hqa hDD hE' hA'⟩
    with_unfolding_all refine for_enum (items := (jvals ns).toArray) (DueK _ js ns _ QQ DD nq (qs.map (·.a)) B0 news) lF (led₀ := (QQ, listOf (qvals qs).toArray nq) :: (DD, listOf ([] : List Value).toArray 0) :: (qled qs ++ ([] ++ news))) (news_front2 lN ?mem) hI' ⟨rfl, dueM_of (fun _ _ _ _ _ _ => rfl), qs, [], 0, [], rfl, DueI.zero hql hqb⟩ hE' ?hl ?hadr ?turn ?done rfl rfl rfl rfl rfl
    (case' mem =>
      intro p hp
      simp only [List.nil_append, List.mem_cons, List.mem_append] at hp ⊢
      rcases hp with h | h | h | h | h | h
      · exact .inl h
      · exact .inr (.inl h)
      · exact .inr (.inr (.inr (.inl h)))
      · exact .inr (.inr (.inl h))
      · exact .inr (.inr (.inr (.inr (.inl h))))
      · exact .inr (.inr (.inr (.inr (.inr h)))))
    (case' hl =>
      rintro i g m led ⟨_, _, qs9, vs9, k9, tups9, rfl, _⟩
      exact ⟨nn, List.Mem.tail _ (List.Mem.tail _ (List.mem_append_right _ (List.mem_append_right _ hN)))⟩)
    (case' hadr =>
      rintro i g m led ⟨_, _, qs9, vs9, k9, tups9, rfl, hI9⟩
      exact hadr_due G0 hI9)
    (case' turn =>
      clear lF lN
      rintro i v g m led kH kTk kT oi9 hv ⟨rfl, ⟨u1, u2, u3, u4, u5, rfl⟩, qs9, vs9, k9, tups9, rfl, hI9⟩ kFr kNews hL9
      obtain ⟨n, tn, rfl, hn9, hi9⟩ := jvals_at hv
      have kN := due_start kNews
      clear kNews
      have G9 : Ground (QQ :: DD :: e' :: it' :: qs9.map (·.a)) B0 news := hI9.q.adr.symm ▸ G0
      have hlo9 := code_lo n
      have hhi9 := code_hi n
      have hlen9 := hI9.len
      have nd9 := G9.nd
      simp only [List.nodup_cons, List.mem_cons, not_or] at nd9
      (try dsimp only)
      (try k_fold)
      generalize hQ9 : EnumEnd _ _ _ _ _ _ _ _ = Q9
      generalize hm9 : dueM u1 u2 u3 u4 u5 _ = m9 at kFr
      have hq1 : m9 (Str.ofString "queues") = some (.ref QQ) := hm9 ▸ (by with_unfolding_all rfl)
      have hq2 : m9 (Str.ofString "due") = some (.ref DD) := hm9 ▸ (by with_unfolding_all rfl)
      have hq3 : m9 (Str.ofString "judges") = some (.ref J) := hm9 ▸ (by with_unfolding_all rfl)
      rcases five n with h6 | h6 | h6 | h6 | h6)
    (case' done =>
      clear lF lN
      rintro g m led kH kTk ⟨rfl, ⟨u1, u2, u3, u4, u5, rfl⟩, qs9, vs9, k9, tups9, rfl, hI9⟩ kFr kNews
      (try dsimp only))
  k_with "eval Name" =>
    (with_reducible show wpAny _ _ (eval (PySem.Expr.Name (PySem.Str.ofString "queues") _) _) _ _ _)
    (rename Fr _ _ _ _ => lF)
    with_unfolding_all refine nameX_L lF hq1 ?_
  k_with "eval Name" =>
    (with_reducible show wpAny _ _ (eval (PySem.Expr.Name (PySem.Str.ofString "due") _) _) _ _ _)
    (rename Fr _ _ _ _ => lF)
    with_unfolding_all refine nameX_L lF hq2 ?_
  k_with "eval Name" =>
    (with_reducible show wpAny _ _ (eval (PySem.Expr.Name (PySem.Str.ofString "judges") _) _) _ _ _)
    (rename Fr _ _ _ _ => lF)
    with_unfolding_all refine nameX_L lF hq3 ?_
  k_with "binaryOp Mod int int" => first | refine mod6 h6 ?_ | refine mod6 rfl ?_
  k_with "isTrue Compare" =>
    (with_reducible show wpAny _ _ (isTrue (PySem.Expr.Compare (PySem.Expr.Name _ _) [PySem.CmpOp.In] [PySem.Expr.Tuple [_, _] _ _] _) _ _) _ _ _)
    (rename Fr _ _ _ _ => lF)
    (rename News _ _ _ _ => lN)
    (first
      | with_unfolding_all refine nin2 false lF lN (by with_unfolding_all rfl) (by first | decide | exact no23 h6) ?_
      | with_unfolding_all refine nin2 true lF lN (by with_unfolding_all rfl) (by decide) ?_)
    clear lF lN
    intro h2 tk2 F2 N2
    (try dsimp only)
  k_with "isTrue Compare" =>
    (with_reducible show wpAny _ _ (isTrue (PySem.Expr.Compare (PySem.Expr.Name _ _) [PySem.CmpOp.In] [PySem.Expr.Tuple [_, _, _] _ _] _) _ _) _ _ _)
    (rename Fr _ _ _ _ => lF)
    (rename News _ _ _ _ => lN)
    (first
      | with_unfolding_all refine nin3 true lF lN (by with_unfolding_all rfl) (by first | decide | exact yes014 h6) ?_
      | with_unfolding_all refine nin3 false lF lN (by with_unfolding_all rfl) (by decide) ?_)
    clear lF lN
    intro h2 tk2 F2 N2
    (try dsimp only)
  k_with "isTrue Compare" =>
    (with_reducible show wpAny _ _ (isTrue (PySem.Expr.Compare (PySem.Expr.Name _ _) [PySem.CmpOp.Eq] [PySem.Expr.Constant (PySem.Const.int _) _ _] _) _ _) _ _ _)
    (rename Fr _ _ _ _ => lF)
    (first
      | with_unfolding_all refine neq1 false lF (by with_unfolding_all rfl) (by first | decide | exact no4 h6) ?_
      | with_unfolding_all refine neq1 true lF (by with_unfolding_all rfl) (by decide) ?_)
    intro tk2
    (try dsimp only)
  k_with "call ref" =>
    (rename News _ _ _ _ => lN)
    (repeat replace lN := news_drop lN)
    k_dflt refine' Tell.useE code_ ?k1 ?k2 ?k3 lN ?k5 ?kK ?kd ?ku ?_
    (case k1 => k_asm)
    (case k2 => k_asm)
    (case k3 => k_asm)
    (case k5 => k_asm)
    (case kK => exact rfl)
    (case kd => first | exact room1 hd rfl | ktr_room)
    (case ku => first | exact unit3 hu rfl | exact unit1 hu rfl | exact unit0 hu rfl | exact unit2 hu rfl | ktr_units)
    clear lN
    intro t5 h5 tk5 F5 N5
    (try dsimp only)
  k_with "call ref" =>
    (rename News _ _ _ _ => lN)
    (repeat replace lN := news_drop lN)
    k_dflt refine' Tell.useN thing_ ?k1 ?k2 ?k3 lN ?k5 ?kK ?kd ?ku ?_
    (case k1 => k_asm)
    (case k2 => k_asm)
    (case k3 => k_asm)
    (case k5 => k_asm)
    (case kK => exact rfl)
    (case kd => first | exact room1 hd rfl | ktr_room)
    (case ku => first | exact unit3 hu rfl | exact unit1 hu rfl | exact unit0 hu rfl | exact unit2 hu rfl | ktr_units)
    clear lN
    intro r5 h5 tk5 F5 N5 hx5
    (try dsimp only)
  k_with "call ref" =>
    (rename News _ _ _ _ => lN)
    (repeat replace lN := news_drop lN)
    k_dflt refine' Tell.useE (turn_ (J := J) (nj := nj) (js := js) ?hJ hjl hjr hlo9 hhi9) ?k1 ?k2 ?k3 lN ?k5 ?kK ?kd ?ku ?_
    (case hJ => exact List.Mem.tail _ (List.mem_append_right _ (List.Mem.tail _ (List.Mem.tail _ (List.Mem.tail _ (List.mem_append_right _ hJ))))))
    (case k1 => k_asm)
    (case k2 => k_asm)
    (case k3 => k_asm)
    (case k5 => k_asm)
    (case kK => exact rfl)
    (case kd => first | exact room1 hd rfl | ktr_room)
    (case ku => first | exact unit3 hu rfl | exact unit1 hu rfl | exact unit0 hu rfl | exact unit2 hu rfl | ktr_units)
    clear lN
    intro t6 h5 tk5 F5 N5
    (try dsimp only)
  k_with "call ref" =>
    (rename News _ _ _ _ => lN)
    (repeat replace lN := news_drop lN)
    k_dflt refine' Tell.use (front2_ (qs := qs9) (nq := nq) (rest := (DD, listOf vs9.toArray k9) :: (e', enumO it' ((i : Int) + 1) (.int n tn)) :: (it', oi9) :: (tups9 ++ news)) ?c1 ?c2 ?c3 ?c4 ?c5) ?k1 ?k2 ?k3 lN ?k5 ?kK ?kd ?ku ?_
    (case c1 => exact nd9.2.2.2.2)
    (case c2 => exact fun q hq z => nd9.1.2.2.2 (List.mem_map.mpr ⟨q, hq, z⟩))
    (case c3 => exact due_apart G9 hI9.hi)
    (case c4 => exact fun q hq => Nat.le_trans (hI9.size hq) (by omega))
    (case c5 => (rw [hI9.q.len]; omega))
    (case k1 => k_asm)
    (case k2 => k_asm)
    (case k3 => k_asm)
    (case k5 => k_asm)
    (case kK => exact rfl)
    (case kd => first | exact room1 hd rfl | ktr_room)
    (case ku => first | exact unit3 hu rfl | exact unit1 hu rfl | exact unit0 hu rfl | exact unit2 hu rfl | ktr_units)
    clear lN
    rintro r5 n5 h5 tk5 F5 N5 (⟨hf9, ⟨t9, rfl⟩, hn5⟩ | ⟨e8, qs8, hf9, rfl, hn5⟩)
    (all_goals subst n5)
    (all_goals try dsimp only)
  k_with "call ref" =>
    (rename News _ _ _ _ => lN)
    (repeat replace lN := news_drop lN)
    have hP4 := hI9.q.push hq9 (ht4.trans hj9) hp4 (hn9.symm ▸ hx4)
    have G4 := gmap hP4.adr G0
    have nd4 := G4.nd
    (simp only [List.nodup_cons, List.mem_cons, not_or] at nd4)
    have f4 : Fine (i + 1) (ins x4.key (dueAt js ns i).1) := (by
      have z4 := (fine_at (turnN js) (numsOf ns) i).ins (t := turnN js n)
      have z5 : x4.key = (turnN js n, (i : Int)) := Prod.ext ht4 hp4
      rw [z5]; exact z4)
    k_dflt refine' Tell.use (front2_ (qs := pushQ qs9 j9 q9 x4) (nq := nq) (rest := (DD, listOf vs9.toArray k9) :: (e', enumO it' ((i : Int) + 1) (.int n tn)) :: (it', oi9) :: (((x4.a, tupO x4) :: tups9) ++ news)) ?c1 ?c2 ?c3 ?c4 ?c5) ?k1 ?k2 ?k3 lN ?k5 ?kK ?kd ?ku ?_
    (case c1 => exact nd4.2.2.2.2)
    (case c2 => exact fun q hq z => nd4.1.2.2.2 (List.mem_map.mpr ⟨q, hq, z⟩))
    (case c3 => exact due_apart G4 (ent_le hI9.hi hB4))
    (case c4 => exact fun q hq => Nat.le_trans (size_of hP4 f4 hq) (by omega))
    (case c5 => (rw [hP4.len]; omega))
    (case k1 => k_asm)
    (case k2 => k_asm)
    (case k3 => k_asm)
    (case k5 => k_asm)
    (case kK => exact rfl)
    (case kd => first | exact room1 hd rfl | ktr_room)
    (case ku => first | exact unit3 hu rfl | exact unit1 hu rfl | exact unit0 hu rfl | exact unit2 hu rfl | ktr_units)
    clear lN
    rintro r5 n5 h5 tk5 F5 N5 (⟨hf9, ⟨t9, rfl⟩, hn5⟩ | ⟨e8, qs8, hf9, rfl, hn5⟩)
    · exact absurd hf9 (hI9.through_some hn9 hq9 hj9 ht4 hp4 hx4)
    subst n5
    (try dsimp only)
  k_with "subscriptTail" =>
    (rename News _ _ _ _ => lN)
    (repeat replace lN := news_drop lN)
    obtain ⟨j9, q9, hj9, hq9⟩ := nth_of (js := js) hI9.q.len n
    (with_unfolding_all refine kim_list (l := qvals qs9) (n := nq) (x := .ref q9.a) lN (List.Mem.head _) rfl rfl ?a ?b ?c ?_)
    (case a => (show 0 ≤ turnG js (codeG n); rw [show turnG js (codeG n) = (j9 : Int) from hj9]; omega))
    (case b => (have z9 := (List.getElem?_eq_some_iff.mp hq9).1; show turnG js (codeG n) < _; rw [show turnG js (codeG n) = (j9 : Int) from hj9]; rw [hI9.q.len] at z9; omega))
    (case c => (show (qvals qs9)[(turnG js (codeG n)).toNat]? = _; rw [show turnG js (codeG n) = (j9 : Int) from hj9, Int.toNat_natCast, qvals, List.getElem?_map, hq9]; rfl))
  k_with "subscriptTail" =>
    (rename News _ _ _ _ => lN)
    (repeat replace lN := news_drop lN)
    obtain ⟨r8, hr8, hQ8, hm8, hx8⟩ := hI9.q.front hf9
    obtain ⟨j9, q9, hj9, hq9⟩ := nth_of (js := js) hQ8.len n
    (with_unfolding_all refine kim_list (l := qvals qs8) (n := nq) (x := .ref q9.a) lN (List.Mem.head _) rfl rfl ?a ?b ?c ?_)
    (case a => (show 0 ≤ turnG js (codeG n); rw [show turnG js (codeG n) = (j9 : Int) from hj9]; omega))
    (case b => (have z9 := (List.getElem?_eq_some_iff.mp hq9).1; show turnG js (codeG n) < _; rw [show turnG js (codeG n) = (j9 : Int) from hj9]; rw [hQ8.len] at z9; omega))
    (case c => (show (qvals qs8)[(turnG js (codeG n)).toNat]? = _; rw [show turnG js (codeG n) = (j9 : Int) from hj9, Int.toNat_natCast, qvals, List.getElem?_map, hq9]; rfl))
  k_with "getMethod ref" =>
    (rename News _ _ _ _ => lN)
    (repeat replace lN := news_drop lN)
    (refine kl_method (its := (vals q9.xs).toArray) (n := q9.n) lN ?m1 PySem.F.slot_list_append PySem.F.type_list_append ?_)
    (case m1 => exact List.Mem.tail _ (List.mem_append_left _ (List.mem_map.mpr ⟨q9, List.mem_of_getElem? hq9, rfl⟩)))
  k_with "getMethod ref" =>
    (rename News _ _ _ _ => lN)
    (repeat replace lN := news_drop lN)
    (refine kl_method (its := vs9.toArray) (n := k9) lN ?m1 PySem.F.slot_list_append PySem.F.type_list_append ?_)
    (case m1 => exact List.Mem.tail _ (List.mem_append_right _ (List.Mem.head _)))
  k_with "compareOp NotEq ref str" =>
    (rename News _ _ _ _ => lN)
    obtain ⟨r8, hr8, hQ8, hm8, hx8⟩ := hI9.q.front hf9
    with_unfolding_all refine ne_ent lN ?mm hx8 (by ktr_units) ?_
    (case mm => (repeat (first | exact List.mem_append_right _ (List.Mem.tail _ (List.Mem.tail _ (List.Mem.tail _ (List.mem_append_left _ hm8)))) | refine List.Mem.tail _ ?_)))
  k_with "newTuple" =>
    (rename Fr _ _ _ _ => lF)
    (rename News _ _ _ _ => lN)
    (repeat replace lN := news_drop lN)
    (show wpAny _ _ (newTuple [_, .int (i : Int) _, _]) _ _ _)
    refine due_make lF lN (by first | exact hI9.q.adr | exact hQ8.adr) hx5 ?_
    clear lF lN
    intro x4 h4 ht4 hp4 hx4 hB4 F4 N4
    rw [← hB0] at hB4
  k_with "call builtin:list.append" =>
    (rename Fr _ _ _ _ => lF)
    (rename News _ _ _ _ => lN)
    (repeat replace lN := news_drop lN)
    (refine que_append (B := B0) (x := x4) (j := j9) (q := q9) hq9 lF lN ?g1 ?g2 ?g3 ?_)
    (case g1 => (first | exact gmap hI9.q.adr G0 | exact gmap hQ8.adr G0))
    (case g2 => exact ent_le hI9.hi hB4)
    (case g3 => (first | exact Nat.le_trans (hI9.size (List.mem_of_getElem? hq9)) (by omega) | exact Nat.le_trans (size_of hQ8 ((hr8 ▸ fine_at (turnN js) (numsOf ns) i : Fine i (_ :: r8)).tail) (List.mem_of_getElem? hq9)) (by omega)))
    clear lF lN
    intro h3 F3 N3
  k_with "call builtin:list.append" =>
    (rename Fr _ _ _ _ => lF)
    (rename News _ _ _ _ => lN)
    (repeat replace lN := news_drop lN)
    (refine due_append (B := B0) lF lN ?g1 ?g2 ?g3 ?_)
    (case g1 => (first | exact gmap hI9.q.adr G0 | exact gmap ((qadr_push hq9).trans hI9.q.adr) G0 | exact gmap hQ8.adr G0 | exact gmap ((qadr_push hq9).trans hQ8.adr) G0 | exact gmap (adr_front hI9.q hf9) G0 | exact gmap (adr_front hP4 hf9) G0))
    (case g2 => (first | exact hI9.hi | exact ent_le hI9.hi hB4))
    (case g3 => omega)
    clear lF lN
    intro h3 F3 N3
  k_steps
  · (rename Fr h₀ _ _ _ => lF)
    (rename News h₀ _ _ _ => lN)
    have e1 : (jvals ns).toArray.size = ns.length := by simp [jvals]
    rw [e1] at hI9
    refine hret _ _ _ _ lF lN ⟨DD, vs9, k9, tups9, rfl, List.Mem.tail _ (List.Mem.head _), fun p hp => ?_, fun p hp => ?_, hI9.ans⟩
    · exact List.Mem.tail _ (List.Mem.tail _ (List.mem_append_right _ (List.mem_append_right _ hp)))
    · exact List.Mem.tail _ (List.Mem.tail _ (List.mem_append_right _ (List.mem_append_left _ hp)))
  all_goals
    (try unfold Hold)
    (rename Fr _ _ _ _ => lF)
    (rename News _ _ _ _ => lN)
    (repeat replace lN := news_drop lN)
    refine due_fin hQ9 hm9 lF ?names lN hL9 ?inv
    (case names =>
      intro z z1 z2 z3 z4 z5
      first
      | exact (if_neg z3).trans ((if_neg z4).trans ((if_neg z5).trans ((if_neg z1).trans (if_neg z2))))
      | exact (if_neg z4).trans ((if_neg z5).trans ((if_neg z1).trans (if_neg z2))))
    (case inv =>
      first
      | exact hI9.in hn9 h6 hq9 hj9 ht4 hp4 hx4 hB4
      | exact hI9.turned hn9 h6
      | exact hI9.out_none hn9 (.inl h6) hf9
      | exact hI9.out_none hn9 (.inr h6) hf9
      | exact hI9.out hn9 h6 hf9
      | exact hI9.swap hn9 h6 hf9 hq9 hj9 ht4 hp4 hx4 hB4
      | exact hI9.through hn9 h6 hq9 hj9 ht4 hp4 hx4 hB4 hf9)
end
end Mine
end

section
open PySem PySem.W PyProof.Rows PySem.Spec PySem.Calls
set_option maxRecDepth 100000
namespace Mine
abbrev firstN (js : List (Int × Tok)) (n : Int) : Int := firstG js (codeG n)
abbrev toldAt (js ns : List (Int × Tok)) (i : Nat) : List Key × List Ans := specAt (firstN js) (numsOf ns) i
abbrev Ents (ns : List (Int × Tok)) (tups : List (Addr × Obj)) (xs : List Ent) : Prop := ∀ e ∈ xs, (e.a, tupO e) ∈ tups ∧ IsThing ((numsOf ns).getD e.p.toNat 0) e.x
structure ToldI (js ns : List (Int × Tok)) (i : Nat) (B : Nat) (xs : List Ent) (vs : List Value) (tups : List (Addr × Obj)) : Prop where
  rel : Rel xs (toldAt js ns i).1
  ents : Ents ns tups xs
  ans : DatAll tups vs ((toldAt js ns i).2.map (datA (numsOf ns)))
  hi : ∀ p ∈ tups, B ≤ p.1
section
variable {js ns : List (Int × Tok)} {i : Nat} {B : Nat} {xs xs' : List Ent} {vs : List Value} {tups : List (Addr × Obj)} {e : Ent} {n : Int}
theorem Ents.perm {xs' : List Ent} (h : Ents ns tups xs) (p : xs'.Perm xs) : Ents ns tups xs' := fun e he => h e (p.mem_iff.mp he)
theorem Ents.sub {xs' : List Ent} (h : Ents ns tups xs) (p : ∀ x ∈ xs', x ∈ xs) : Ents ns tups xs' := fun e he => h e (p e he)
theorem Ents.more (h : Ents ns tups xs) (p : Addr × Obj) : Ents ns (p :: tups) xs := fun e he => ⟨.tail _ (h e he).1, (h e he).2⟩
theorem Ents.new (h : Ents ns tups xs) (hp : e.p = (i : Int)) (hx : IsThing ((numsOf ns).getD i 0) e.x) : Ents ns ((e.a, tupO e) :: tups) (e :: xs) := fun y hy => by
  rcases List.mem_cons.mp hy with rfl | hy
  · exact ⟨.head _, by rw [hp, Int.toNat_natCast]; exact hx⟩
  · exact (h.more _) y hy
theorem ToldI.len (h : ToldI js ns i B xs vs tups) : vs.length = i := by
  have := h.ans.length
  rw [List.length_map, specAt_len] at this
  exact this
theorem ToldI.fine (_h : ToldI js ns i B xs vs tups) : Fine i (toldAt js ns i).1 := fine_at _ _ i
theorem ToldI.size (h : ToldI js ns i B xs vs tups) : xs.length ≤ i := by
  rw [h.rel.len]; exact h.fine.len
theorem ToldI.nodup (h : ToldI js ns i B xs vs tups) : (xs.map (·.p)).Nodup := h.rel.nodup h.fine
theorem ToldI.nodup_new (h : ToldI js ns i B xs vs tups) (hp : e.p = (i : Int)) : ((xs ++ [e]).map (·.p)).Nodup := h.rel.nodup_new h.fine hp
theorem ToldI.step (h : ToldI js ns i B xs vs tups) (hn : (numsOf ns).getD i 0 = n) {S' : List Key} {a : Ans} {tups' : List (Addr × Obj)} {v : Value}
    (hs : specStep (firstN js n) i n (toldAt js ns i).1 = (S', a)) (hr : Rel xs' S') (hx : Ents ns tups' xs') (hsub : ∀ p ∈ tups, p ∈ tups') (hv : DatIn tups' v (datA (numsOf ns) a)) (hhi : ∀ p ∈ tups', B ≤ p.1) :
    ToldI js ns (i + 1) B xs' (vs ++ [v]) tups' := by
  have e1 : toldAt js ns (i + 1) = ((specStep (firstN js n) i n (toldAt js ns i).1).1, (toldAt js ns i).2 ++ [(specStep (firstN js n) i n (toldAt js ns i).1).2]) := by subst hn; rfl
  refine ⟨?_, hx, ?_, hhi⟩
  · rw [e1, hs]; exact hr
  · rw [e1, hs, List.map_append]
    exact DatAll.append (DatAll.mono hsub h.ans) (.cons hv .nil)
theorem le_more {p : Addr × Obj} (h : ∀ p ∈ tups, B ≤ p.1) (hp : B ≤ p.1) : ∀ q ∈ p :: tups, B ≤ q.1 := fun q hq => by
  rcases List.mem_cons.mp hq with rfl | hq
  · exact hp
  · exact h q hq
theorem ToldI.in (h : ToldI js ns i B xs vs tups) (hn : (numsOf ns).getD i 0 = n) (h6 : n % 6 < 2) (ht : e.t = firstN js n) (hp : e.p = (i : Int)) (hx : IsThing n e.x) (hB : B ≤ e.a) :
    ToldI js ns (i + 1) B (sdG dEnt elt 0 xs.length (xs ++ [e])) (vs ++ [.none]) ((e.a, tupO e) :: tups) := by
  have hk : e.key = (firstN js n, (i : Int)) := Prod.ext ht hp
  refine h.step hn (step_in h6) (hk ▸ h.rel.push) ?_ (fun p hp => .tail _ hp) .none (le_more h.hi hB)
  exact (h.ents.new hp (hn.symm ▸ hx)).perm ((sdG_perm (by simp)).trans (List.perm_append_singleton e xs))
theorem ToldI.out_none (h : ToldI js ns i B [] vs tups) (hn : (numsOf ns).getD i 0 = n) (h6 : n % 6 = 2 ∨ n % 6 = 3) {t : Tok} : ToldI js ns (i + 1) B [] (vs ++ [.str (Str.ofString "nothing there") t]) tups := by
  have hS : (toldAt js ns i).1 = [] := List.eq_nil_of_length_eq_zero (h.rel.len.symm.trans rfl)
  refine h.step hn (S' := []) (a := .nothing) ?_ Rel.nil (fun _ h => nomatch h) (fun p hp => hp) (.str _ _) h.hi
  rw [hS]
  rcases h6 with h6 | h6
  · exact step_2_none h6
  · exact step_3_none h6
theorem ToldI.more {p : Addr × Obj} (h : ToldI js ns i B xs vs tups) (hp : B ≤ p.1) : ToldI js ns i B xs vs (p :: tups) := ⟨h.rel, h.ents.more p, DatAll.mono (fun q hq => .tail _ hq) h.ans, le_more h.hi hp⟩
theorem ToldI.split {x : Ent} {t : List Ent} (h : ToldI js ns i B (x :: t) vs tups) : ∃ k r, (toldAt js ns i).1 = k :: r ∧ x.key = k ∧ Srt (k :: r) := by
  cases hS : (toldAt js ns i).1 with
  | nil => have := h.rel.len; rw [hS] at this; cases this
  | cons k r =>
    have f := h.fine
    have hr := h.rel
    rw [hS] at f hr
    exact ⟨k, r, rfl, (hr.root f.srt).1, f.srt⟩
theorem ToldI.out (h : ToldI js ns i B xs vs tups) (hn : (numsOf ns).getD i 0 = n) (h6 : n % 6 = 2) (hne : xs ≠ []) : ToldI js ns (i + 1) B (popRest xs) (vs ++ [.ref (xs.getD 0 dEnt).a]) tups := by
  cases xs with
  | nil => exact absurd rfl hne
  | cons x t =>
    obtain ⟨k, r, hS, hk, hs⟩ := h.split
    have hr := h.rel
    rw [hS] at hr
    have hx := h.ents x (.head _)
    exact h.step hn (S' := r) (a := .ent k) (by rw [hS]; exact step_2 h6) (hr.pop hs) (h.ents.sub fun y hy => .tail _ ((popRest_perm x t).mem_iff.mp hy)) (fun p hp => hp) (hk ▸ ent_dat hx.1 hx.2) h.hi
theorem ToldI.swap (h : ToldI js ns i B xs vs tups) (hn : (numsOf ns).getD i 0 = n) (h6 : n % 6 = 3) (hne : 0 < xs.length) (ht : e.t = firstN js n) (hp : e.p = (i : Int)) (hx : IsThing n e.x) (hB : B ≤ e.a) :
    ToldI js ns (i + 1) B (siftup dEnt elt 0 (xs.set 0 e)) (vs ++ [.ref (xs.getD 0 dEnt).a]) ((e.a, tupO e) :: tups) := by
  cases xs with
  | nil => exact absurd hne (Nat.lt_irrefl _)
  | cons x t =>
    obtain ⟨k, r, hS, hk, hs⟩ := h.split
    have hr := h.rel
    rw [hS] at hr
    have hx' := h.ents x (.head _)
    have hke : e.key = (firstN js n, (i : Int)) := Prod.ext ht hp
    refine h.step hn (S' := ins e.key r) (a := .ent k) (by rw [hS, hke]; exact step_3 h6) (hr.replace hs) ?_ (fun p hp => .tail _ hp) (hk ▸ ent_dat (.tail _ hx'.1) hx'.2) (le_more h.hi hB)
    exact (h.ents.new hp (hn.symm ▸ hx)).sub fun y hy => by
      rcases List.mem_cons.mp ((set0_perm x e t).mem_iff.mp hy) with rfl | hy
      · exact .head _
      · exact .tail _ (.tail _ hy)
theorem ToldI.through (h : ToldI js ns i B xs vs tups) (hn : (numsOf ns).getD i 0 = n) (h6 : n % 6 = 4) (ht : e.t = firstN js n) (hp : e.p = (i : Int)) (hx : IsThing n e.x) (hB : B ≤ e.a) :
    ToldI js ns (i + 1) B (if 0 < xs.length ∧ elt (xs.getD 0 dEnt) e = true then siftup dEnt elt 0 (xs.set 0 e) else xs) (vs ++ [.ref (if 0 < xs.length ∧ elt (xs.getD 0 dEnt) e = true then xs.getD 0 dEnt else e).a]) ((e.a, tupO e) :: tups) := by
  have hke : e.key = (firstN js n, (i : Int)) := Prod.ext ht hp
  obtain ⟨k, r, hS, hk, hr⟩ := h.rel.pushpop h.fine hp
  have hnew := h.ents.new hp (hn.symm ▸ hx)
  have hm : (if 0 < xs.length ∧ elt (xs.getD 0 dEnt) e = true then xs.getD 0 dEnt else e) ∈ e :: xs := by
    split
    · rename_i c
      exact .tail _ (getD_mem c.1)
    · exact .head _
  have hd := hnew _ hm
  refine h.step hn (S' := r) (a := .ent k) (step_4 h6 (hke ▸ hS)) hr ?_ (fun p hp => .tail _ hp) (hk ▸ ent_dat hd.1 hd.2) (le_more h.hi hB)
  split
  · rename_i c
    cases xs with
    | nil => exact absurd c.1 (Nat.lt_irrefl _)
    | cons x t =>
      exact hnew.sub fun y hy => by
        rcases List.mem_cons.mp ((set0_perm x e t).mem_iff.mp hy) with rfl | hy
        · exact .head _
        · exact .tail _ (.tail _ hy)
  · exact hnew.sub fun y hy => .tail _ hy
theorem ToldI.turned (h : ToldI js ns i B xs vs tups) (hn : (numsOf ns).getD i 0 = n) (h6 : n % 6 = 5) : ToldI js ns (i + 1) B (heapG (xs.length / 2) xs.reverse) (vs ++ [.none]) tups :=
  h.step hn (step_5 h6) h.rel.heapify (h.ents.perm ((heapG_perm _ (by rw [List.length_reverse]; omega)).trans (List.reverse_perm xs))) (fun p hp => hp) .none h.hi
theorem ToldI.zero : ToldI js ns 0 B [] [] [] := ⟨Rel.nil, fun _ h => (nomatch h), .nil, fun _ h => (nomatch h)⟩
end
theorem told_due {js ns : List (Int × Tok)} (hj : ∀ p ∈ js, 0 ≤ p.1 ∧ p.1 < 15) (i : Nat) : toldAt js ns i = dueAt js ns i := by
  have : (firstN js) = (turnN js) := funext fun n => first_turn hj _
  rw [toldAt, this]
end Mine
end

section
open PySem PySem.W PyProof.Rows PySem.Spec PySem.Calls
set_option maxRecDepth 100000
namespace Mine
section
variable {prog : Program} {w : World} {A₀ A : Around} {s : Shared} {base h₀ : Heap} {L : Addr} {m : Str → Option Value} {news : List (Addr × Obj)} {K : Frag} {p : Program} {loose : List Str} {mean : ExcName → Option Value} {mg mb : Str → Option Value}
    {R : Result → Shared → Prop} {name qual : Str} {params : Arguments} {body : List Stmt} {scope : Scope} {dV kV doc pm cdv ct oc : Value} {an od : Option Addr} {osl : Array (Option Value)} {f : Addr} {args : Args} {binds : List (Str × Value)} {env : Env}
/-- a call from the lowest frame, of whatever kind, into a def that may catch -/
theorem code_defT (B : Below A₀ base [] h₀) (F : Fr h₀ L s.heap m) (X₀ : K.In h₀) (N : News h₀ L s.heap news) (T : Top p loose mean mg mb h₀) (hA : A.frames = some [env]) (hf : env.frame = some L) (hke : env.scope.kind = .function)
    (ho : K.lookup f = some ⟨oc, od, .func (fnOf name qual params body scope dV kV doc pm an cdv ct), osl⟩) (hcd : codeIn K cdv qual = true) (hroom : A.depth < recursionLimit)
    (hbind : BindsTo s (fnOf name qual params body scope dV kV doc pm an cdv ct) args binds) (hloc : ∀ y ∈ binds, scope.names.lookup y.1 = some .local)
    (h : ∀ g L' h₁, Fr h₀ L g m → Fr g L' h₁ (fun y => binds.reverse.lookup y) → News g L' h₁ news → Below A base [env] g → K.In g → Top p loose mean mg mb g → KtsDicts ([env].filterMap (·.frame)) g →
      wpAny (model prog w) (A.deeper (envOf qual scope L' f cdv)) (execs body (envOf qual scope L' f cdv))
        (fun fl s' => LeaveS0 ([env].filterMap (·.frame)) h₀ L m g R (match fl with | .ret v => v | _ => .none) s')
        (fun e s' => wpAny (model prog w) (A.deeper (envOf qual scope L' f cdv)) (leaving (envOf qual scope L' f cdv) e) (fun _ s'' => R (.error e) s'') (fun e' s'' => R (.error e') s'') s')
        { s with heap := h₁, toks := s.toks + binds.length })
    (hco : scope.isCoroutine = false) (hgen : scope.isGenerator = false) (hk : scope.kind = .function)
    (hcell : ∀ x ∈ scope.names, x.2 ≠ .cell) : codeAny (model prog w) A (.call (.ref f) args) R s := by
  obtain ⟨FG, BG, st, _⟩ := groundX (R := R) B F N hA hf hke
  generalize hg : hideAll s.heap (news.map (·.1)) = g at FG BG st
  have hfs : ∀ b, b ∈ [env].filterMap (·.frame) → b = L := fun b hb => by
    simp only [List.filterMap_cons, hf, List.filterMap_nil, List.mem_singleton] at hb
    exact hb
  obtain ⟨oL, es, ep, hL, hLd, hrest⟩ := FG.ns
  have nL : h₀.get? L = none := kts_self F
  refine codeAny_call_def (fd := fnOf name qual params body scope dV kV doc pm an cdv ct) (body := body) (binds := binds) hroom ((X₀.keeps F.keep) _ _ ho) rfl (T.nolimit.keeps F.keep) (codeRec_of (X₀.keeps F.keep) hcd) rfl hbind hcell hloc (fun h₁ hns hk₁ => ?_) hco hgen hk
  refine wpAny_mono (h g s.heap.objs.size h₁ FG ⟨hns, fun b o e => hk₁ b o (of_hideAll _ (hg ▸ e)), hg ▸ Nat.le_of_eq (hideAll_size _ _)⟩
    (fun q hq => ⟨hk₁ _ _ (N q hq).1, Nat.ne_of_lt (Heap.lt_size (N q hq).1), hg ▸ hideAll_none _ (List.mem_map_of_mem hq)⟩) BG (X₀.keeps st) (T.keeps st) fun b hb => ?_) (fun fl s' hl => ?_) fun _ _ y => y
  · rw [hfs b hb]; exact ⟨oL, es, ep, hL, hLd⟩
  · obtain ⟨g', L', m', news', TT, F', N', k⟩ := hl
    obtain ⟨sl, hsl⟩ := TT.up hL
    have up : ∀ b o, h₀.get? b = some o → g'.get? b = some o := fun b o e => TT.other b o (st b o e) fun hb => by
      rw [hfs b hb, nL] at e; cases e
    refine k ⟨⟨_, es, ep, F'.keep _ _ hsl, hLd, hrest⟩, fun b o e => F'.keep b o (up b o e), F.above⟩ fun q hq => ⟨(N' q hq).1, fun e => ?_, ?_⟩
    · have := (N' q hq).2.2
      rw [e, hsl] at this; cases this
    · cases z : h₀.get? q.1 with
      | none => rfl
      | some o => have := (N' q hq).2.2; rw [up _ _ z] at this; cases this
end
end Mine
end

section
open PySem PySem.W PyProof.Rows PySem.Spec PySem.Calls
set_option maxRecDepth 100000
namespace Mine
/-- the ledger of told's loop -/
abbrev toldL (H : Addr) (xs : List Ent) (n : Nat) (TD : Addr) (vs : List Value) (k : Nat) (e : Addr) (oe : Obj) (it : Addr) (oi : Obj) (tups news : List (Addr × Obj)) : List (Addr × Obj) :=
  (H, hO xs n) :: (TD, listOf vs.toArray k) :: (e, oe) :: (it, oi) :: (tups ++ news)
section
variable {prog : Program} {w : World} {A : Around} {E : Value → Shared → Prop} {s : Shared} {g : Heap} {L : Addr} {m : Str → Option Value} {news tups : List (Addr × Obj)} {H TD e it : Addr} {oe oi : Obj} {n k : Nat} {xs : List Ent} {vs : List Value} {B : Nat}
theorem told_append {v : Value} {Q : Value → Shared → Prop} (F : Fr g L s.heap m) (N : News g L s.heap (toldL H xs n TD vs k e oe it oi tups news)) (G : Ground [H, TD, e, it] B news) (hB : ∀ p ∈ tups, B ≤ p.1) (hz : vs.length ≤ 1000)
    (h : ∀ h', Fr g L h' m → News g L h' (toldL H xs n TD (vs ++ [v]) (k + 1) e oe it oi tups news) → Q .none { s with heap := h' }) : wpAny (model prog w) A (call (.builtin "list.append") [.ref TD, v]) Q E s := by
  have nd := G.nd
  simp only [List.nodup_cons, List.mem_cons, not_or, List.not_mem_nil] at nd
  have hD : TD < B := G.hi TD (.tail _ (.head _))
  refine append_sb (D := TD) (its := vs.toArray) (n := k) (r := (H, hO xs n) :: (e, oe) :: (it, oi) :: (tups ++ news)) F (fun p hp => N p ?_) (fun p hp => ?_) (fun h' F' N' _ => h h' F' fun p hp => N' p ?_) (by simpa using Nat.le_trans hz (by decide))
  · simp only [toldL, List.mem_cons, List.mem_append] at hp ⊢
    rcases hp with h | h | h | h | h | h
    · exact .inr (.inl h)
    · exact .inl h
    · exact .inr (.inr (.inl h))
    · exact .inr (.inr (.inr (.inl h)))
    · exact .inr (.inr (.inr (.inr (.inl h))))
    · exact .inr (.inr (.inr (.inr (.inr h))))
  · simp only [List.mem_cons, List.mem_append] at hp
    rcases hp with rfl | rfl | rfl | h | h
    · exact nd.1.1
    · exact Ne.symm nd.2.1.1
    · exact Ne.symm nd.2.1.2.1
    · have := hB p h
      exact fun z => absurd (z ▸ this) (Nat.not_le_of_lt hD)
    · exact fun z => G.old p h (z ▸ .tail _ (.head _))
  · have e1 : (vs ++ [v]).toArray = vs.toArray.push v := by simp
    simp only [toldL, e1, List.mem_cons, List.mem_append] at hp ⊢
    rcases hp with h | h | h | h | h | h
    · exact .inr (.inl h)
    · exact .inl h
    · exact .inr (.inr (.inl h))
    · exact .inr (.inr (.inr (.inl h)))
    · exact .inr (.inr (.inr (.inr (.inl h))))
    · exact .inr (.inr (.inr (.inr (.inr h))))
theorem told_apart {o2 : Obj} (G : Ground [H, TD, e, it] B news) (hB : ∀ p ∈ tups, B ≤ p.1) : ∀ p ∈ (TD, o2) :: (e, oe) :: (it, oi) :: (tups ++ news), p.1 ≠ H := by
  have nd := G.nd
  simp only [List.nodup_cons, List.mem_cons, not_or, List.not_mem_nil] at nd
  intro p hp
  simp only [List.mem_cons, List.mem_append] at hp
  rcases hp with rfl | rfl | rfl | h | h
  · exact Ne.symm nd.1.1
  · exact Ne.symm nd.1.2.1
  · exact Ne.symm nd.1.2.2.1
  · have h1 := hB p h
    have h2 := G.hi H (.head _)
    exact fun z => absurd (z ▸ h1) (Nat.not_le_of_lt h2)
  · exact fun z => G.old p h (z ▸ .head _)
theorem told_hadr {o1 o2 : Obj} (G : Ground [H, TD, e, it] B news) (hB : ∀ p ∈ tups, B ≤ p.1) : ∀ p ∈ (H, o1) :: (TD, o2) :: (tups ++ news), p.1 ≠ e ∧ p.1 ≠ it := by
  have nd := G.nd
  simp only [List.nodup_cons, List.mem_cons, not_or, List.not_mem_nil] at nd
  intro p hp
  simp only [List.mem_cons, List.mem_append] at hp
  rcases hp with rfl | rfl | h | h
  · exact ⟨nd.1.2.1, nd.1.2.2.1⟩
  · exact ⟨nd.2.1.1, nd.2.1.2.1⟩
  · have h1 := hB p h
    have h2 := G.hi e (.tail _ (.tail _ (.head _)))
    have h3 := G.hi it (.tail _ (.tail _ (.tail _ (.head _))))
    exact ⟨fun z => absurd (z ▸ h1) (Nat.not_le_of_lt h2), fun z => absurd (z ▸ h1) (Nat.not_le_of_lt h3)⟩
  · have h1 := G.old p h
    exact ⟨fun z => h1 (z ▸ .tail _ (.tail _ (.head _))), fun z => h1 (z ▸ .tail _ (.tail _ (.tail _ (.head _))))⟩
theorem told_start {h' : Heap} (N : News g L h' ((e, oe) :: (it, oi) :: (H, hO xs n) :: (TD, listOf vs.toArray k) :: (tups ++ news))) : News g L h' (toldL H xs n TD vs k e oe it oi tups news) := fun p hp => N p (by
  simp only [toldL, List.mem_cons, List.mem_append] at hp ⊢
  rcases hp with h | h | h | h | h | h
  · exact .inr (.inr (.inl h))
  · exact .inr (.inr (.inr (.inl h)))
  · exact .inl h
  · exact .inr (.inl h)
  · exact .inr (.inr (.inr (.inr (.inl h))))
  · exact .inr (.inr (.inr (.inr (.inr h)))))
theorem told_end {h' : Heap} (N : News g L h' (toldL H xs n TD vs k e oe it oi tups news)) : News g L h' ((e, oe) :: (it, oi) :: (H, hO xs n) :: (TD, listOf vs.toArray k) :: (tups ++ news)) := fun p hp => N p (by
  simp only [toldL, List.mem_cons, List.mem_append] at hp ⊢
  rcases hp with h | h | h | h | h | h
  · exact .inr (.inr (.inl h))
  · exact .inr (.inr (.inr (.inl h)))
  · exact .inl h
  · exact .inr (.inl h)
  · exact .inr (.inr (.inr (.inr (.inl h))))
  · exact .inr (.inr (.inr (.inr (.inr h)))))
theorem told_new {D : Nat} (hD : ∀ p ∈ toldL H xs n TD vs k e oe it oi tups news, p.1 < D) : topA [H, TD, e, it] ≤ D := by
  refine topA_le fun a h => ?_
  simp only [List.mem_cons, List.not_mem_nil, or_false] at h
  rcases h with rfl | rfl | rfl | rfl
  · exact hD (_, hO xs n) (.head _)
  · exact hD (_, listOf vs.toArray k) (.tail _ (.head _))
  · exact hD (_, oe) (.tail _ (.tail _ (.head _)))
  · exact hD (_, oi) (.tail _ (.tail _ (.tail _ (.head _))))
theorem told_make {E : Value → Shared → Prop} {t p z : Int} {tt tp : Tok} {x : Value} {Q : Value → Shared → Prop} (F : Fr g L s.heap m) (N : News g L s.heap (toldL H xs n TD vs k e oe it oi tups news)) (hx : IsThing z x)
    (h : ∀ (X : Ent) h', X.t = t → X.p = p → IsThing z X.x → topA [H, TD, e, it] ≤ X.a → Fr g L h' m → News g L h' (toldL H xs n TD vs k e oe it oi ((X.a, tupO X) :: tups) news) → Q (.ref X.a) { s with heap := h' }) :
    wpAny (model prog w) A (newTuple [.int t tt, .int p tp, x]) Q E s := by
  refine newTuple_N F N fun h' F' N' => h ⟨s.heap.objs.size, t, tt, p, tp, x⟩ h' rfl rfl hx (told_new fun q hq => Heap.lt_size (N q hq).1) F' fun q hq => N' q ?_
  simp only [toldL, List.cons_append, List.mem_cons, List.mem_append] at hq ⊢
  rcases hq with h | h | h | h | h | h | h
  · exact .inr (.inl h)
  · exact .inr (.inr (.inl h))
  · exact .inr (.inr (.inr (.inl h)))
  · exact .inr (.inr (.inr (.inr (.inl h))))
  · exact .inl h
  · exact .inr (.inr (.inr (.inr (.inr (.inl h)))))
  · exact .inr (.inr (.inr (.inr (.inr (.inr h)))))
theorem ground_told {o1 o2 : Obj} (h1 : ∀ p ∈ news, p.1 < H) (h3 : ∀ p ∈ (H, o1) :: news, p.1 < TD) (h4 : e ≠ it) (h5 : ∀ p ∈ (TD, o2) :: (H, o1) :: news, p.1 ≠ e ∧ p.1 ≠ it) : Ground [H, TD, e, it] (topA [H, TD, e, it]) news := by
  refine ⟨?_, lt_topA, fun p hp hm => ?_⟩
  · simp only [List.nodup_cons, List.mem_cons, not_or, List.not_mem_nil]
    exact ⟨⟨Nat.ne_of_lt (h3 _ (.head _)), (h5 _ (.tail _ (.head _))).1, (h5 _ (.tail _ (.head _))).2, id⟩, ⟨(h5 _ (.head _)).1, (h5 _ (.head _)).2, id⟩, ⟨h4, id⟩, id, List.nodup_nil⟩
  · simp only [List.mem_cons, List.not_mem_nil, or_false] at hm
    have h5' := h5 p (.tail _ (.tail _ hp))
    rcases hm with hm | hm | hm | hm
    · have := h1 p hp; rw [hm] at this; exact Nat.lt_irrefl _ this
    · have := h3 p (.tail _ hp); rw [hm] at this; exact Nat.lt_irrefl _ this
    · exact h5'.1 hm
    · exact h5'.2 hm
end
theorem same_of4 {mm m₀ : Str → Option Value} {a b c d : Str} (h : ∀ z, z ≠ a → z ≠ b → z ≠ c → z ≠ d → mm z = m₀ z) :
    ∀ z, mm z = if z = a then mm a else if z = b then mm b else if z = c then mm c else if z = d then mm d else m₀ z := by
  intro z
  by_cases h1 : z = a
  · rw [if_pos h1, h1]
  rw [if_neg h1]
  by_cases h2 : z = b
  · rw [if_pos h2, h2]
  rw [if_neg h2]
  by_cases h3 : z = c
  · rw [if_pos h3, h3]
  rw [if_neg h3]
  by_cases h4 : z = d
  · rw [if_pos h4, h4]
  rw [if_neg h4]
  exact h z h1 h2 h3 h4
end Mine
end

section
open PySem PySem.W PyProof.Rows PySem.Spec PySem.Calls
set_option maxRecDepth 100000
set_option maxHeartbeats 8000000
namespace Mine
theorem tuple_drop {g h : Heap} {L a : Addr} {d : Data} {r : List (Addr × Obj)} (N : News g L h ((a, { cls := .type "tuple", data := d }) :: r)) : News g L h r := fun p hp => N p (List.Mem.tail _ hp)
/-- the names that a turn changes -/
abbrev toldM (u1 u2 u3 u4 : Option Value) (m₀ : Str → Option Value) : Str → Option Value := fun y => if y = Str.ofString "number" then u1 else if y = Str.ofString "place" then u2 else if y = Str.ofString "thing" then u3 else if y = Str.ofString "item" then u4 else m₀ y
theorem toldM_of {m m₀ : Str → Option Value} (h : ∀ z, z ≠ Str.ofString "number" → z ≠ Str.ofString "place" → z ≠ Str.ofString "thing" → z ≠ Str.ofString "item" → m z = m₀ z) : ∃ u1 u2 u3 u4, m = toldM u1 u2 u3 u4 m₀ := ⟨_, _, _, _, funext (same_of4 h)⟩
/-- what a turn leaves of the heap that lies beneath -/
structure Under2 (w : World) (mean : ExcName → Option Value) (mg mb : Str → Option Value) (A' : Around) (base : Heap) (env : Env) (g₀ g : Heap) : Prop where
  turn : KtsTurn ([env].filterMap (·.frame)) g₀ g
  below : Below A' base [env] g
  has : (hd.heap_39 w.params).In g
  top : Top hd.view_39 (looseW hd.view_39 []) mean mg mb g
  dicts : KtsDicts ([env].filterMap (·.frame)) g
def ToldK (P : Heap → Prop) (js ns : List (Int × Tok)) (m₀ : Str → Option Value) (H TD : Addr) (B : Nat) (news : List (Addr × Obj)) (i : Nat) (g : Heap) (m : Str → Option Value) (led : List (Addr × Obj)) : Prop :=
  P g ∧ (∃ u1 u2 u3 u4, m = toldM u1 u2 u3 u4 m₀) ∧ ∃ xs n vs k tups, led = (H, hO xs n) :: (TD, listOf vs.toArray k) :: (tups ++ news) ∧ ToldI js ns i B xs vs tups
theorem told_fin {P : Heap → Prop} {g : Heap} {js ns : List (Int × Tok)} {m₀ m9 mm : Str → Option Value} {H TD NS e it L : Addr} {n k i B : Nat} {news tups : List (Addr × Obj)} {s : Shared} {v : Value} {Q9 : Flow → Shared → Prop} {u1 u2 u3 u4 : Option Value} {xs : List Ent} {vs : List Value} {oi : Obj} {h : Heap} {tk : Nat}
    (hQ : EnumEnd L e it NS (ToldK P js ns m₀ H TD B news) s v i = Q9) (hm : toldM u1 u2 u3 u4 m₀ = m9) (F : Fr g L h mm) (hmm : ∀ z, z ≠ Str.ofString "number" → z ≠ Str.ofString "place" → z ≠ Str.ofString "thing" → z ≠ Str.ofString "item" → mm z = m9 z)
    (N : News g L h (toldL H xs n TD vs k e (enumO it ((i : Int) + 1) v) it oi tups news)) (hL : IsLI oi NS (i + 1)) (hP : P g) (hI : ToldI js ns (i + 1) B xs vs tups) : Q9 .next { s with heap := h, toks := tk } := by
  subst hQ
  refine ⟨.inl rfl, _, _, _, _, _, oi, rfl, F, told_end N, hL, hP, toldM_of fun z z1 z2 z3 z4 => ?_, _, _, _, _, _, rfl, hI⟩
  rw [hmm z z1 z2 z3 z4, ← hm]
  simp only [toldM, if_neg z1, if_neg z2, if_neg z3, if_neg z4]
section
theorem told_ {w : World} {mean : ExcName → Option Value} {mg mb : Str → Option Value} {J NS : Addr} {js ns : List (Int × Tok)} {nj nn : Nat} {news : List (Addr × Obj)} (hJ : (J, jO js nj) ∈ news) (hN : (NS, jO ns nn) ∈ news)
    (hjl : js.length ≤ 4) (hjr : ∀ p ∈ js, 0 ≤ p.1 ∧ p.1 < 15) (hnl : ns.length ≤ 100)
    {dp un : Nat} {gd : Option (List Code)} {cn : Str} {cs : Scope} {ad : Addr} {ccd : Value} {cl : List (Str × Addr)} {A₀ : Around} {base h₀ : Heap} {L : Addr} {m : Str → Option Value} {s : Shared} {Q E : Value → Shared → Prop}
    (B : Below A₀ base [] h₀) (F : Fr h₀ L s.heap m) (X : (hd.heap_39 w.params).In h₀) (N : News h₀ L s.heap news) (T : Top hd.view_39 (looseW hd.view_39 []) mean mg mb h₀) (hk : cs.kind = .function) (XB : (hd.heap_39 w.params).In base) (TB : Top hd.view_39 (looseW hd.view_39 []) mean mg mb base)
    (hd : dp + 20 < recursionLimit) (hu : un + 160 < cLine)
    (hret : ∀ r news' h' tk', Fr h₀ L h' m → News h₀ L h' news' → (∃ DD vs k tups, r = .ref DD ∧ (DD, listOf vs.toArray k) ∈ news' ∧ (∀ p ∈ news, p ∈ news') ∧ (∀ p ∈ tups, p ∈ news') ∧
     DatAll tups vs ((toldAt js ns ns.length).2.map (datA (numsOf ns)))) → Q r { s with heap := h', toks := tk' }) :
    wpAny (model PySem.Challenge.rw_mq0180_01.row.prog w) (ktrTop dp un gd cn cs L ad ccd cl []) (call (.ref 213) [.ref J, .ref NS]) Q E s := by
  refine wpAny_call ?_
  k_dflt (refine' code_defT ?k1 ?k2 ?k3 ?k4 ?k5 ?kA ?kF ?kK ?k6 ?k7 ?k8 ?k9 ?kB ?_ ?c2 ?c3 ?c4 ?c5; (case kA => exact rfl); (case kF => exact rfl); (case kK => assumption); (case k1 => k_asm); (case k2 => k_asm); (case k3 => k_asm); (case k4 => k_asm); (case k5 => k_asm); (case k6 => k_is); (case k7 => k_is); (case k8 => first | exact unit0 hd rfl | ktr_room); (case k9 => exact BindsTo.of_eq rfl); (case c5 => decide); (case kB => exact locs rfl); (case c2 => exact rfl); (case c3 => exact rfl); (case c4 => exact rfl); k_whole; intro g' L' h' FG' F' N' B' X' T' D'; (try dsimp only); (try k_fold))
  k_with_none
  k_with "exec For" => k_dflt refine for_any ?_
  k_with "exec For Tuple Call cons nil" => k_dflt refine for_any ?_
  k_with "EnumEnd" => refine hold ?_
  k_with "eval Call" => k_dflt refine Call_ ?_
  k_with "eval Call" => ((with_reducible show wpAny _ _ (eval (PySem.Expr.Call (PySem.Expr.Name _ _) [PySem.Expr.Name _ _] [] _) _) _ _ _); (with_reducible rename Fr _ _ _ _ => kF); k_dflt (refine' call1 kF ?k1 ?k2 ?k3 ?k4 ?k5 ?_; (case k1 => k_asm); (case k2 => k_asm); (case k3 => k_is); (case k4 => k_is); (case k5 => exact rfl); k_whole))
  k_with "eval Call" => ((with_reducible show wpAny _ _ (eval (PySem.Expr.Call (PySem.Expr.Name _ _) [PySem.Expr.Name _ _, PySem.Expr.Name _ _] [] _) _) _ _ _); (with_reducible rename Fr _ _ _ _ => kF); k_dflt (refine' call2 kF ?k1 ?k2 ?k3 ?k4 ?k5 ?k6 ?_; (case k1 => k_asm); (case k2 => k_asm); (case k3 => k_is); (case k4 => k_is); (case k5 => first | exact rfl | exact hq3); (case k6 => exact rfl); k_whole))
  k_with "pyIter ref" =>
    (rename News _ _ _ _ => lN)
    refine iter_enum lN (List.Mem.head _) ?_
  k_with "newList" =>
    (rename Fr _ _ _ _ => lF)
    (rename News _ _ _ _ => lN)
    refine newList_A lF lN ?_
    clear lF lN
    intro TD h6 F6 N6 hTD
  k_with "newList" =>
    (fail_if_success (have zz := hH))
    (rename Fr _ _ _ _ => lF)
    (rename News _ _ _ _ => lN)
    refine newList_A lF lN ?_
    clear lF lN
    intro H h5 F5 N5 hH
  k_with "call type:enumerate" =>
    (rename Fr _ _ _ _ => lF)
    (rename News _ _ _ _ => lN)
    refine enum_make (n := nn) lF lN (List.Mem.tail _ (List.Mem.tail _ hN)) ?_
    clear lF lN
    intro e' it' oi' h' F' N' hI' hE' hA'
  k_with "ForAt" =>
    (rename Fr _ _ _ _ => lF)
    (rename News _ _ _ _ => lN)
    obtain ⟨B0, hB0, G0⟩ : ∃ B0, B0 = topA [H, TD, e', it'] ∧ Ground [H, TD, e', it'] B0 news := ⟨_, rfl, ground_told hH hTD hE' hA'⟩
    with_unfolding_all refine for_enum (items := (jvals ns).toArray) (ToldK (Under2 w mean mg mb (ktrTop dp un gd cn cs L ad ccd cl []) base (envX cn cs L ad ccd cl) g') js ns _ H TD B0 news) lF (led₀ := (H, hO [] 0) :: (TD, listOf ([] : List Value).toArray 0) :: ([] ++ news)) (news_front2 lN ?mem) hI' ⟨⟨KtsTurn.refl, B', X', T', D'⟩, toldM_of (fun _ _ _ _ _ => rfl), [], 0, [], 0, [], rfl, ToldI.zero⟩ hE' ?hl ?hadr ?turn ?done rfl rfl rfl rfl rfl
    (case' mem =>
      intro p hp
      simp only [List.nil_append, List.mem_cons] at hp ⊢
      rcases hp with h | h | h | h | h
      · exact .inl h
      · exact .inr (.inl h)
      · exact .inr (.inr (.inr (.inl h)))
      · exact .inr (.inr (.inl h))
      · exact .inr (.inr (.inr (.inr h))))
    (case' hl =>
      rintro i g m led ⟨_, _, xs9, n9, vs9, k9, tups9, rfl, _⟩
      exact ⟨nn, List.Mem.tail _ (List.Mem.tail _ (List.mem_append_right _ hN))⟩)
    (case' hadr =>
      rintro i g m led ⟨_, _, xs9, n9, vs9, k9, tups9, rfl, hI9⟩
      exact told_hadr G0 hI9.hi)
    (case' turn =>
      clear lF lN
      rintro i v g m led kH kTk kT oi9 hv ⟨⟨U1, U2, U3, U4, U5⟩, ⟨u1, u2, u3, u4, rfl⟩, xs9, n9, vs9, k9, tups9, rfl, hI9⟩ kFr kNews hL9
      obtain ⟨n, tn, rfl, hn9, hi9⟩ := jvals_at hv
      have kN := told_start kNews
      clear kNews
      have hlo9 := code_lo n
      have hhi9 := code_hi n
      have hlen9 := hI9.len
      have hsz9 := hI9.size
      (try dsimp only)
      (try k_fold)
      generalize hQ9 : EnumEnd _ _ _ _ _ _ _ _ = Q9
      generalize hm9 : toldM u1 u2 u3 u4 _ = m9 at kFr
      have hq1 : m9 (Str.ofString "heap") = some (.ref H) := hm9 ▸ (by with_unfolding_all rfl)
      have hq2 : m9 (Str.ofString "told") = some (.ref TD) := hm9 ▸ (by with_unfolding_all rfl)
      have hq3 : m9 (Str.ofString "judges") = some (.ref J) := hm9 ▸ (by with_unfolding_all rfl)
      rcases are25 n with h25 | h25)
    (case' done =>
      clear lF lN
      rintro g m led kH kTk ⟨⟨U1, U2, U3, U4, U5⟩, ⟨u1, u2, u3, u4, rfl⟩, xs9, n9, vs9, k9, tups9, rfl, hI9⟩ kFr kNews
      (try dsimp only))
  k_with "eval Name" =>
    (with_reducible show wpAny _ _ (eval (PySem.Expr.Name (PySem.Str.ofString "heap") _) _) _ _ _)
    (rename Fr _ _ _ _ => lF)
    with_unfolding_all refine nameX_L lF hq1 ?_
  k_with "eval Name" =>
    (with_reducible show wpAny _ _ (eval (PySem.Expr.Name (PySem.Str.ofString "told") _) _) _ _ _)
    (rename Fr _ _ _ _ => lF)
    with_unfolding_all refine nameX_L lF hq2 ?_
  k_with "eval Name" =>
    (with_reducible show wpAny _ _ (eval (PySem.Expr.Name (PySem.Str.ofString "judges") _) _) _ _ _)
    (rename Fr _ _ _ _ => lF)
    with_unfolding_all refine nameX_L lF hq3 ?_
  k_with "binaryOp Mod int int" =>
    rcases yes25 h25 with h6 | h6
    all_goals refine mod6 h6 ?_
  k_with "binaryOp Mod int int" =>
    rcases no25 h25 with h6 | h6 | h6
    all_goals first | refine mod6 h6 ?_ | refine mod6 rfl ?_
  k_with "isTrue Compare" =>
    (rename Fr _ _ _ _ => lF)
    (rename News _ _ _ _ => lN)
    (first
      | with_unfolding_all refine min25 true lF lN (by with_unfolding_all rfl) h25 ?_
      | with_unfolding_all refine min25 false lF lN (by with_unfolding_all rfl) h25 ?_)
    clear lF lN
    intro h2 tk2 F2 N2
    (try dsimp only)
  k_with "call ref" =>
    (rename News _ _ _ _ => lN)
    (repeat replace lN := tuple_drop lN)
    k_dflt refine' Tell.useN thing_ ?k1 ?k2 ?k3 lN ?k5 ?kK ?kd ?ku ?_
    (case k1 => k_asm)
    (case k2 => k_asm)
    (case k3 => k_asm)
    (case k5 => k_asm)
    (case kK => exact rfl)
    (case kd => first | exact room1 hd rfl | ktr_room)
    (case ku => first | exact unit3 hu rfl | exact unit1 hu rfl | exact unit0 hu rfl | exact unit2 hu rfl | ktr_units)
    clear lN
    intro r5 h5 tk5 F5 N5 hx5
    (try dsimp only)
  k_with "call ref" =>
    (rename News _ _ _ _ => lN)
    (repeat replace lN := tuple_drop lN)
    k_dflt refine' Tell.useE (first_ (J := J) (nj := nj) (js := js) hx5.code ?hJ hjl hjr) ?k1 ?k2 ?k3 lN ?k5 ?kK ?kd ?ku ?_
    (case hJ => exact List.Mem.tail _ (List.Mem.tail _ (List.Mem.tail _ (List.Mem.tail _ (List.mem_append_right _ hJ)))))
    (case k1 => k_asm)
    (case k2 => k_asm)
    (case k3 => k_asm)
    (case k5 => k_asm)
    (case kK => exact rfl)
    (case kd => first | exact room1 hd rfl | ktr_room)
    (case ku => first | exact unit3 hu rfl | exact unit1 hu rfl | exact unit0 hu rfl | exact unit2 hu rfl | ktr_units)
    clear lN
    intro t6 h6' tk6 F6 N6
    (try dsimp only)
  k_with "call ref" =>
    (rename News _ _ _ _ => lN)
    (repeat replace lN := tuple_drop lN)
    k_dflt refine' Tell.use2 (deed_push (k := n % 6) h6 (H := H) (xs := xs9) (n := n9) (rest := (TD, listOf vs9.toArray k9) :: (e', enumO it' ((i : Int) + 1) (.int n tn)) :: (it', oi9) :: (((x4.a, tupO x4) :: tups9) ++ news)) (told_apart G0 (ent_le hI9.hi hB4)) (by omega) (fun e he => List.Mem.tail _ (List.Mem.tail _ (List.Mem.tail _ (List.mem_append_left _ (List.Mem.tail _ (hI9.ents e he).1))))) (e := x4) (List.Mem.tail _ (List.Mem.tail _ (List.Mem.tail _ (List.mem_append_left _ (List.Mem.head _))))) (hI9.nodup_new hp4)) ?k1 ?k2 ?k3 lN ?k5 ?kK ?kd ?ku ?_
    (case k1 => k_asm)
    (case k2 => k_asm)
    (case k3 => k_asm)
    (case k5 => k_asm)
    (case kK => exact rfl)
    (case kd => first | exact room1 hd rfl | ktr_room)
    (case ku => first | exact unit3 hu rfl | exact unit1 hu rfl | exact unit0 hu rfl | exact unit2 hu rfl | ktr_units)
    clear lN
    intro h7 tk7 F7 N7
    (try dsimp only)
  k_with "call ref" =>
    (rename News _ _ _ _ => lN)
    (repeat replace lN := tuple_drop lN)
    k_dflt refine' Tell.use2 (deed_pushpop (H := H) (xs := xs9) (n := n9) (rest := (TD, listOf vs9.toArray k9) :: (e', enumO it' ((i : Int) + 1) (.int n tn)) :: (it', oi9) :: (((x4.a, tupO x4) :: tups9) ++ news)) (told_apart G0 (ent_le hI9.hi hB4)) (by omega) (fun e he => List.Mem.tail _ (List.Mem.tail _ (List.Mem.tail _ (List.mem_append_left _ (List.Mem.tail _ (hI9.ents e he).1))))) (e := x4) (List.Mem.tail _ (List.Mem.tail _ (List.Mem.tail _ (List.mem_append_left _ (List.Mem.head _))))) (hI9.nodup_new hp4)) ?k1 ?k2 ?k3 lN ?k5 ?kK ?kd ?ku ?_
    (case k1 => k_asm)
    (case k2 => k_asm)
    (case k3 => k_asm)
    (case k5 => k_asm)
    (case kK => exact rfl)
    (case kd => first | exact room1 hd rfl | ktr_room)
    (case ku => first | exact unit3 hu rfl | exact unit1 hu rfl | exact unit0 hu rfl | exact unit2 hu rfl | ktr_units)
    clear lN
    intro h7 tk7 F7 N7
    (try dsimp only)
  k_with "call ref" =>
    (rename News _ _ _ _ => lN)
    (repeat replace lN := tuple_drop lN)
    k_dflt refine' Tell.use2 (deed_heapify (H := H) (xs := xs9) (n := n9) (rest := (TD, listOf vs9.toArray k9) :: (e', enumO it' ((i : Int) + 1) (.int n tn)) :: (it', oi9) :: (tups9 ++ news)) (told_apart G0 hI9.hi) (by omega) (fun e he => List.Mem.tail _ (List.Mem.tail _ (List.Mem.tail _ (List.mem_append_left _ (hI9.ents e he).1)))) hI9.nodup) ?k1 ?k2 ?k3 lN ?k5 ?kK ?kd ?ku ?_
    (case k1 => k_asm)
    (case k2 => k_asm)
    (case k3 => k_asm)
    (case k5 => k_asm)
    (case kK => exact rfl)
    (case kd => first | exact room1 hd rfl | ktr_room)
    (case ku => first | exact unit3 hu rfl | exact unit1 hu rfl | exact unit0 hu rfl | exact unit2 hu rfl | ktr_units)
    clear lN
    intro h7 tk7 F7 N7
    (try dsimp only)
  k_with "call ref" =>
    (rename News _ _ _ _ => lN)
    (repeat replace lN := tuple_drop lN)
    have zz1 := hne
    k_dflt refine' Tell.use2 (deed_pop (H := H) (xs := xs9) (n := n9) (rest := (TD, listOf vs9.toArray k9) :: (e', enumO it' ((i : Int) + 1) (.int n tn)) :: (it', oi9) :: (tups9 ++ news)) (told_apart G0 hI9.hi) (by omega) (fun e he => List.Mem.tail _ (List.Mem.tail _ (List.Mem.tail _ (List.mem_append_left _ (hI9.ents e he).1)))) hI9.nodup hne) ?k1 ?k2 ?k3 lN ?k5 ?kK ?kd ?ku ?_
    (case k1 => k_asm)
    (case k2 => k_asm)
    (case k3 => k_asm)
    (case k5 => k_asm)
    (case kK => exact rfl)
    (case kd => first | exact room1 hd rfl | ktr_room)
    (case ku => first | exact unit3 hu rfl | exact unit1 hu rfl | exact unit0 hu rfl | exact unit2 hu rfl | ktr_units)
    clear lN
    intro h7 tk7 F7 N7
    (try dsimp only)
  k_with "call ref" =>
    (rename News _ _ _ _ => lN)
    (repeat replace lN := tuple_drop lN)
    have zz1 := hne
    k_dflt refine' Tell.use2 (deed_replace (H := H) (xs := xs9) (n := n9) (rest := (TD, listOf vs9.toArray k9) :: (e', enumO it' ((i : Int) + 1) (.int n tn)) :: (it', oi9) :: (((x4.a, tupO x4) :: tups9) ++ news)) (told_apart G0 (ent_le hI9.hi hB4)) (by omega) (fun e he => List.Mem.tail _ (List.Mem.tail _ (List.Mem.tail _ (List.mem_append_left _ (List.Mem.tail _ (hI9.ents e he).1))))) (e := x4) (List.Mem.tail _ (List.Mem.tail _ (List.Mem.tail _ (List.mem_append_left _ (List.Mem.head _))))) (hI9.nodup_new hp4) (List.length_pos_iff.mpr hne)) ?k1 ?k2 ?k3 lN ?k5 ?kK ?kd ?ku ?_
    (case k1 => k_asm)
    (case k2 => k_asm)
    (case k3 => k_asm)
    (case k5 => k_asm)
    (case kK => exact rfl)
    (case kd => first | exact room1 hd rfl | ktr_room)
    (case ku => first | exact unit3 hu rfl | exact unit1 hu rfl | exact unit0 hu rfl | exact unit2 hu rfl | ktr_units)
    clear lN
    intro h7 tk7 F7 N7
    (try dsimp only)
  k_with "call ref" =>
    (rename News _ _ _ _ => lN)
    (repeat replace lN := tuple_drop lN)
    rw [hnil] at lN
    k_dflt refine' TellR.use (deed_pop_raises (H := H) (n := n9) (rest := (TD, listOf vs9.toArray k9) :: (e', enumO it' ((i : Int) + 1) (.int n tn)) :: (it', oi9) :: (tups9 ++ news))) ?k1 ?k2 ?k3 lN ?k5 ?kK ?kd ?ku ?_
    (case k1 => k_asm)
    (case k2 => k_asm)
    (case k3 => k_asm)
    (case k5 => k_asm)
    (case kK => exact rfl)
    (case kd => first | exact room1 hd rfl | ktr_room)
    (case ku => first | exact unit3 hu rfl | exact unit1 hu rfl | exact unit0 hu rfl | exact unit2 hu rfl | ktr_units)
    clear lN
    intro e8 g8 h8 tk8 F8 R8 S8
    (try dsimp only)
  k_with "call ref" =>
    (rename News _ _ _ _ => lN)
    (repeat replace lN := tuple_drop lN)
    rw [hnil] at lN
    k_dflt refine' TellR.use (deed_replace_raises (H := H) (n := n9) (rest := (TD, listOf vs9.toArray k9) :: (e', enumO it' ((i : Int) + 1) (.int n tn)) :: (it', oi9) :: (((x4.a, tupO x4) :: tups9) ++ news))) ?k1 ?k2 ?k3 lN ?k5 ?kK ?kd ?ku ?_
    (case k1 => k_asm)
    (case k2 => k_asm)
    (case k3 => k_asm)
    (case k5 => k_asm)
    (case kK => exact rfl)
    (case kd => first | exact room1 hd rfl | ktr_room)
    (case ku => first | exact unit3 hu rfl | exact unit1 hu rfl | exact unit0 hu rfl | exact unit2 hu rfl | ktr_units)
    clear lN
    intro e8 g8 h8 tk8 F8 R8 S8
    (try dsimp only)
  k_with "call ref" =>
    (fail_if_success (have zz := hne))
    (fail_if_success (have zz := hnil))
    (first | show wpAny _ _ (call (.ref 206) [_, .int 2 _, _]) _ _ _ | show wpAny _ _ (call (.ref 206) [_, .int 3 _, _]) _ _ _)
    rcases Classical.em (xs9 = []) with hnil | hne
  k_with "getMethod ref" =>
    (rename News _ _ _ _ => lN)
    (repeat replace lN := tuple_drop lN)
    (refine kl_method (its := vs9.toArray) (n := k9) lN ?m1 PySem.F.slot_list_append PySem.F.type_list_append ?_)
    (case m1 => exact List.Mem.tail _ (List.Mem.head _))
  k_with "newTuple" =>
    (rename Fr _ _ _ _ => lF)
    (rename News _ _ _ _ => lN)
    (repeat replace lN := tuple_drop lN)
    (show wpAny _ _ (newTuple [_, .int (i : Int) _, _]) _ _ _)
    refine told_make lF lN hx5 ?_
    clear lF lN
    intro x4 h4 ht4 hp4 hx4 hB4 F4 N4
    rw [← hB0] at hB4
  k_with "call builtin:list.append" =>
    (rename Fr _ _ _ _ => lF)
    (rename News _ _ _ _ => lN)
    (repeat replace lN := tuple_drop lN)
    (refine told_append (B := B0) lF lN G0 ?g2 ?g3 ?_)
    (case g2 => (first | exact hI9.hi | exact ent_le hI9.hi hB4))
    (case g3 => omega)
    clear lF lN
    intro h3 F3 N3
  k_steps
  · (rename Fr h₀ _ _ _ => lF)
    (rename News h₀ _ _ _ => lN)
    have e1 : (jvals ns).toArray.size = ns.length := by simp [jvals]
    rw [e1] at hI9
    refine hret _ _ _ _ lF lN ⟨TD, vs9, k9, tups9, rfl, List.Mem.tail _ (List.Mem.head _), fun p hp => ?_, fun p hp => ?_, hI9.ans⟩
    · exact List.Mem.tail _ (List.Mem.tail _ (List.mem_append_right _ hp))
    · exact List.Mem.tail _ (List.Mem.tail _ (List.mem_append_left _ hp))
  all_goals
    (try unfold Hold)
    (rename Fr _ _ _ _ => lF)
    (rename News _ _ _ _ => lN)
    (repeat replace lN := tuple_drop lN)
    refine told_fin hQ9 hm9 lF ?names lN hL9 ⟨?q1, ?q2, ?q3, ?q4, ?q5⟩ ?inv
    (case q1 => assumption)
    (case q2 => assumption)
    (case q3 => assumption)
    (case q4 => assumption)
    (case q5 => assumption)
    (case names =>
      intro z z1 z2 z3 z4
      exact (if_neg z4).trans ((if_neg z3).trans ((if_neg z1).trans (if_neg z2))))
    (case inv =>
      first
      | exact hI9.in hn9 h6 ht4 hp4 hx4 hB4
      | exact hI9.turned hn9 h6
      | exact hI9.out hn9 h6 hne
      | exact hI9.swap hn9 h6 (List.length_pos_iff.mpr hne) ht4 hp4 hx4 hB4
      | exact hI9.through hn9 h6 ht4 hp4 hx4 hB4
      | exact ToldI.out_none (hnil ▸ hI9) hn9 (.inl h6)
      | exact ToldI.out_none ((hnil ▸ hI9 : ToldI js ns i B0 [] vs9 tups9).more hB4) hn9 (.inr h6))
end
end Mine
end

section
open PySem PySem.W PyProof.Rows PySem.Spec PySem.Calls
set_option maxRecDepth 100000
namespace Mine
theorem ints_jvals {vs : List Value} {ns : List Int} (h : IntsAre vs ns) : ∃ js : List (Int × Tok), vs = jvals js ∧ js.map (·.1) = ns := by
  induction h with
  | nil => exact ⟨[], rfl, rfl⟩
  | cons i t _ ih =>
    obtain ⟨js, e1, e2⟩ := ih
    exact ⟨(i, t) :: js, by rw [e1]; rfl, by rw [← e2]; rfl⟩
theorem pow15 (k : Nat) : ¬ (15 : Int) ^ k = 0 := Int.ne_of_gt (Int.pow_pos (by decide))
theorem judges_ok {js : List (Int × Tok)} {n : Int} (h : js.map (·.1) = List.map (fun k' : Int => if ¬ (15 : Int) ^ k'.toNat = 0 then ((n.fdiv 4).fdiv (15 ^ k'.toNat)).fmod 15 else k') (rangeKs 0 (n.fmod 4 + 1 - 0).toNat)) :
    js.length ≤ 4 ∧ ∀ p ∈ js, 0 ≤ p.1 ∧ p.1 < 15 := by
  refine ⟨?_, fun p hp => ?_⟩
  · have := congrArg List.length h
    simp only [rangeKs, List.length_map, List.length_range] at this
    rw [Int.fmod_eq_emod_of_nonneg _ (by decide)] at this
    omega
  · have hm : p.1 ∈ js.map (·.1) := List.mem_map.mpr ⟨p, hp, rfl⟩
    rw [h] at hm
    obtain ⟨k, _, e⟩ := List.mem_map.mp hm
    rw [if_pos (pow15 _), Int.fmod_eq_emod_of_nonneg _ (by decide)] at e
    omega
theorem flat_rep (k : Nat) : (List.replicate k [(2 : Int)]).flatten.length = k := by
  induction k with
  | zero => rfl
  | succ k ih => rw [List.replicate_succ, List.flatten_cons, List.length_append, ih]; simp; omega
theorem numbers_ok {ns : List (Int × Tok)} {ws : List Int} {z : Nat} {c : Int} (h : ns.map (·.1) = [1854, 379, 2070, 108, 5, 2200, 813, 2] ++ List.take z ws ++ (List.replicate c.toNat [2]).flatten) (hz : z ≤ 10) (hc : c ≤ 18) : ns.length ≤ 100 := by
  have := congrArg List.length h
  rw [List.length_map, List.length_append, List.length_append, flat_rep, List.length_take] at this
  simp only [List.length_cons, List.length_nil] at this
  omega
theorem eq_same {prog : Program} {w : World} {A : Around} {E : Value → Shared → Prop} {s : Shared} {h₀ : Heap} {L a b : Addr} {news n₁ n₂ : List (Addr × Obj)} {xs ys : List Value} {ka kb : Nat} {ds : List Dat} {Q : Value → Shared → Prop}
    (N : News h₀ L s.heap news) (ma : (a, listOf xs.toArray ka) ∈ news) (Da : DatAll n₁ xs ds) (sa : ∀ p ∈ n₁, p ∈ news) (mb : (b, listOf ys.toArray kb) ∈ news) (Db : DatAll n₂ ys ds) (sb : ∀ p ∈ n₂, p ∈ news)
    (ha : ∀ d ∈ ds, kqdOk 8 d = true) (hu : A.units + 64 < cLine) (h : Q (.bool true) s) : wpAny (model prog w) A (compareOp .Eq (.ref a) (.ref b)) Q E s := by
  refine kqd_eq N ma rfl rfl Da sa mb rfl rfl Db sb ha ha hu ?_
  have e : ∀ i : Decidable (ds = ds), @decide (ds = ds) i = true := fun i => @decide_eq_true _ i rfl
  rw [e]
  exact h
theorem ans_ok {ns : List Int} {l : List Ans} : ∀ d ∈ l.map (datA ns), kqdOk 8 d = true := fun d hd => by
  obtain ⟨a, _, rfl⟩ := List.mem_map.mp hd
  exact datA_ok _ a
section
/-- the script's first number, or 11478: one number -/
theorem number_if {prog : Program} {w : World} {A : Around} {E : Value → Shared → Prop} {s : Shared} {cenv : Env} {p1 p2 p3 p4 p5 p6 : Pos} {k3 k5 : Nat} {mC : Str → Option Value} {l : Addr} {vs : List Value} {ns : List Int} {Q : Value → Shared → Prop}
    (hk : cenv.scope.kind = .function) (hl : cenv.kindOf (Str.ofString "script") = some .local) (hn : s.heap.Ns cenv.locals mC) (hv : mC (Str.ofString "script") = some (.ref l)) (hS : s.heap.IsList l vs.toArray) (hI : IntsAre vs ns) (hz : vs.length ≤ 1000)
    (h : ∀ n t tk, Q (.int n t) { s with toks := tk }) :
    wpAny (model prog w) A (eval (.IfExp (.Name (Str.ofString "script") p1) (.Subscript (.Name (Str.ofString "script") p2) (.Constant (.int 0) k3 p3) p4) (.Constant (.int 11478) k5 p5) p6) cenv) Q E s := by
  k_with_none
  k_with "eval Name" => refine nameC hk hl hn hv ?_
  k_with "truthy ref" => refine wpAny_truthy_list hS (by simp only [List.size_toArray]; omega) ?_
  k_with "subscriptTail" => with_unfolding_all refine item_listL hS (by decide) (by decide) rfl ?_
  cases hI with
  | nil =>
    repeat' (first | walk1 | (dsimp only; walk1))
    all_goals first | exact h _ _ _ | trace_state
  | cons n t r =>
    repeat' (first | walk1 | (dsimp only; walk1))
    all_goals first | exact h _ _ _ | trace_state
end
end Mine
end

section
open PySem PySem.W PyProof.Rows PySem.Spec PySem.Calls
set_option maxRecDepth 100000
set_option maxHeartbeats 8000000
namespace Mine
section
theorem law_ : PySem.Challenge.rw_mq0180_01.Holds := hd (by
  k_go0
  all_goals try k_fold
  k_with_none
  k_with "eval IfExp" =>
    (rename Fr _ _ _ _ => lF)
    (rename Heap.IsList _ _ _ => lL)
    (rename IntsAre _ _ => lI)
    have lz := lI.length
    (refine number_if rfl rfl lF.ns rfl (lstKept lL lF.keep) lI (by omega) ?_)
    clear lz
    intro n5 t5 tk5
    (try dsimp only)
  k_with "call ref" =>
    (rename IntsAre _ (List.map _ (rangeKs _ _)) => lY)
    (rename IntsAre _ (_ ++ _ ++ _) => lZ)
    (rename News _ _ _ _ => lN)
    obtain ⟨js, hjs0, hjs⟩ := ints_jvals lY
    obtain ⟨ns, hns0, hns⟩ := ints_jvals lZ
    have hj1 := judges_ok hjs
    have hn1 := numbers_ok hns (by omega) (by simp only [List.length_take]; omega)
    rw [hns0] at lN
    rw [hjs0] at lN
    k_dflt refine' told_ (js := js) (ns := ns) ?hJ ?hN hj1.1 hj1.2 hn1 ?k1 ?k2 ?k3 lN ?k5 ?kK ?kXB ?kTB ?kd ?ku ?_
    (case hJ => k_mem)
    (case hN => k_mem)
    (case k1 => k_asm)
    (case k2 => k_asm)
    (case k3 => k_asm)
    (case k5 => k_asm)
    (case kK => exact rfl)
    (case kXB => k_asm)
    (case kTB => k_asm)
    (case kd => ktr_room)
    (case ku => ktr_units)
    clear lY lZ lN
    rintro r9 n9 h9 tk9 F9 N9 ⟨TD, vs9, k9, tups9, rfl, hTD, hsub9, htup9, hans9⟩
    (try dsimp only)
  k_with "call ref" =>
    (rename News _ _ _ _ => lN)
    k_dflt refine' Tell.use (due_ (js := js) (ns := ns) (news := n9) (hsub9 _ ?hJ) (hsub9 _ ?hN) hj1.1 hj1.2 hn1) ?k1 ?k2 ?k3 lN ?k5 ?kK ?kd ?ku ?_
    (case hJ => k_mem)
    (case hN => k_mem)
    (case k1 => k_asm)
    (case k2 => k_asm)
    (case k3 => k_asm)
    (case k5 => k_asm)
    (case kK => exact rfl)
    (case kd => ktr_room)
    (case ku => ktr_units)
    clear lN
    rintro r8 n8 h8 tk8 F8 N8 ⟨DD, vs8, k8, tups8, rfl, hDD, hsub8, htup8, hans8⟩
    (try dsimp only)
  k_with "compareOp Eq ref ref" =>
    (rename News _ _ _ _ => lN)
    rw [told_due hj1.2 ns.length] at hans9
    refine eq_same lN (hsub8 _ hTD) hans9 (fun p hp => hsub8 _ (htup9 p hp)) hDD hans8 htup8 ans_ok (by ktr_units) ?_
  k_steps
  all_goals
    (rename (15 : Int) ^ _ = 0 => h0)
    exact absurd h0 (pow15 _))
end
end Mine
end

theorem PySem.Challenge.cw_mq0180_01_holds : PySem.Challenge.rw_mq0180_01.Holds :=
  Mine.law_
