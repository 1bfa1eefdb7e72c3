import PyProof.Rows.All
import Wide.All
import OpenK.AllK
import Wide.FinOn
import PySem.Challenge.RW_dp0037_02
open PySem PySem.W PyProof.Rows
set_option Elab.async false
set_option maxRecDepth 100000
section PartM1
namespace Mine
open PySem.AutoSeq1 (wpAny_loadPart')
open PySem.MeetsSeq PySem.MeetsSeq2 PySem.MeetsSeq3 PySem.SeqAt PySem.SeqRoads2

/-- the loop of a comparison by '<' at its second turn: two lists of one item each -/
theorem lt_loop1 (l b : Addr) (v v2 : Value) (n n2 : Nat) (dd dd2 : Option Addr) (sl sl2 : Array (Option Value)) :
    Meets (Builtin.«list.__eq__.loop» ⟨[.ref l, .ref b, rawInt 1, rawInt 0], []⟩)
      (fun _ R s => s.heap.get? l = some { cls := .type "list", dict := dd, data := .seq #[v] n, slots := sl } ∧ s.heap.get? b = some { cls := .type "list", dict := dd2, data := .seq #[v2] n2, slots := sl2 } ∧
        R (.ok (.ret (.bool false))) s) := by
  intro prog w A R s h
  obtain ⟨hp, g, d, tk, os⟩ := s; obtain ⟨hl, hb, h⟩ := h
  wp_walk using wpAny_loadPart' hl, wpAny_loadPart' hb
  exact h

theorem lt_loop0 (l b : Addr) (x y : Int) (t u : Tok) (n n2 : Nat) (dd dd2 : Option Addr) (sl sl2 : Array (Option Value)) :
    Meets (Builtin.«list.__eq__.loop» ⟨[.ref l, .ref b, rawInt 0, rawInt 0], []⟩)
      (fun _ R s => s.heap.get? l = some { cls := .type "list", dict := dd, data := .seq #[.int x t] n, slots := sl } ∧ s.heap.get? b = some { cls := .type "list", dict := dd2, data := .seq #[.int y u] n2, slots := sl2 } ∧
        R (.ok (.ret (.bool (decide (x < y))))) s) := by
  intro prog w A R s h
  obtain ⟨hp, g, d, tk, os⟩ := s; obtain ⟨hl, hb, h⟩ := h
  have q1 : ∃ items : Array Value, items = #[.int x t] := ⟨_, rfl⟩
  have q2 : ∃ items : Array Value, items = #[.int y u] := ⟨_, rfl⟩
  obtain ⟨i1, e1⟩ := q1
  obtain ⟨i2, e2⟩ := q2
  rw [← e1] at hl
  rw [← e2] at hb
  have hi1 : i1[((0 : Nat) : Int).toNat]? = some (.int x t) := by subst e1; rfl
  have hi2 : i2[((0 : Nat) : Int).toNat]? = some (.int y u) := by subst e2; rfl
  show wpAny _ _ (Builtin.«list.__eq__.loop» ⟨[.ref l, .ref b, rawInt ((0 : Nat) : Int), rawInt 0], []⟩) _ _ _
  wp_walk using wpAny_loadPart' hl, wpAny_loadPart' hb
  rw [hi1, hi2]
  refine wpAny_bind (EqGives.int x y t u _ _ _ _ _ _ ?_)
  by_cases e : x = y
  · subst e
    have h1 : (x == x) = true := by simp
    rw [h1]
    wp_walk
    subst e1 e2
    exact ⟨plainId_quiet plain_eq_loop _, codeAny_builtin entry_eq_loop (by
      rw [Around.under_plainId plain_eq_loop _]
      exact lt_loop1 l b _ _ n n2 dd dd2 sl sl2 prog w A R _ ⟨hl, hb, by simpa using h⟩)⟩
  · have h1 : (x == y) = false := by simp [e]
    rw [h1]
    wp_walk using wpAny_loadPart' hl, wpAny_loadPart' hb
    rw [hi1, hi2]
    refine wpAny_bind (wpAny_lt_int (wpAny_pure ?_))
    exact h

theorem list_lt_cells (l b : Addr) (x y : Int) (t u : Tok) (n n2 : Nat) (dd dd2 : Option Addr) (sl sl2 : Array (Option Value)) :
    Meets (Builtin.«list.__lt__» ⟨[.ref l, .ref b], []⟩)
      (fun _ R s => s.heap.get? l = some { cls := .type "list", dict := dd, data := .seq #[.int x t] n, slots := sl } ∧ s.heap.get? b = some { cls := .type "list", dict := dd2, data := .seq #[.int y u] n2, slots := sl2 } ∧
        R (.ok (.ret (.bool (decide (x < y))))) s) := by
  intro prog w A R s h
  obtain ⟨hp, g, d, tk, os⟩ := s; obtain ⟨hl, hb, h⟩ := h
  have f3 := AutoSeq1.sub_list_list
  wp_walk using wpAny_loadPart' hl, wpAny_loadPart' hb
  exact ⟨plainId_quiet plain_eq_loop _, codeAny_builtin entry_eq_loop (by
    rw [Around.under_plainId plain_eq_loop _]
    exact lt_loop0 l b x y t u n n2 dd dd2 sl sl2 prog w A R _ ⟨hl, hb, h⟩)⟩

theorem list_lt_none (l : Addr) (items : Array Value) (n : Nat) (dd : Option Addr) (sl : Array (Option Value)) :
    Meets (Builtin.«list.__lt__» ⟨[.ref l, .none], []⟩) (fun _ R s => s.heap.get? l = some { cls := .type "list", dict := dd, data := .seq items n, slots := sl } ∧ R (.ok (.ret .notImplemented)) s) :=
  .of_wp fun prog w A R s h => by obtain ⟨hp, g, d, tk, os⟩ := s; obtain ⟨hl, h⟩ := h; have f1 := F.sub_NoneType_list; wp_walk using wpAny_loadPart' hl; exact ⟨_, rfl, h⟩
theorem list_gt_none (l : Addr) (items : Array Value) (n : Nat) (dd : Option Addr) (sl : Array (Option Value)) :
    Meets (Builtin.«list.__gt__» ⟨[.ref l, .none], []⟩) (fun _ R s => s.heap.get? l = some { cls := .type "list", dict := dd, data := .seq items n, slots := sl } ∧ R (.ok (.ret .notImplemented)) s) :=
  .of_wp fun prog w A R s h => by obtain ⟨hp, g, d, tk, os⟩ := s; obtain ⟨hl, h⟩ := h; have f1 := F.sub_NoneType_list; wp_walk using wpAny_loadPart' hl; exact ⟨_, rfl, h⟩
theorem none_lt_ref (l : Addr) : Gives (Builtin.«NoneType.__lt__» ⟨[.none, .ref l], []⟩) (.val (Value.notImplemented)) :=
  .of_wp fun M A E s Q h => by obtain ⟨hp, g, d, tk, os⟩ := s; wp_walk; exact ⟨_, rfl, h⟩
theorem none_gt_ref (l : Addr) : Gives (Builtin.«NoneType.__gt__» ⟨[.none, .ref l], []⟩) (.val (Value.notImplemented)) :=
  .of_wp fun M A E s Q h => by obtain ⟨hp, g, d, tk, os⟩ := s; wp_walk; exact ⟨_, rfl, h⟩

section
variable {prog : Program} {w : World} {A : Around} {E : Value → Shared → Prop} {s : Shared}

/-- '<' of two lists of one int each -/
theorem lt_cells {l b : Addr} {x y : Int} {t u : Tok} {Q : Value → Shared → Prop} (hl : s.heap.IsList l #[.int x t]) (hb : s.heap.IsList b #[.int y u]) (hu : A.units < cLine)
    (h : Q (.bool (decide (x < y))) s) : wpAny (model prog w) A (compareOp .Lt (.ref l) (.ref b)) Q E s := by
  obtain ⟨⟨cls, dd, data, sl⟩, ho, hc, n, hd⟩ := id hl
  obtain ⟨⟨cls2, dd2, data2, sl2⟩, ho2, hc2, n2, hd2⟩ := id hb
  simp only at hc hd hc2 hd2
  subst hc hd hc2 hd2
  show wpAny _ _ (richCompare .Lt _ _) Q E s
  exact richCompare_meets_room (op := .Lt) ⟨_, ho, rfl⟩ ⟨_, ho2, rfl⟩ F.slot_list_lt F.entry_list_lt (F.args_list_lt_2 _ _) (list_lt_cells l b x y t u n n2 dd dd2 sl sl2)
    ⟨ho, ho2, show Value.bool (decide (x < y)) ≠ Value.notImplemented ∧ Q (.bool (decide (x < y))) s from ⟨(fun x => nomatch x), h⟩⟩ hu

/-- '<' where both sides decline: a TypeError (the types at this state alone) -/
theorem lt_declined {M : Model} {a b : Value} {Ta Tb ida idb : String} {Q : Value → Shared → Prop} (hh : A.handled = none) (ha : s.TypeIs a Ta) (hb : s.TypeIs b Tb)
    (hne : (Value.type Ta != Value.type Tb) = true) (hsub : isSubtype (.type Tb) (.type Ta) = pure false) (h1 : Slot Ta (cmpInfo .Lt).2.1 ida) (h2 : Slot Tb (cmpInfo .Lt).2.2 idb)
    (hna : (Value.type Ta == Value.type "builtin_function_or_method") = false) (hnb : (Value.type Tb == Value.type "builtin_function_or_method") = false)
    (hc1 : ∀ Q' : Value → Shared → Prop, Q' .notImplemented s → wpAny M A (call (.builtin ida) [a, b]) Q' E s)
    (hc2 : ∀ Q' : Value → Shared → Prop, Q' .notImplemented s → wpAny M A (call (.builtin idb) [b, a]) Q' E s)
    (h : ∀ h' tk e, Heap.NewExc s.heap h' e "TypeError" → E (.ref e) { s with heap := h', toks := tk })
    (hr : A.units < cLine) (hTa : (shownName Ta).length ≤ 1000 := by decide) (hTb : (shownName Tb).length ≤ 1000 := by decide) :
    wpAny M A (richCompare .Lt a b) Q E s := by
  simp only [richCompare, cmpInfo, ha.oneThing_none] at h1 h2 ⊢
  refine wpAny_holding ?_
  refine wpAny_bind (wpAny_cRoomFor hr ?_)
  refine wpAny_bind (wpAny_typeOf ha (wpAny_bind (wpAny_typeOf hb ?_)))
  simp only [hne, if_true]
  refine wpAny_bind (wpAny_of_eq hsub ?_)
  simp only [Bool.false_eq_true, if_false, Bool.not_false, if_true]
  refine wpAny_bind (m := tryCompare a _ b) (wpAny_tryCompare_declines ha h1 (hc1 _ ⟨rfl, ?_⟩))
  refine wpAny_bind (m := tryCompare b _ a) (wpAny_tryCompare_declines hb h2 (hc2 _ ⟨rfl, ?_⟩))
  refine wpAny_bind (wpAny_rule (wpAny_bind (wpAny_typeNameOf' ha hna (wpAny_bind (wpAny_typeNameOf' hb hnb (wpAny_raiseTypeError hh h ?_))))))
  show (Str.ofString _).length ≤ sizeLine
  rw [PySem.ofString_length, sizeLine_eq]
  simp only [String.length_append, toString]
  have e1 : "'".length ≤ 100 := by decide
  have e2 : "<".length ≤ 100 := by decide
  have e3 : "' not supported between instances of '".length ≤ 100 := by decide
  have e4 : "' and '".length ≤ 100 := by decide
  omega

theorem none_lt_none : Gives (Builtin.«NoneType.__lt__» ⟨[.none, .none], []⟩) (.val (Value.notImplemented)) :=
  .of_wp fun M A E s Q h => by obtain ⟨hp, g, d, tk, os⟩ := s; wp_walk; exact ⟨_, rfl, h⟩
theorem none_gt_none : Gives (Builtin.«NoneType.__gt__» ⟨[.none, .none], []⟩) (.val (Value.notImplemented)) :=
  .of_wp fun M A E s Q h => by obtain ⟨hp, g, d, tk, os⟩ := s; wp_walk; exact ⟨_, rfl, h⟩
theorem lt_none_none {Q : Value → Shared → Prop} (hh : A.handled = none) (hu : A.units < cLine)
    (h : ∀ h' tk e, Heap.NewExc s.heap h' e "TypeError" → E (.ref e) { s with heap := h', toks := tk }) : wpAny (model prog w) A (compareOp .Lt .none .none) Q E s := by
  show wpAny _ _ (richCompare .Lt _ _) Q E s
  have hT : s.TypeIs .none "NoneType" := rfl
  have h1 := F.slot_NoneType_lt
  have h2 := F.slot_NoneType_gt_refl
  simp only [richCompare, cmpInfo, hT.oneThing_none] at h1 h2 ⊢
  refine wpAny_holding ?_
  refine wpAny_bind (wpAny_cRoomFor hu ?_)
  refine wpAny_bind (wpAny_typeOf hT (wpAny_bind (wpAny_typeOf hT ?_)))
  have e0 : (Value.type "NoneType" != Value.type "NoneType") = false := by decide
  simp only [e0, Bool.false_eq_true, if_false]
  refine wpAny_bind (wpAny_pure ?_)
  simp only [Bool.false_eq_true, if_false, Bool.not_false, if_true]
  refine wpAny_bind (m := tryCompare .none _ .none) (wpAny_tryCompare_declines hT h1 (call_gives F.slot_NoneType_lt rfl F.entry_NoneType_lt (F.args_NoneType_lt_2 _ _) none_lt_none ⟨rfl, ?_⟩))
  refine wpAny_bind (m := tryCompare .none _ .none) (wpAny_tryCompare_declines hT h2 (call_gives F.slot_NoneType_gt_refl rfl F.entry_NoneType_gt (F.args_NoneType_gt_2 _ _) none_gt_none ⟨rfl, ?_⟩))
  refine wpAny_bind (wpAny_rule (wpAny_bind (wpAny_typeNameOf' hT (by decide) (wpAny_bind (wpAny_typeNameOf' hT (by decide) (wpAny_raiseTypeError hh h ?_))))))
  show (Str.ofString _).length ≤ sizeLine
  rw [PySem.ofString_length, sizeLine_eq]
  simp only [String.length_append, toString]
  have e1 : "'".length ≤ 100 := by decide
  have e2 : "<".length ≤ 100 := by decide
  have e3 : "' not supported between instances of '".length ≤ 100 := by decide
  have e4 : "' and '".length ≤ 100 := by decide
  have e5 : (shownName "NoneType").length ≤ 1000 := by decide
  omega

theorem lt_ref_none {l : Addr} {items : Array Value} {Q : Value → Shared → Prop} (hh : A.handled = none) (hl : s.heap.IsList l items) (hu : A.units < cLine)
    (h : ∀ h' tk e, Heap.NewExc s.heap h' e "TypeError" → E (.ref e) { s with heap := h', toks := tk }) : wpAny (model prog w) A (compareOp .Lt (.ref l) .none) Q E s := by
  obtain ⟨⟨cls, dd, data, sl⟩, ho, hc, n, hd⟩ := id hl
  simp only at hc hd
  subst hc hd
  show wpAny _ _ (richCompare .Lt _ _) Q E s
  exact lt_declined (Ta := "list") (Tb := "NoneType") hh ⟨_, ho, rfl⟩ rfl (by decide) F.sub_NoneType_list F.slot_list_lt F.slot_NoneType_gt_refl (by decide) (by decide)
    (fun Q' hq => call_meets F.slot_list_lt ⟨_, ho, rfl⟩ F.entry_list_lt (F.args_list_lt_2 _ _) (list_lt_none l items n dd sl) ⟨ho, hq⟩)
    (fun Q' hq => call_gives F.slot_NoneType_gt_refl rfl F.entry_NoneType_gt (F.args_NoneType_gt_2 _ _) (none_gt_ref l) hq) h hu
theorem lt_none_ref {l : Addr} {items : Array Value} {Q : Value → Shared → Prop} (hh : A.handled = none) (hl : s.heap.IsList l items) (hu : A.units < cLine)
    (h : ∀ h' tk e, Heap.NewExc s.heap h' e "TypeError" → E (.ref e) { s with heap := h', toks := tk }) : wpAny (model prog w) A (compareOp .Lt .none (.ref l)) Q E s := by
  obtain ⟨⟨cls, dd, data, sl⟩, ho, hc, n, hd⟩ := id hl
  simp only at hc hd
  subst hc hd
  show wpAny _ _ (richCompare .Lt _ _) Q E s
  exact lt_declined (Ta := "NoneType") (Tb := "list") hh rfl ⟨_, ho, rfl⟩ (by decide) F.sub_list_NoneType F.slot_NoneType_lt F.slot_list_gt_refl (by decide) (by decide)
    (fun Q' hq => call_gives F.slot_NoneType_lt rfl F.entry_NoneType_lt (F.args_NoneType_lt_2 _ _) (none_lt_ref l) hq)
    (fun Q' hq => call_meets F.slot_list_gt_refl ⟨_, ho, rfl⟩ F.entry_list_gt (F.args_list_gt_2 _ _) (list_gt_none l items n dd sl) ⟨ho, hq⟩) h hu
end
end Mine
end PartM1
section PartM2
namespace Mine
abbrev pw : Program := PySem.Challenge.pw_dp0037_02
def sdBody : List Stmt := match pw.main.body with | _ :: _ :: .FunctionDef _ _ b _ _ _ _ _ _ _ :: _ => b | _ => []
def suBody : List Stmt := match pw.main.body with | _ :: _ :: _ :: .FunctionDef _ _ b _ _ _ _ _ _ _ :: _ => b | _ => []
def hyBody : List Stmt := match pw.main.body with | _ :: .FunctionDef _ _ b _ _ _ _ _ _ _ :: _ => b | _ => []
def sdScope : Scope := match pw.main.body with | _ :: _ :: .FunctionDef _ _ _ _ _ _ sc _ _ _ :: _ => sc | _ => default
def suScope : Scope := match pw.main.body with | _ :: _ :: _ :: .FunctionDef _ _ _ _ _ _ sc _ _ _ :: _ => sc | _ => default
def hyScope : Scope := match pw.main.body with | _ :: .FunctionDef _ _ _ _ _ _ sc _ _ _ :: _ => sc | _ => default

/-! the plain functions -/
abbrev Cmp := Value → Value → Option Bool
def nth (vs : List Value) (i : Nat) : Value := vs.getD i .none
def sdLoop (lt : Cmp) (start : Nat) (x : Value) (vs : List Value) (pos : Nat) : Except (List Value) (List Value × Nat) :=
  if start < pos then
    match lt x (nth vs ((pos - 1) / 2)) with
    | none => .error vs
    | some true => sdLoop lt start x (vs.set pos (nth vs ((pos - 1) / 2))) ((pos - 1) / 2)
    | some false => .ok (vs, pos)
  else .ok (vs, pos)
termination_by pos
decreasing_by omega
def siftdown (lt : Cmp) (vs : List Value) (start pos : Nat) : Except (List Value) (List Value) :=
  match sdLoop lt start (nth vs pos) vs pos with
  | .error e => .error e
  | .ok (us, p) => .ok (us.set p (nth vs pos))
def suLoop (lt : Cmp) (vs : List Value) (pos : Nat) : Except (List Value) (List Value × Nat) :=
  if 2 * pos + 1 < vs.length then
    if 2 * pos + 2 < vs.length then
      match lt (nth vs (2 * pos + 1)) (nth vs (2 * pos + 2)) with
      | none => .error vs
      | some true => suLoop lt (vs.set pos (nth vs (2 * pos + 1))) (2 * pos + 1)
      | some false => suLoop lt (vs.set pos (nth vs (2 * pos + 2))) (2 * pos + 2)
    else suLoop lt (vs.set pos (nth vs (2 * pos + 1))) (2 * pos + 1)
  else .ok (vs, pos)
termination_by vs.length - pos
decreasing_by all_goals (simp only [List.length_set]; omega)
def siftup (lt : Cmp) (vs : List Value) (pos : Nat) : Except (List Value) (List Value) :=
  match suLoop lt vs pos with
  | .error e => .error e
  | .ok (us, p) => siftdown lt (us.set p (nth vs pos)) pos p

/-! frames by lists of bindings -/
def Lk (m : Str → Option Value) (bs : List (Str × Value)) : Prop := ∀ x v, bs.lookup x = some v → m x = some v
abbrev At (bs : List (Str × Value)) (x : Str) (v : Value) : Prop := bs.lookup x = some v
theorem Lk.put {m : Str → Option Value} {bs : List (Str × Value)} (l : Lk m bs) (x : Str) (v : Value) : Lk (fun y => if y = x then some v else m y) ((x, v) :: bs) := by
  intro y u h
  by_cases e : y = x
  · subst e
    simp only [List.lookup_cons, beq_self_eq_true] at h
    simp only [if_true]
    exact h
  · have : (y == x) = false := by simp [e]
    simp only [List.lookup_cons, this] at h
    simp only [if_neg e]
    exact l y u h
theorem Lk.nil {m : Str → Option Value} : Lk m [] := fun _ _ h => by cases h
theorem Lk.add {m : Str → Option Value} {bs : List (Str × Value)} {x : Str} {v : Value} (l : Lk m bs) (h : m x = some v) : Lk m ((x, v) :: bs) := by
  intro y u hy
  by_cases e : y = x
  · subst e
    simp only [List.lookup_cons, beq_self_eq_true] at hy
    exact h.trans hy
  · have : (y == x) = false := by simp [e]
    simp only [List.lookup_cons, this] at hy
    exact l y u hy

def Go (s s' : Shared) : Prop := ∃ h tk, s' = { s with heap := h, toks := tk }
theorem Go.refl (s : Shared) : Go s s := ⟨_, _, rfl⟩
theorem Go.trans {s₁ s₂ s₃ : Shared} (a : Go s₁ s₂) (b : Go s₂ s₃) : Go s₁ s₃ := by
  obtain ⟨h, t, rfl⟩ := a; obtain ⟨h', t', rfl⟩ := b; exact ⟨h', t', rfl⟩
theorem Go.mk {s : Shared} (h : Heap) (tk : Nat) : Go s { s with heap := h, toks := tk } := ⟨_, _, rfl⟩

/-- the state within a def that turns the list H alone -/
structure B (h₀ hc : Heap) (H L : Addr) (vs : List Value) (bs : List (Str × Value)) (h : Heap) : Prop where
  fr : ∃ m, Fr h₀ L h m ∧ Lk m bs
  ls : h.IsList H vs.toArray
  kp : ∀ b o, b ≠ H → hc.get? b = some o → h.get? b = some o
  nH : h₀.get? H = none
  ne : H ≠ L
  up : hc.objs.size ≤ L

section
variable {h₀ hc : Heap} {H L : Addr} {vs : List Value} {bs : List (Str × Value)} {M : Model} {A : Around} {E : Value → Shared → Prop} {s : Shared} {name : Str} {scope : Scope} {a : Addr} {cd : Value}

theorem B.ld {x : Str} {pos : Pos} {v : Value} {Q : Value → Shared → Prop} (b : B h₀ hc H L vs bs s.heap) (hv : bs.lookup x = some v) (h : Q v s)
    (hk : scope.kind = .function := by rfl) (hl : (envOf name scope L a cd).kindOf x = some .local := by rfl)
    (hd : (x == ("__debug__" : Str)) = false := by decide) : wpAny M A (eval (.Name x pos) (envOf name scope L a cd)) Q E s := by
  obtain ⟨m, F, l⟩ := b.fr
  exact PyProof.Rows.ld F (l x v hv) h hk hl hd
theorem B.stk {x : Str} {v : Value} {Q : Unit → Shared → Prop} (b : B h₀ hc H L vs bs s.heap)
    (h : ∀ s', Go s s' → B h₀ hc H L vs ((x, v) :: bs) s'.heap → (∀ c o, c ≠ L → s.heap.get? c = some o → s'.heap.get? c = some o) → Q () s')
    (hk : scope.kind = .function := by rfl) (hl : (envOf name scope L a cd).kindOf x = some .local := by rfl) :
    wpAny M A (storeName (envOf name scope L a cd) x v) Q E s := by
  obtain ⟨m, F, l⟩ := b.fr
  refine wpAny_storeName_local hl F.ns (fun h' hn hs => h _ (Go.mk _ _) ⟨⟨_, F.set hn hs, l.put x v⟩, ?_, ?_, b.nH, b.ne, b.up⟩ fun c o n e => (hs.2 c n).trans e) (by show (scope.kind == .class || (scope.kind == .module && L != mainGlobals)) = false; rw [hk]; rfl)
  · exact b.ls.at fun o e => (hs.2 H b.ne).trans e
  · intro c o c1 e
    exact (hs.2 c (Nat.ne_of_lt (Nat.lt_of_lt_of_le (Heap.lt_size e) b.up))).trans (b.kp c o c1 e)
theorem B.st {x : Str} {v : Value} {Q : Unit → Shared → Prop} (b : B h₀ hc H L vs bs s.heap)
    (h : ∀ s', Go s s' → B h₀ hc H L vs ((x, v) :: bs) s'.heap → Q () s')
    (hk : scope.kind = .function := by rfl) (hl : (envOf name scope L a cd).kindOf x = some .local := by rfl) :
    wpAny M A (storeName (envOf name scope L a cd) x v) Q E s := B.stk b (fun s' g b' _ => h s' g b') hk hl
theorem Fr.but {h h' : Heap} {m : Str → Option Value} (F : Fr h₀ L h m) (hs : Heap.SameBut H h h') (nH : h₀.get? H = none) (ne : H ≠ L) : Fr h₀ L h' m :=
  ⟨F.ns.sameBut hs (Ne.symm ne), fun b o e => (hs.2 b (fun q => by subst q; rw [nH] at e; cases e)).trans (F.keep b o e), F.above⟩
end

section
variable {h₀ hc : Heap} {H L : Addr} {vs : List Value} {bs : List (Str × Value)} {prog : Program} {w : World} {A : Around} {E : Value → Shared → Prop} {s : Shared}
theorem B.get {value slice : Expr} {k : Int} {u : Tok} {Q : Value → Shared → Prop} (b : B h₀ hc H L vs bs s.heap) (h0 : 0 ≤ k) (h1 : k.toNat < vs.length) (hn : vs.length < 2 ^ 62) (h : Q (nth vs k.toNat) s)
    (hs : subscripted slice false (.ref H) (.int k u) = operate [.ref H, .int k u] (getItem (.ref H) (.int k u)) := by with_unfolding_all rfl) (hg : ∀ r, letTemporaryGo value (.ref H) r = pure () := by intro _; with_unfolding_all rfl) :
    wpAny (model prog w) A (subscriptTail value slice (.ref H) (.int k u)) Q E s :=
  item_listL b.ls h0 (by omega) (by rw [nth, List.getD_eq_getElem?_getD, List.getElem?_eq_getElem h1]; rfl) h hs hg
theorem B.set {k : Int} {t : Tok} {v : Value} {Q : Unit → Shared → Prop} (b : B h₀ hc H L vs bs s.heap) (h0 : 0 ≤ k) (h1 : k.toNat < vs.length) (hn : vs.length < 2 ^ 62)
    (h : ∀ s', Go s s' → B h₀ hc H L (vs.set k.toNat v) bs s'.heap → Q () s') : wpAny (model prog w) A (setItem (.ref H) (.int k t) v) Q E s := by
  refine wpAny_setItem_list b.ls h0 (by omega) (by rw [List.size_toArray]; omega) (fun h' hl hs => h _ (Go.mk _ _) ?_)
  obtain ⟨m, F, l⟩ := b.fr
  refine ⟨⟨m, Fr.but F hs b.nH b.ne, l⟩, ?_, ?_, b.nH, b.ne, b.up⟩
  · show h'.IsList H (vs.set k.toNat v).toArray
    rw [← List.setIfInBounds_toArray]; exact hl
  · intro c o c1 e
    exact (hs.2 c c1).trans (b.kp c o c1 e)

/-- an item of the row: None, or a list of one int, known at the call's heap -/
def Itm (hc : Heap) (H : Addr) (key : Value → Option Int) (v : Value) : Prop :=
  (v = .none ∧ key v = none) ∨ ∃ a x t, v = .ref a ∧ key v = some x ∧ a ≠ H ∧ hc.IsList a #[.int x t]
def ltK (key : Value → Option Int) : Cmp := fun u v => match key u, key v with | some x, some y => some (decide (x < y)) | _, _ => none

theorem B.cell {a : Addr} {items : Array Value} (b : B h₀ hc H L vs bs s.heap) (ha : a ≠ H) (hl : hc.IsList a items) : s.heap.IsList a items := hl.at fun o e => b.kp a o ha e

theorem cmp_items {key : Value → Option Int} {u v : Value} {Q : Value → Shared → Prop} (b : B h₀ hc H L vs bs s.heap) (hu : Itm hc H key u) (hv : Itm hc H key v) (hh : A.handled = none) (hc' : A.units < cLine)
    (hok : ∀ r, ltK key u v = some r → Q (.bool r) s) (hno : ltK key u v = none → ∀ h' tk e, Heap.NewExc s.heap h' e "TypeError" → E (.ref e) { s with heap := h', toks := tk }) :
    wpAny (model prog w) A (compareOp .Lt u v) Q E s := by
  rcases hu with ⟨rfl, ku⟩ | ⟨a, x, t, rfl, ku, na, la⟩
  · rcases hv with ⟨rfl, kv⟩ | ⟨a', x', t', rfl, kv, na', la'⟩
    · exact lt_none_none hh hc' (hno (by simp [ltK, ku]))
    · exact lt_none_ref hh (b.cell na' la') hc' (hno (by simp [ltK, ku]))
  · rcases hv with ⟨rfl, kv⟩ | ⟨a', x', t', rfl, kv, na', la'⟩
    · exact lt_ref_none hh (b.cell na la) hc' (hno (by simp [ltK, kv]))
    · exact lt_cells (b.cell na la) (b.cell na' la') hc' (hok _ (by simp [ltK, ku, kv]))
end
end Mine
end PartM2
section PartM3
set_option maxHeartbeats 1000000
namespace Mine
section
variable {h₀ hc : Heap} {H L : Addr} {vs : List Value} {bs : List (Str × Value)} {w : World} {A : Around} {E : Value → Shared → Prop} {s : Shared} {f : Addr} {cd : Value} {key : Value → Option Int}
abbrev sdEnv (L f : Addr) (cd : Value) : Env := envOf "_siftdown" sdScope L f cd

theorem nth_mem {vs : List Value} {i : Nat} (h : i < vs.length) : nth vs i ∈ vs := by
  rw [nth, List.getD_eq_getElem?_getD, List.getElem?_eq_getElem h]; exact List.getElem_mem h

theorem sd_body {start pos : Nat} {t1 t2 : Tok} {Q : Flow → Shared → Prop} (b : B h₀ hc H L vs bs s.heap) (l1 : At bs "heap" (.ref H)) (l2 : At bs "startpos" (.int start t1)) (l3 : At bs "pos" (.int pos t2))
    (hI : ∀ v ∈ vs, Itm hc H key v) (hpos : pos < vs.length) (hn : vs.length < 2 ^ 62) (hh : A.handled = none) (hu : A.units < cLine)
    (hok : ∀ us bs' s', Go s s' → siftdown (ltK key) vs start pos = .ok us → B h₀ hc H L us bs' s'.heap → Q .next s')
    (hno : ∀ us bs' s', Go s s' → siftdown (ltK key) vs start pos = .error us → B h₀ hc H L us bs' s'.heap → ∀ h' tk e, Heap.NewExc s'.heap h' e "TypeError" →
      notedBy (model pw w) A (sdEnv L f cd) (cameBackBy (model pw w) A (sdEnv L f cd) E) (.ref e) { s' with heap := h', toks := tk }) :
    wpAny (model pw w) A (execs sdBody (sdEnv L f cd)) Q E s := by
  unfold sdBody
  refine wpAny_execs_cons ?_
  refine wpAny_Assign_Name ?_
  refine Subscript_ ?_
  refine B.ld b l1 ?_
  refine B.ld b l3 ?_
  refine B.get b (by omega) (by simpa using hpos) hn ?_
  refine B.st b fun s₁ g₁ b₁ => ?_
  dsimp only
  rw [Int.toNat_natCast] at b₁
  have hx : Itm hc H key (nth vs pos) := hI _ (nth_mem hpos)
  generalize hX : nth vs pos = X at b₁ hx
  refine wpAny_execs_cons ?_
  refine wpAny_While (codeAny_whileLoop (I := fun n s' => ∃ us bs' t, Go s s' ∧ B h₀ hc H L us bs' s'.heap ∧ At bs' "heap" (.ref H) ∧ At bs' "startpos" (.int start t1) ∧ At bs' "pos" (.int (n : Nat) t) ∧ At bs' "newitem" X ∧
    us.length = vs.length ∧ sdLoop (ltK key) start X us n = sdLoop (ltK key) start X vs pos ∧ (∀ v ∈ us, Itm hc H key v) ∧ n < us.length) ?_ pos ⟨vs, _, t2, g₁, b₁, l1, l2, l3, rfl, rfl, rfl, hI, hpos⟩)
  clear b₁ g₁
  rintro n s₁ ⟨us, bs', t, g₁, b₁, k1, k2, k3, k4, hlen, heq, hI', hp⟩
  refine wpAny_isTrue_Compare1 ?_
  refine B.ld b₁ k3 ?_
  refine B.ld b₁ k2 ?_
  refine gt_int ?_
  refine wpAny_truthy_bool ?_
  have fin : sdLoop (ltK key) start X us n = .ok (us, n) → ∀ s₂ bs₂, Go s s₂ → B h₀ hc H L us bs₂ s₂.heap → At bs₂ "heap" (.ref H) → At bs₂ "pos" (.int (n : Nat) t) → At bs₂ "newitem" X →
      wpAny (model pw w) A (execs (match pw.main.body with | _ :: _ :: .FunctionDef _ _ (_ :: _ :: r) _ _ _ _ _ _ _ :: _ => r | _ => []) (sdEnv L f cd)) Q E s₂ := by
    intro he s₂ bs₂ g₂ b₂ j1 j3 j4
    refine wpAny_execs_cons ?_
    refine wpAny_Assign_Subscript ?_
    refine B.ld b₂ j4 ?_
    refine B.ld b₂ j1 ?_
    refine B.ld b₂ j3 ?_
    refine B.set b₂ (by omega) (by simpa using hp) (by omega) fun s₃ g₃ b₃ => ?_
    dsimp only
    refine wpAny_execs_nil ?_
    rw [Int.toNat_natCast] at b₃
    refine hok _ _ _ (g₂.trans g₃) ?_ b₃
    rw [siftdown, hX, ← heq, he]
  by_cases hlt : start < n
  · have hd : decide ((start : Int) < (n : Int)) = true := by simp; omega
    rw [hd]
    simp only [if_true]
    refine wpAny_execs_cons ?_
    refine wpAny_Assign_Name ?_
    refine wpAny_BinOp ?_
    refine wpAny_BinOp ?_
    refine B.ld b₁ k3 ?_
    refine wpAny_Constant_int ?_
    refine sub_int ?_
    refine wpAny_Constant_int ?_
    refine rshift_int_or hh (fun h => absurd h (by decide)) fun _ => ?_
    have hpar : ((n : Int) - 1).fdiv (2 ^ (1 : Int).toNat) = (((n - 1) / 2 : Nat) : Int) := by
      rw [show (2 : Int) ^ (1 : Int).toNat = 2 from rfl, Int.fdiv_eq_ediv_of_nonneg _ (by omega)]
      omega
    rw [hpar]
    refine B.st b₁ fun s₂ g₂ b₂ => ?_
    dsimp only
    refine wpAny_execs_cons ?_
    refine wpAny_Assign_Name ?_
    refine Subscript_ ?_
    refine B.ld b₂ k1 ?_
    refine B.ld b₂ rfl ?_
    refine B.get b₂ (by omega) (by omega) (by omega) ?_
    rw [Int.toNat_natCast]
    refine B.st b₂ fun s₃ g₃ b₃ => ?_
    dsimp only
    have g₃' : Go s s₃ := g₁.trans (Go.trans (Go.trans ⟨_, _, rfl⟩ g₂) g₃)
    refine wpAny_execs_cons ?_
    refine wpAny_If ?_
    refine wpAny_isTrue_Compare1 ?_
    refine B.ld b₃ k4 ?_
    refine B.ld b₃ rfl ?_
    refine cmp_items b₃ hx (hI' _ (nth_mem (by omega))) hh hu (fun r hr => ?_) (fun hr h' tk e hx' => ?_)
    · refine wpAny_truthy_bool ?_
      cases r with
      | true =>
        simp only [if_true]
        refine wpAny_execs_cons ?_
        refine wpAny_Assign_Subscript ?_
        refine B.ld b₃ rfl ?_
        refine B.ld b₃ k1 ?_
        refine B.ld b₃ k3 ?_
        refine B.set b₃ (by omega) (by omega) (by omega) fun s₄ g₄ b₄ => ?_
        dsimp only
        refine wpAny_execs_cons ?_
        refine wpAny_Assign_Name ?_
        refine B.ld b₄ rfl ?_
        refine B.st b₄ fun s₅ g₅ b₅ => ?_
        dsimp only
        refine wpAny_execs_cons ?_
        refine SiftDown.continue_ ?_
        dsimp only
        rw [Int.toNat_natCast] at b₅
        refine ⟨(n - 1) / 2, by omega, _, _, _, (g₃'.trans g₄).trans g₅, b₅, k1, k2, rfl, k4, by rw [List.length_set]; exact hlen, ?_, ?_, by rw [List.length_set]; omega⟩
        · rw [← heq]
          conv => rhs; rw [sdLoop]
          rw [if_pos hlt, hr]
        · intro v hv
          rcases List.mem_or_eq_of_mem_set hv with h | h
          · exact hI' v h
          · rw [h]; exact hI' _ (nth_mem (by omega))
      | false =>
        simp only [Bool.false_eq_true, if_false]
        refine wpAny_execs_nil ?_
        dsimp only
        refine wpAny_execs_cons ?_
        refine SiftDown.break_ ?_
        dsimp only
        refine fin ?_ _ _ g₃' b₃ k1 k3 k4
        rw [sdLoop, if_pos hlt, hr]
    · refine hno us _ s₃ g₃' ?_ b₃ h' tk e hx'
      rw [siftdown, hX, ← heq, sdLoop, if_pos hlt, hr]
  · have hd : decide ((start : Int) < (n : Int)) = false := by simp; omega
    rw [hd]
    simp only [Bool.false_eq_true, if_false]
    refine wpAny_execs_nil ?_
    dsimp only
    refine fin ?_ _ _ g₁ b₁ k1 k3 k4
    rw [sdLoop, if_neg hlt]
end
end Mine
end PartM3
section PartM4
namespace Mine
/-! a TypeError on its way through frames -/

/-- the frames on the stack stand in h -/
def Frs (h : Heap) : List Env → Prop
  | [] => True
  | env :: rest => env.scope.kind = .function ∧ (∃ L o es ep, env.frame = some L ∧ h.get? L = some o ∧ o.data = .dict es ep) ∧ Frs h rest
theorem Frs.fun {h : Heap} : ∀ {l : List Env}, Frs h l → h.FunFrames { objs := #[] } l
  | [], _ => trivial
  | env :: rest, ⟨hk, ⟨L, o, es, ep, hf, ho, hd⟩, hr⟩ => ⟨by rw [hk]; decide, ⟨L, o, hf, by simp [Heap.get?], ho, fun vs q => by rw [hd] at q; cases q⟩, Frs.fun hr⟩
theorem Frs.keeps {h h' : Heap} (k : ∀ b o, h.get? b = some o → (∃ es ep, o.data = .dict es ep) → ∃ o', h'.get? b = some o' ∧ o'.data = o.data) : ∀ {l : List Env}, Frs h l → Frs h' l
  | [], _ => trivial
  | env :: rest, ⟨hk, ⟨L, o, es, ep, hf, ho, hd⟩, hr⟩ => by
    obtain ⟨o', ho', hd'⟩ := k L o ho ⟨es, ep, hd⟩
    exact ⟨hk, ⟨L, o', es, ep, hf, ho', hd'.trans hd⟩, Frs.keeps k hr⟩
theorem Frs.mem {h : Heap} : ∀ {l : List Env} {b : Addr}, Frs h l → b ∈ l.filterMap (·.frame) → ∃ o es ep, h.get? b = some o ∧ o.data = .dict es ep
  | [], _, _, hb => by simp at hb
  | env :: rest, b, ⟨hk, ⟨L, o, es, ep, hf, ho, hd⟩, hr⟩, hb => by
    rw [List.filterMap_cons, hf] at hb
    rcases List.mem_cons.mp hb with e | hb
    · subst e; exact ⟨o, es, ep, ho, hd⟩
    · exact Frs.mem hr hb

/-- h' is h with the exception e in flight (fl: where it was noted last); the frames fs may have other slots -/
structure Exc (fs : List Addr) (h h' : Heap) (e : Addr) (fl : Value) : Prop where
  keep : ∀ b o, h.get? b = some o → b ∉ fs → h'.get? b = some o
  frm : ∀ b o, h.get? b = some o → ∃ sl, h'.get? b = some { o with slots := sl }
  new : h.get? e = none
  there : ∃ ob vs tb otb tvs, h'.get? e = some ob ∧ ob.cls = .type "TypeError" ∧ ob.data = .fields vs ∧ vs[1]? = some (.ref tb) ∧ h'.get? tb = some otb ∧ otb.data = .fields tvs ∧ tvs[3]? = some fl ∧ tb ≠ e ∧ h.get? tb = none

theorem Exc.mono {fs gs : List Addr} {h h' : Heap} {e : Addr} {fl : Value} (x : Exc fs h h' e fl) (hs : ∀ b, b ∈ fs → b ∈ gs) : Exc gs h h' e fl :=
  ⟨fun b o q n => x.keep b o q fun m => n (hs b m), x.frm, x.new, x.there⟩
theorem Exc.frs {fs : List Addr} {h h' : Heap} {e : Addr} {fl : Value} (x : Exc fs h h' e fl) {l : List Env} (f : Frs h l) : Frs h' l :=
  Frs.keeps (fun b o hb _ => let ⟨sl, q⟩ := x.frm b o hb; ⟨_, q, rfl⟩) f

section
variable {M : Model} {A : Around} {E : Value → Shared → Prop} {s : Shared}

/-- a new entry behind e's head, at env's frame -/
theorem entry_new {gs : List Addr} {env : Env} {outer : List Env} {L e : Addr} {oe : Obj} {vs : Array Value} {head : Value} {hadNext : Bool} {h : Heap} {Q : Unit → Shared → Prop}
    (hg : ∀ b, b ∈ (env :: outer).filterMap (·.frame) → b ∈ gs) (hfr : A.frames = some (env :: outer)) (hl : Frs h (env :: outer)) (hf : env.frame = some L)
    (hk1 : ∀ b o, h.get? b = some o → b ∉ gs → s.heap.get? b = some o) (hk2 : ∀ b o, h.get? b = some o → ∃ sl, s.heap.get? b = some { o with slots := sl })
    (he : s.heap.get? e = some oe) (hne : h.get? e = none) (hcls : oe.cls = .type "TypeError") (hd : oe.data = .fields vs) (hsz : 1 < vs.size)
    (k : ∀ h', Exc gs h h' e (rawInt L) → Q () { s with heap := h' }) :
    wpAny M A (do let a ← frameOf env; let pl ← entryPlaceOf L hadNext; let b ← EntryCells.newEntry head a .none (rawInt L) .none pl; setField (.ref e) 1 b) Q E s := by
  have hls : Frs s.heap (env :: outer) := Frs.keeps (fun b o hb _ => let ⟨sl, q⟩ := hk2 b o hb; ⟨_, q, rfl⟩) hl
  have hene : e ∉ (env :: outer).filterMap (·.frame) := fun hm => by
    obtain ⟨o, _, _, ho, _⟩ := hl.mem hm
    rw [hne] at ho; cases ho
  refine wpAny_bind (wpAny_frameOf_fun hfr hls.fun hf fun h₁ hs₁ => ?_)
  refine wpAny_bind (wpAny_entryPlaceOf fun pl hpl => ?_)
  unfold EntryCells.newEntry newFields
  refine wpAny_bind (wpAny_newObj_type ?_ (hpl.sizeOk5 _ _ _ _ _))
  have he₁ : h₁.get? e = some oe := (hs₁.2.1 e hene).trans he
  have he₂ := Heap.get?_push_of_some (h := h₁) { cls := .type "traceback", dict := none, data := .fields ([head, .ref L, .none, rawInt L, .none] ++ (if pl.isEmpty then List.replicate 6 Value.none else pl)).toArray } he₁
  refine wpAny_setField he₂ hd hsz (k _ ?_)
  have hTe : h₁.objs.size ≠ e := Nat.ne_of_gt (Heap.lt_size he₁)
  have hd₃ := Obj.data_mapFields hd (·.setIfInBounds 1 (Value.ref h₁.objs.size))
  have he₃ := Heap.get?_update_self (Obj.mapFields (·.setIfInBounds 1 (Value.ref h₁.objs.size))) he₂ (Obj.isFreed_of_fields hd₃)
  have hT₃ := (Heap.get?_update_other (h₁.push { cls := .type "traceback", dict := none, data := .fields ([head, .ref L, .none, rawInt L, .none] ++ (if pl.isEmpty then List.replicate 6 Value.none else pl)).toArray })
    (Obj.mapFields (·.setIfInBounds 1 (Value.ref h₁.objs.size))) (Ne.symm hTe)).trans (Heap.get?_push_size h₁ rfl)
  have keep : ∀ b o, b ≠ e → h₁.get? b = some o →
      ((h₁.push { cls := .type "traceback", dict := none, data := .fields ([head, .ref L, .none, rawInt L, .none] ++ (if pl.isEmpty then List.replicate 6 Value.none else pl)).toArray }).update e (Obj.mapFields (·.setIfInBounds 1 (Value.ref h₁.objs.size)))).get? b = some o := fun b o hbe hb => by
    rw [Heap.get?_update_other _ _ (Ne.symm hbe)]
    exact Heap.get?_push_of_some _ hb
  have hbe : ∀ b o, h.get? b = some o → b ≠ e := fun b o hb q => by rw [q, hne] at hb; cases hb
  refine ⟨fun b o hb hnm => ?_, fun b o hb => ?_, hne, ?_⟩
  · exact keep b o (hbe b o hb) ((hs₁.2.1 b fun m => hnm (hg b m)).trans (hk1 b o hb hnm))
  · obtain ⟨sl, q⟩ := hk2 b o hb
    obtain ⟨sl', q'⟩ := hs₁.2.2 b _ q
    exact ⟨sl', keep b _ (hbe b o hb) q'⟩
  · refine ⟨_, _, h₁.objs.size, _, _, he₃, (Obj.cls_mapFields _ _).trans hcls, hd₃, by simp [hsz], hT₃, rfl, by simp, hTe, ?_⟩
    cases hq : h.get? h₁.objs.size with
    | none => rfl
    | some o =>
      obtain ⟨sl, q⟩ := hk2 _ o hq
      obtain ⟨sl', q'⟩ := hs₁.2.2 _ _ q
      exact absurd (Heap.lt_size q') (Nat.lt_irrefl _)

/-- the first note of a new exception -/
theorem note_new {env : Env} {outer : List Env} {L e : Addr} {h : Heap} {Q : Unit → Shared → Prop} (hfr : A.frames = some (env :: outer)) (hl : Frs h (env :: outer)) (hf : env.frame = some L)
    (hx : Heap.NewExc h s.heap e "TypeError") (k : ∀ h', Exc ((env :: outer).filterMap (·.frame)) h h' e (rawInt L) → Q () { s with heap := h' }) : wpAny M A (noteFrame (.ref e) env) Q E s := by
  obtain ⟨ob, t, he, hcls, hd⟩ := hx.there
  unfold noteFrame
  simp only [hf]
  refine wpAny_bind (wpAny_field he hd (x := .none) rfl ?_)
  rw [if_neg (by decide)]
  exact entry_new (fun _ m => m) hfr hl hf (fun b o hb _ => hx.keeps b o hb) (fun b o hb => ⟨o.slots, hx.keeps b o hb⟩) he hx.new hcls hd (by simp) k

/-- a further note, at a frame where it was not noted -/
theorem note_on {env : Env} {outer : List Env} {fs : List Addr} {L e : Addr} {h : Heap} {Q : Unit → Shared → Prop} (hg : ∀ b, b ∈ (env :: outer).filterMap (·.frame) → b ∈ fs) (hfr : A.frames = some (env :: outer)) (hl : Frs h (env :: outer)) (hf : env.frame = some L)
    (x : Exc fs h s.heap e .none) (k : ∀ h', Exc fs h h' e (rawInt L) → Q () { s with heap := h' }) : wpAny M A (noteFrame (.ref e) env) Q E s := by
  obtain ⟨ob, vs, tb, otb, tvs, he, hcls, hd, h1, htb, htd, h3, hte, htn⟩ := x.there
  unfold noteFrame
  simp only [hf]
  refine wpAny_bind (wpAny_field he hd h1 ?_)
  rw [if_pos (show (Value.ref tb != Value.none) = true from by simp)]
  refine wpAny_bind (wpAny_field htb htd h3 ?_)
  rw [if_neg (show ¬ ((Value.none == rawInt L) = true) from by simp [rawInt])]
  refine wpAny_bind (wpAny_setField htb htd (Array.getElem?_eq_some_iff.mp h3).1 ?_)
  have hbt : ∀ b o, h.get? b = some o → b ≠ tb := fun b o hb q => by rw [q, htn] at hb; cases hb
  have other : ∀ b, b ≠ tb → (s.heap.update tb (Obj.mapFields (·.setIfInBounds 3 Value.none))).get? b = s.heap.get? b := fun b hb => Heap.get?_update_other _ _ (Ne.symm hb)
  exact entry_new (s := { s with heap := s.heap.update tb (Obj.mapFields (·.setIfInBounds 3 Value.none)) }) hg hfr hl hf (fun b o hb hn => (other b (hbt b o hb)).trans (x.keep b o hb hn))
    (fun b o hb => let ⟨sl, q⟩ := x.frm b o hb; ⟨sl, (other b (hbt b o hb)).trans q⟩) ((other e (Ne.symm hte)).trans he) x.new hcls hd (Array.getElem?_eq_some_iff.mp h1).1 k

/-- a note at the frame where it was noted: nothing -/
theorem note_same {env : Env} {fs : List Addr} {L e : Addr} {h : Heap} {Q : Unit → Shared → Prop} (hf : env.frame = some L) (x : Exc fs h s.heap e (rawInt L)) (k : Q () s) : wpAny M A (noteFrame (.ref e) env) Q E s := by
  obtain ⟨ob, vs, tb, otb, tvs, he, hcls, hd, h1, htb, htd, h3, hte, htn⟩ := x.there
  unfold noteFrame
  simp only [hf]
  refine wpAny_bind (wpAny_field he hd h1 ?_)
  rw [if_pos (show (Value.ref tb != Value.none) = true from by simp)]
  refine wpAny_bind (wpAny_field htb htd h3 ?_)
  rw [if_pos (show (rawInt L == rawInt L) = true from by simp)]
  exact wpAny_pure k

theorem flight {fs : List Addr} {e : Addr} {h : Heap} {fl : Value} {fr : Option Addr} {Q : Unit → Shared → Prop} (x : Exc fs h s.heap e fl) (k : ∀ h', Exc fs h h' e (fr.elim .none fun f => rawInt f) → Q () { s with heap := h' }) :
    wpAny M A (setFlight (.ref e) fr) Q E s := by
  obtain ⟨ob, vs, tb, otb, tvs, he, hcls, hd, h1, htb, htd, h3, hte, htn⟩ := x.there
  unfold setFlight
  refine wpAny_bind (wpAny_field he hd h1 ?_)
  rw [if_pos (show (Value.ref tb != Value.none) = true from by simp)]
  have hsz := (Array.getElem?_eq_some_iff.mp h3).1
  refine wpAny_setField htb htd hsz (k _ ?_)
  have hbt : ∀ b o, h.get? b = some o → b ≠ tb := fun b o hb q => by rw [q, htn] at hb; cases hb
  have other : ∀ b, b ≠ tb → (s.heap.update tb (Obj.mapFields (·.setIfInBounds 3 (fr.elim .none fun f => rawInt f)))).get? b = s.heap.get? b := fun b hb => Heap.get?_update_other _ _ (Ne.symm hb)
  refine ⟨fun b o hb hn => (other b (hbt b o hb)).trans (x.keep b o hb hn), fun b o hb => let ⟨sl, q⟩ := x.frm b o hb; ⟨sl, (other b (hbt b o hb)).trans q⟩, x.new,
    ob, vs, tb, _, _, (other e (Ne.symm hte)).trans he, hcls, hd, h1, Heap.get?_update_self _ htb (Obj.isFreed_of_fields (Obj.data_mapFields htd _)), Obj.data_mapFields htd _, by simp [hsz], hte, htn⟩

/-- out of a loop's code -/
theorem came_back {env : Env} {fs : List Addr} {L e : Addr} {h : Heap} {fl : Value} (hf : env.frame = some L) (x : Exc fs h s.heap e fl) (k : ∀ h', Exc fs h h' e (rawInt L) → E (.ref e) { s with heap := h' }) : cameBackBy M A env E (.ref e) s := by
  obtain ⟨ob, vs, tb, otb, tvs, he, hcls, hd, h1, htb, htd, h3, hte, htn⟩ := id x.there
  unfold cameBackBy
  refine wpAny_bind (wpAny_field he hd h1 ?_)
  dsimp only
  rw [if_neg (show ¬ ((Value.ref tb == Value.none) = true) from by simp)]
  rw [hf]
  exact flight (fr := some L) x k

/-- out of a def's body, from its own frame | from a frame above -/
theorem leave_same {env : Env} {fs : List Addr} {L e : Addr} {h : Heap} {Q : Unit → Shared → Prop} (hf : env.frame = some L) (x : Exc fs h s.heap e (rawInt L)) (k : ∀ h', Exc fs h h' e .none → Q () { s with heap := h' }) :
    wpAny M A (leaving env (.ref e)) Q E s := by
  unfold leaving
  exact wpAny_bind (note_same hf x (flight (fr := none) x k))
theorem leave_on {env : Env} {outer : List Env} {fs : List Addr} {L e : Addr} {h : Heap} {Q : Unit → Shared → Prop} (hg : ∀ b, b ∈ (env :: outer).filterMap (·.frame) → b ∈ fs) (hfr : A.frames = some (env :: outer)) (hl : Frs h (env :: outer)) (hf : env.frame = some L)
    (x : Exc fs h s.heap e .none) (k : ∀ h', Exc fs h h' e .none → Q () { s with heap := h' }) : wpAny M A (leaving env (.ref e)) Q E s := by
  unfold leaving
  exact wpAny_bind (note_on hg hfr hl hf x fun h' x' => flight (s := { s with heap := h' }) (fr := none) x' k)
end
end Mine
end PartM4
section PartM5
set_option maxHeartbeats 1000000
namespace Mine
def sdParams : Arguments := match pw.main.body with | _ :: _ :: .FunctionDef _ p _ _ _ _ _ _ _ _ :: _ => p | _ => default
def suParams : Arguments := match pw.main.body with | _ :: _ :: _ :: .FunctionDef _ p _ _ _ _ _ _ _ _ :: _ => p | _ => default
def hyParams : Arguments := match pw.main.body with | _ :: .FunctionDef _ p _ _ _ _ _ _ _ _ :: _ => p | _ => default

/-- a def of the text as it stands at the base -/
def IsDef (h₀ : Heap) (mg : Str → Option Value) (name : Str) (params : Arguments) (body : List Stmt) (scope : Scope) : Prop :=
  ∃ f o pm cd doc, mg name = some (.ref f) ∧ h₀.get? f = some o ∧ o.data = .func (Calls.docDef name params body scope pm cd doc) ∧ h₀.CodeRec cd name
structure Gd (h₀ : Heap) (mg mb : Str → Option Value) : Prop where
  g : h₀.Ns mainGlobals mg
  b : h₀.Ns builtinsNs mb
  lim : h₀.NoLimit
  bt : ∀ x : Str, x ≠ "__name__" → mb x = bootBuiltins x
  no : ∀ x : Str, x ∈ (["len", "range", "reversed", "abs", "sorted", "set", "list", "sum", "min", "max", "TypeError"] : List Str) → mg x = none
  sd : IsDef h₀ mg "_siftdown" sdParams sdBody sdScope
  su : IsDef h₀ mg "_siftup" suParams suBody suScope
  hy : IsDef h₀ mg "heapify" hyParams hyBody hyScope

section
variable {h₀ hc : Heap} {mg mb : Str → Option Value} {H L : Addr} {vs : List Value} {bs : List (Str × Value)} {M : Model} {A : Around} {E : Value → Shared → Prop} {s : Shared} {name : Str} {scope : Scope} {a : Addr} {cd : Value} {m : Str → Option Value}

theorem ld_glob {x : Str} {pos : Pos} {v : Value} {Q : Value → Shared → Prop} (G : Gd h₀ mg mb) (k : ∀ b o, h₀.get? b = some o → s.heap.get? b = some o) (hv : mg x = some v) (h : Q v s)
    (hk : scope.kind = .function := by rfl) (hx : (envOf name scope L a cd).kindOf x = some .globalImplicit := by rfl)
    (hd : (x == ("__debug__" : Str)) = false := by decide) : wpAny M A (eval (.Name x pos) (envOf name scope L a cd)) Q E s :=
  Calls.Name_function_global hk hx (Calls.loadGlobal_global (env := envOf name scope L a cd) (G.g.keeps k) hv h) hd
theorem ld_blt {x : Str} {pos : Pos} {v : Value} {Q : Value → Shared → Prop} (G : Gd h₀ mg mb) (k : ∀ b o, h₀.get? b = some o → s.heap.get? b = some o) (hb : bootBuiltins x = some v) (h : Q v s)
    (hin : x ∈ (["len", "range", "reversed", "abs", "sorted", "set", "list", "sum", "min", "max", "TypeError"] : List Str) := by decide)
    (hk : scope.kind = .function := by rfl) (hx : (envOf name scope L a cd).kindOf x = some .globalImplicit := by rfl) (hn : x ≠ "__name__" := by decide)
    (hd : (x == ("__debug__" : Str)) = false := by decide) : wpAny M A (eval (.Name x pos) (envOf name scope L a cd)) Q E s :=
  Calls.Name_function_global hk hx (Calls.loadGlobal_builtin (env := envOf name scope L a cd) (G.g.keeps k) (G.no x hin) (G.b.keeps k) ((G.bt x hn).trans hb) h) hd
theorem B.keep (b : B h₀ hc H L vs bs s.heap) : ∀ b o, h₀.get? b = some o → s.heap.get? b = some o := by
  obtain ⟨m, F, _⟩ := b.fr; exact F.keep
end

theorem slots_isList {o : Obj} {h h' : Heap} {a : Addr} {items : Array Value} {sl : Array (Option Value)} (hl : h.IsList a items) (ho : h.get? a = some o) (hs : h'.get? a = some { o with slots := sl }) : h'.IsList a items := by
  obtain ⟨o', ho', hc, n, hd⟩ := hl
  rw [ho] at ho'
  cases ho'
  exact ⟨_, hs, hc, n, hd⟩
theorem Exc.isList {fs : List Addr} {h h' : Heap} {e : Addr} {fl : Value} (x : Exc fs h h' e fl) {a : Addr} {items : Array Value} (hl : h.IsList a items) : h'.IsList a items := by
  obtain ⟨o, ho, _⟩ := id hl
  obtain ⟨sl, hs⟩ := x.frm a o ho
  exact slots_isList hl ho hs

theorem frs_keep {h h' : Heap} {H : Addr} {items : Array Value} {l : List Env} (f : Frs h l) (hl : h.IsList H items) (k : ∀ b o, b ≠ H → h.get? b = some o → h'.get? b = some o) : Frs h' l :=
  Frs.keeps (fun b o hb ⟨es, ep, hd⟩ => ⟨o, k b o (fun q => by
    obtain ⟨o', ho', _, n, hd'⟩ := hl
    subst q
    rw [hb] at ho'; cases ho'
    rw [hd] at hd'; cases hd') hb, rfl⟩) f

section
variable {h₀ : Heap} {mg mb : Str → Option Value} {H : Addr} {vs : List Value} {w : World} {A : Around} {s : Shared} {R : Result → Shared → Prop} {key : Value → Option Int} {outer : List Env}

theorem sd_call {f : Addr} {o : Obj} {pm cd doc : Value} {start pos : Nat} {t1 t2 : Tok} (G : Gd h₀ mg mb) (k₀ : ∀ b o, h₀.get? b = some o → s.heap.get? b = some o) (hsz : h₀.objs.size ≤ s.heap.objs.size)
    (ho : h₀.get? f = some o) (hdat : o.data = .func (Calls.docDef "_siftdown" sdParams sdBody sdScope pm cd doc)) (hcd : h₀.CodeRec cd "_siftdown")
    (hroom : A.depth < recursionLimit) (hl : s.heap.IsList H vs.toArray) (nH : h₀.get? H = none) (hI : ∀ v ∈ vs, Itm s.heap H key v) (hpos : pos < vs.length) (hn : vs.length < 2 ^ 62)
    (hh : A.handled = none) (hu : A.units + 3 < cLine) (hfr : A.frames = some outer) (hf : Frs s.heap outer)
    (hok : ∀ us s', Go s s' → siftdown (ltK key) vs start pos = .ok us → s'.heap.IsList H us.toArray → (∀ b o, b ≠ H → s.heap.get? b = some o → s'.heap.get? b = some o) → R (.ok (.ret .none)) s')
    (hno : ∀ us s' h₁ e, Go s s' → siftdown (ltK key) vs start pos = .error us → h₁.IsList H us.toArray → (∀ b o, b ≠ H → s.heap.get? b = some o → h₁.get? b = some o) →
      Exc (s.heap.objs.size :: outer.filterMap (·.frame)) h₁ s'.heap e .none → R (.error (.ref e)) s') :
    codeAny (model pw w) A (.call (.ref f) ⟨[.ref H, .int start t1, .int pos t2], []⟩) R s := by
  have hHL : H ≠ s.heap.objs.size := by
    obtain ⟨o', ho', _⟩ := hl
    exact Nat.ne_of_lt (Heap.lt_size ho')
  refine call_plain (binds := [("heap", .ref H), ("startpos", .int start t1), ("pos", .int pos t2)]) hroom (k₀ _ _ ho) hdat (G.lim.keeps k₀) (hcd.keeps k₀) rfl (locs rfl) (fun h₁ F => ?_)
  have b : B h₀ s.heap H s.heap.objs.size vs [("pos", .int pos t2), ("startpos", .int start t1), ("heap", .ref H)] h₁ :=
    ⟨⟨_, ⟨F.ns, fun b o e => F.keep b o (k₀ b o e), hsz⟩, fun _ _ e => e⟩, hl.at fun o e => F.keep _ _ e, fun b o _ e => F.keep b o e, nH, hHL, Nat.le_refl _⟩
  refine sd_body (s := { s with heap := h₁, toks := s.toks + _ }) b rfl rfl rfl hI hpos hn hh (by simpa using hu) (fun us bs' s' g e b' => ?_) (fun us bs' s' g e b' h' tk ex hx => ?_)
  · exact hok us s' (Go.trans ⟨_, _, rfl⟩ g) e b'.ls b'.kp
  · have hfr' : (A.deeper (sdEnv s.heap.objs.size f cd)).frames = some (sdEnv s.heap.objs.size f cd :: outer) := Around.frames_deeper hfr
    have hl' : Frs s'.heap (sdEnv s.heap.objs.size f cd :: outer) := by
      refine ⟨rfl, ?_, frs_keep hf hl b'.kp⟩
      obtain ⟨m, F', _⟩ := b'.fr
      obtain ⟨oL, es, ep, hL, hLd, _⟩ := F'.ns
      exact ⟨_, oL, es, ep, rfl, hL, hLd⟩
    show wpAny _ _ (noteFrame _ _) _ _ _
    refine note_new (s := { s' with heap := h', toks := tk }) hfr' hl' rfl hx fun h2 x2 => ?_
    refine came_back rfl x2 fun h3 x3 => ?_
    refine leave_same rfl x3 fun h4 x4 => ?_
    exact hno us _ s'.heap ex (Go.trans ⟨_, _, rfl⟩ (g.trans ⟨_, _, rfl⟩)) e b'.ls b'.kp x4
end
end Mine
end PartM5
section PartM6
set_option maxHeartbeats 1000000
namespace Mine
section
variable {h₀ hc : Heap} {mg mb : Str → Option Value} {H L : Addr} {vs : List Value} {bs : List (Str × Value)} {w : World} {A : Around} {E : Value → Shared → Prop} {s : Shared} {f : Addr} {cd : Value} {key : Value → Option Int} {outer : List Env}
abbrev suEnv (L f : Addr) (cd : Value) : Env := envOf "_siftup" suScope L f cd

theorem Itm.keep {h h' : Heap} {v : Value} (i : Itm h H key v) (k : ∀ b o, b ≠ H → h.get? b = some o → h'.get? b = some o) : Itm h' H key v :=
  i.imp id fun ⟨a, x, t, e1, e2, e3, e4⟩ => ⟨a, x, t, e1, e2, e3, e4.at fun o e => k a o e3 e⟩
theorem sizeOf_list {h : Heap} {H : Addr} {items : Array Value} (hl : h.IsList H items) : H < h.objs.size := by
  obtain ⟨o, ho, _⟩ := hl; exact Heap.lt_size ho

def TurnQ (I : Nat → Shared → Prop) (n : Nat) (f : Flow) (s : Shared) : Prop := (f = .next ∨ f = .cont) ∧ ∃ m, m < n ∧ I m s
theorem turn_mono {M : Model} {A : Around} {E : Value → Shared → Prop} {t : Sem Flow} {I : Nat → Shared → Prop} {n : Nat} {Q : Flow → Shared → Prop} {s : Shared} (h : wpAny M A t (TurnQ I n) (fun _ _ => False) s)
    (h1 : ∀ s', (∃ m, m < n ∧ I m s') → Q .next s') (h2 : ∀ s', (∃ m, m < n ∧ I m s') → Q .cont s') : wpAny M A t Q E s :=
  wpAny_mono h (fun f s' q => by
    obtain ⟨rfl | rfl, q⟩ := q
    · exact h1 _ q
    · exact h2 _ q) fun _ _ q => q.elim
def SuInv (h₀ hc : Heap) (H L : Addr) (key : Value → Option Int) (vs : List Value) (pos : Nat) (t2 : Tok) (X : Value) (s : Shared) (n : Nat) (s' : Shared) : Prop :=
  ∃ us p bs' te t t', vs.length - p = n ∧ Go s s' ∧ B h₀ hc H L us bs' s'.heap ∧ At bs' "heap" (.ref H) ∧ At bs' "endpos" (.int vs.length te) ∧ At bs' "startpos" (.int pos t2) ∧ At bs' "newitem" X ∧
    At bs' "pos" (.int (p : Nat) t) ∧ At bs' "childpos" (.int (2 * p + 1 : Nat) t') ∧ us.length = vs.length ∧ suLoop (ltK key) us p = suLoop (ltK key) vs pos ∧ (∀ v ∈ us, Itm hc H key v) ∧ p < us.length

theorem su_body {pos : Nat} {t2 : Tok} {Q : Flow → Shared → Prop} (G : Gd h₀ mg mb) (b : B h₀ hc H L vs bs s.heap) (l1 : At bs "heap" (.ref H)) (l3 : At bs "pos" (.int pos t2))
    (hI : ∀ v ∈ vs, Itm hc H key v) (hpos : pos < vs.length) (hn : vs.length < 2 ^ 60) (hh : A.handled = none) (hu : A.units + 3 < cLine) (hroom : A.depth < recursionLimit)
    (hfr : A.frames = some (suEnv L f cd :: outer)) (hf : Frs hc outer) (hlc : hc.IsList H vs.toArray)
    (hok : ∀ us bs' s', Go s s' → siftup (ltK key) vs pos = .ok us → B h₀ hc H L us bs' s'.heap → Q .next s')
    (hno1 : ∀ us bs' s', Go s s' → siftup (ltK key) vs pos = .error us → B h₀ hc H L us bs' s'.heap → ∀ h' tk e, Heap.NewExc s'.heap h' e "TypeError" →
      notedBy (model pw w) A (suEnv L f cd) (cameBackBy (model pw w) A (suEnv L f cd) E) (.ref e) { s' with heap := h', toks := tk })
    (hno2 : ∀ us s' h₁ n e, Go s s' → siftup (ltK key) vs pos = .error us → h₁.IsList H us.toArray → (∀ b o, b ≠ H → hc.get? b = some o → h₁.get? b = some o) → (∃ o es ep, h₁.get? L = some o ∧ o.data = .dict es ep) →
      hc.objs.size ≤ n → Exc (n :: L :: outer.filterMap (·.frame)) h₁ s'.heap e .none → E (.ref e) s') :
    wpAny (model pw w) A (execs suBody (suEnv L f cd)) Q E s := by
  unfold suBody
  -- endpos = len(heap)
  refine wpAny_execs_cons ?_
  refine wpAny_Assign_Name ?_
  refine Call_ ?_
  refine ld_blt G b.keep boot_len ?_
  refine PyProof.Rows.callWith_builtin1 ?_
  refine args_cons ?_
  refine B.ld b l1 ?_
  refine args_nil ?_
  refine Calls.call_len_list b.ls (by rw [List.size_toArray]; omega) ?_
  refine B.st b fun s₁ g₁ b₁ => ?_
  dsimp only
  rw [List.size_toArray] at b₁
  -- startpos = pos
  refine wpAny_execs_cons ?_
  refine wpAny_Assign_Name ?_
  refine B.ld b₁ l3 ?_
  refine B.st b₁ fun s₂ g₂ b₂ => ?_
  dsimp only
  -- newitem = heap[pos]
  refine wpAny_execs_cons ?_
  refine wpAny_Assign_Name ?_
  refine Subscript_ ?_
  refine B.ld b₂ l1 ?_
  refine B.ld b₂ l3 ?_
  refine B.get b₂ (by omega) (by simpa using hpos) (by omega) ?_
  refine B.st b₂ fun s₃ g₃ b₃ => ?_
  dsimp only
  rw [Int.toNat_natCast] at b₃
  have hx : Itm hc H key (nth vs pos) := hI _ (nth_mem hpos)
  generalize hX : nth vs pos = X at b₃ hx
  -- childpos = 2 * pos + 1
  refine wpAny_execs_cons ?_
  refine wpAny_Assign_Name ?_
  refine wpAny_BinOp ?_
  refine wpAny_BinOp ?_
  refine wpAny_Constant_int ?_
  refine B.ld b₃ l3 ?_
  refine mul_int ?_
  refine wpAny_Constant_int ?_
  refine add_int ?_
  refine B.st b₃ fun s₄ g₄ b₄ => ?_
  dsimp only
  have g₄' : Go s s₄ := (((Go.trans ⟨_, _, rfl⟩ g₁).trans g₂).trans g₃).trans (Go.trans ⟨_, _, rfl⟩ g₄)
  rw [show (2 : Int) * (pos : Int) + 1 = ((2 * pos + 1 : Nat) : Int) by omega] at b₄
  refine wpAny_execs_cons ?_
  refine wpAny_While (codeAny_whileLoop (I := SuInv h₀ hc H L key vs pos t2 X s) ?_ _ ⟨vs, pos, _, _, t2, _, rfl, g₄', b₄, l1, rfl, rfl, rfl, l3, rfl, rfl, rfl, hI, hpos⟩)
  clear b₄ g₄' g₄ b₃ g₃ b₂ g₂ b₁ g₁
  rintro n s₁ ⟨us, p, bs', te, t, t', hm, g₁, b₁, k1, k2, k3, k4, k5, k6, hlen, heq, hI', hp⟩
  refine wpAny_isTrue_Compare1 ?_
  refine B.ld b₁ k6 ?_
  refine B.ld b₁ k2 ?_
  refine lt_int ?_
  refine wpAny_truthy_bool ?_
  by_cases hlt : 2 * p + 1 < vs.length
  · have hd : decide (((2 * p + 1 : Nat) : Int) < (vs.length : Int)) = true := by simp; omega
    rw [hd]
    simp only [if_true]
    -- rightpos = childpos + 1
    refine wpAny_execs_cons ?_
    refine wpAny_Assign_Name ?_
    refine wpAny_BinOp ?_
    refine B.ld b₁ k6 ?_
    refine wpAny_Constant_int ?_
    refine add_int ?_
    rw [show ((2 * p + 1 : Nat) : Int) + 1 = ((2 * p + 2 : Nat) : Int) by omega]
    refine B.st b₁ fun s₂ g₂ b₂ => ?_
    dsimp only
    have g₂' : Go s s₂ := g₁.trans (Go.trans ⟨_, _, rfl⟩ g₂)
    -- the rest of the turn, from the child that is taken
    have tail : ∀ c tc bs₃ s₃, Go s s₃ → B h₀ hc H L us bs₃ s₃.heap → At bs₃ "heap" (.ref H) → At bs₃ "endpos" (.int vs.length te) → At bs₃ "startpos" (.int pos t2) → At bs₃ "newitem" X →
        At bs₃ "pos" (.int (p : Nat) t) → At bs₃ "childpos" (.int (c : Nat) tc) → p < c → c < us.length → suLoop (ltK key) (us.set p (nth us c)) c = suLoop (ltK key) us p →
        wpAny (model pw w) A (execs (match pw.main.body with | _ :: _ :: _ :: .FunctionDef _ _ (_ :: _ :: _ :: _ :: .While _ (_ :: _ :: r) _ _ :: _) _ _ _ _ _ _ _ :: _ => r | _ => []) (suEnv L f cd))
          (TurnQ (SuInv h₀ hc H L key vs pos t2 X s) n) (fun _ _ => False) s₃ := by
      intro c tc bs₃ s₃ g₃ b₃ j1 j2 j3 j4 j5 j6 hpc hcl he
      refine wpAny_execs_cons ?_
      refine wpAny_Assign_Subscript ?_
      refine Subscript_ ?_
      refine B.ld b₃ j1 ?_
      refine B.ld b₃ j6 ?_
      refine B.get b₃ (by omega) (by omega) (by omega) ?_
      rw [Int.toNat_natCast]
      refine B.ld b₃ j1 ?_
      refine B.ld b₃ j5 ?_
      refine B.set b₃ (by omega) (by omega) (by omega) fun s₄ g₄ b₄ => ?_
      rw [Int.toNat_natCast] at b₄
      dsimp only
      refine wpAny_execs_cons ?_
      refine wpAny_Assign_Name ?_
      refine B.ld b₄ j6 ?_
      refine B.st b₄ fun s₅ g₅ b₅ => ?_
      dsimp only
      refine wpAny_execs_cons ?_
      refine wpAny_Assign_Name ?_
      refine wpAny_BinOp ?_
      refine wpAny_BinOp ?_
      refine wpAny_Constant_int ?_
      refine B.ld b₅ rfl ?_
      refine mul_int ?_
      refine wpAny_Constant_int ?_
      refine add_int ?_
      rw [show (2 : Int) * (c : Int) + 1 = ((2 * c + 1 : Nat) : Int) by omega]
      refine B.st b₅ fun s₆ g₆ b₆ => ?_
      dsimp only
      refine wpAny_execs_nil ?_
      refine ⟨.inl rfl, vs.length - c, by omega, _, c, _, _, _, _, rfl, ((g₃.trans g₄).trans g₅).trans (Go.trans ⟨_, _, rfl⟩ g₆), b₆, j1, j2, j3, j4, rfl, rfl, by rw [List.length_set]; exact hlen, he.trans heq, ?_, by rw [List.length_set]; exact hcl⟩
      intro v hv
      rcases List.mem_or_eq_of_mem_set hv with h | h
      · exact hI' v h
      · rw [h]; exact hI' _ (nth_mem hcl)
    refine wpAny_execs_cons ?_
    refine wpAny_If ?_
    refine isTrue_and ?_
    refine wpAny_isTrue_Compare1 ?_
    refine B.ld b₂ rfl ?_
    refine B.ld b₂ k2 ?_
    refine lt_int ?_
    refine wpAny_truthy_bool ?_
    by_cases hr : 2 * p + 2 < vs.length
    · have hd : decide (((2 * p + 2 : Nat) : Int) < (vs.length : Int)) = true := by simp; omega
      rw [hd]
      simp only [if_true]
      refine isTrue_and ?_
      refine isTrue_not ?_
      refine wpAny_isTrue_Compare1 ?_
      refine Subscript_ ?_
      refine B.ld b₂ k1 ?_
      refine B.ld b₂ k6 ?_
      refine B.get b₂ (by omega) (by omega) (by omega) ?_
      rw [Int.toNat_natCast]
      refine Subscript_ ?_
      refine B.ld b₂ k1 ?_
      refine B.ld b₂ rfl ?_
      refine B.get b₂ (by omega) (by omega) (by omega) ?_
      rw [Int.toNat_natCast]
      refine cmp_items b₂ (hI' _ (nth_mem (by omega))) (hI' _ (nth_mem (by omega))) hh (by omega) (fun r hr' => ?_) (fun hr' h' tk e hx' => ?_)
      · refine wpAny_truthy_bool ?_
        cases r with
        | true =>
          simp only [Bool.not_true, Bool.false_eq_true, if_false]
          refine wpAny_execs_nil ?_
          dsimp only
          refine turn_mono (tail (2 * p + 1) t' _ _ g₂' b₂ k1 k2 k3 k4 k5 k6 (by omega) (by omega) ?_) (fun _ q => q) (fun _ q => q)
          conv => rhs; rw [suLoop]
          rw [if_pos (by omega), if_pos (by omega), hr']
        | false =>
          simp only [Bool.not_false, if_true]
          refine isTrue_and_nil ?_
          simp only [if_true]
          refine wpAny_execs_cons ?_
          refine wpAny_Assign_Name ?_
          refine B.ld b₂ rfl ?_
          refine B.st b₂ fun s₃ g₃ b₃ => ?_
          dsimp only
          refine wpAny_execs_nil ?_
          dsimp only
          refine turn_mono (tail (2 * p + 2) _ _ _ (g₂'.trans g₃) b₃ k1 k2 k3 k4 k5 rfl (by omega) (by omega) ?_) (fun _ q => q) (fun _ q => q)
          conv => rhs; rw [suLoop]
          rw [if_pos (by omega), if_pos (by omega), hr']
      · refine hno1 us _ s₂ g₂' ?_ b₂ h' tk e hx'
        rw [siftup, ← heq, suLoop, if_pos (by omega), if_pos (by omega), hr']
    · have hd : decide (((2 * p + 2 : Nat) : Int) < (vs.length : Int)) = false := by simp; omega
      rw [hd]
      simp only [Bool.false_eq_true, if_false]
      refine wpAny_execs_nil ?_
      dsimp only
      refine turn_mono (tail (2 * p + 1) t' _ _ g₂' b₂ k1 k2 k3 k4 k5 k6 (by omega) (by omega) ?_) (fun _ q => q) (fun _ q => q)
      conv => rhs; rw [suLoop]
      rw [if_pos (by omega), if_neg (by omega)]
  · have hd : decide (((2 * p + 1 : Nat) : Int) < (vs.length : Int)) = false := by simp; omega
    rw [hd]
    simp only [Bool.false_eq_true, if_false]
    refine wpAny_execs_nil ?_
    dsimp only
    -- heap[pos] = newitem
    refine wpAny_execs_cons ?_
    refine wpAny_Assign_Subscript ?_
    refine B.ld b₁ k4 ?_
    refine B.ld b₁ k1 ?_
    refine B.ld b₁ k5 ?_
    refine B.set b₁ (by omega) (by omega) (by omega) fun s₂ g₂ b₂ => ?_
    rw [Int.toNat_natCast] at b₂
    dsimp only
    have hsu : siftup (ltK key) vs pos = siftdown (ltK key) (us.set p X) pos p := by
      have hb : suLoop (ltK key) vs pos = .ok (us, p) := by rw [← heq, suLoop, if_neg (by omega)]
      rw [siftup, hb, hX]
    have hI2 : ∀ v ∈ us.set p X, Itm hc H key v := by
      intro v hv
      rcases List.mem_or_eq_of_mem_set hv with h | h
      · exact hI' v h
      · rw [h]; exact hx
    -- _siftdown(heap, startpos, pos)
    obtain ⟨f', o', pm', cd', doc', q1, q2, q3, q4⟩ := G.sd
    refine wpAny_execs_cons ?_
    refine wpAny_Expr ?_
    refine Call_ ?_
    refine ld_glob G b₂.keep q1 ?_
    refine callWith_def q3 ?_
    refine args_cons ?_
    refine B.ld b₂ k1 ?_
    refine args_cons ?_
    refine B.ld b₂ k3 ?_
    refine args_cons ?_
    refine B.ld b₂ k5 ?_
    refine args_nil ⟨b₂.keep _ _ q2, ?_⟩
    obtain ⟨m, F, lk⟩ := id b₂.fr
    obtain ⟨oL, es, ep, hL, hLd, hLr⟩ := F.ns
    have hLlt : L < s₂.heap.objs.size := Heap.lt_size hL
    have hfs : Frs s₂.heap (suEnv L f cd :: outer) := ⟨rfl, ⟨L, oL, es, ep, rfl, hL, hLd⟩, frs_keep hf hlc b₂.kp⟩
    refine wpAny_call (sd_call G b₂.keep (Nat.le_of_lt (Nat.lt_of_le_of_lt F.above hLlt)) q2 q3 q4 hroom b₂.ls b₂.nH (fun v hv => Itm.keep (hI2 v hv) b₂.kp) (by rw [List.length_set]; exact hp) (by rw [List.length_set]; omega) hh hu hfr hfs
      (fun us' s₃ g₃ e₃ hl₃ kp₃ => ?_) (fun us' s₃ h₁ e g₃ e₃ hl₃ kp₃ x₃ => ?_))
    · dsimp only
      refine wpAny_execs_nil ?_
      refine hok us' _ s₃ ((g₁.trans g₂).trans g₃) (hsu.trans e₃) ⟨⟨m, ⟨⟨oL, es, ep, kp₃ _ _ (Ne.symm b₂.ne) hL, hLd, hLr⟩, fun b o e => ?_, F.above⟩, lk⟩, hl₃, fun b o n e => kp₃ b o n (b₂.kp b o n e), b₂.nH, b₂.ne, b₂.up⟩
      exact kp₃ b o (fun q => by rw [q, b₂.nH] at e; cases e) (b₂.keep b o e)
    · refine hno2 us' s₃ h₁ s₂.heap.objs.size e ((g₁.trans g₂).trans g₃) (hsu.trans e₃) hl₃ (fun b o n e => kp₃ b o n (b₂.kp b o n e)) ⟨oL, es, ep, kp₃ _ _ (Ne.symm b₂.ne) hL, hLd⟩ (Nat.le_trans b₂.up (Nat.le_of_lt hLlt)) x₃
end
end Mine
end PartM6
section PartM7
set_option maxHeartbeats 1000000
namespace Mine
section
variable {h₀ : Heap} {mg mb : Str → Option Value} {H : Addr} {vs : List Value} {w : World} {A : Around} {s : Shared} {R : Result → Shared → Prop} {key : Value → Option Int} {outer : List Env}

theorem su_call {f : Addr} {o : Obj} {pm cd doc : Value} {pos : Nat} {t2 : Tok} (G : Gd h₀ mg mb) (k₀ : ∀ b o, h₀.get? b = some o → s.heap.get? b = some o) (hsz : h₀.objs.size ≤ s.heap.objs.size)
    (ho : h₀.get? f = some o) (hdat : o.data = .func (Calls.docDef "_siftup" suParams suBody suScope pm cd doc)) (hcd : h₀.CodeRec cd "_siftup")
    (hroom : A.depth + 1 < recursionLimit) (hl : s.heap.IsList H vs.toArray) (nH : h₀.get? H = none) (hI : ∀ v ∈ vs, Itm s.heap H key v) (hpos : pos < vs.length) (hn : vs.length < 2 ^ 60)
    (hh : A.handled = none) (hu : A.units + 6 < cLine) (hfr : A.frames = some outer) (hf : Frs s.heap outer)
    (hok : ∀ us s', Go s s' → siftup (ltK key) vs pos = .ok us → s'.heap.IsList H us.toArray → (∀ b o, b ≠ H → s.heap.get? b = some o → s'.heap.get? b = some o) → R (.ok (.ret .none)) s')
    (hno : ∀ us s' h₁ fs e, Go s s' → siftup (ltK key) vs pos = .error us → h₁.IsList H us.toArray → (∀ b o, b ≠ H → s.heap.get? b = some o → h₁.get? b = some o) →
      (∀ b ∈ fs, b ∈ outer.filterMap (·.frame) ∨ s.heap.objs.size ≤ b) → (∀ b ∈ outer.filterMap (·.frame), b ∈ fs) → Exc fs h₁ s'.heap e .none → R (.error (.ref e)) s') :
    codeAny (model pw w) A (.call (.ref f) ⟨[.ref H, .int pos t2], []⟩) R s := by
  have hHL : H ≠ s.heap.objs.size := Nat.ne_of_lt (sizeOf_list hl)
  refine call_plain (binds := [("heap", .ref H), ("pos", .int pos t2)]) (by omega) (k₀ _ _ ho) hdat (G.lim.keeps k₀) (hcd.keeps k₀) rfl (locs rfl) (fun h₁ F => ?_)
  have b : B h₀ s.heap H s.heap.objs.size vs [("pos", .int pos t2), ("heap", .ref H)] h₁ :=
    ⟨⟨_, ⟨F.ns, fun b o e => F.keep b o (k₀ b o e), hsz⟩, fun _ _ e => e⟩, hl.at fun o e => F.keep _ _ e, fun b o _ e => F.keep b o e, nH, hHL, Nat.le_refl _⟩
  have hfr' : (A.deeper (suEnv s.heap.objs.size f cd)).frames = some (suEnv s.heap.objs.size f cd :: outer) := Around.frames_deeper hfr
  refine su_body (s := { s with heap := h₁, toks := s.toks + _ }) G b rfl rfl hI hpos hn hh (by show A.units + 3 + 3 < cLine; omega) hroom hfr' hf hl (fun us bs' s' g e b' => ?_) (fun us bs' s' g e b' h' tk ex hx => ?_) (fun us s' h2 n ex g e hl2 kp2 hL2 hn2 x2 => ?_)
  · exact hok us s' (Go.trans ⟨_, _, rfl⟩ g) e b'.ls b'.kp
  · have hl' : Frs s'.heap (suEnv s.heap.objs.size f cd :: outer) := by
      refine ⟨rfl, ?_, frs_keep hf hl b'.kp⟩
      obtain ⟨m, F', _⟩ := b'.fr
      obtain ⟨oL, es, ep, hL, hLd, _⟩ := F'.ns
      exact ⟨_, oL, es, ep, rfl, hL, hLd⟩
    show wpAny _ _ (noteFrame _ _) _ _ _
    refine note_new (s := { s' with heap := h', toks := tk }) hfr' hl' rfl hx fun h2 x2 => ?_
    refine came_back rfl x2 fun h3 x3 => ?_
    refine leave_same rfl x3 fun h4 x4 => ?_
    refine hno us _ s'.heap _ ex (Go.trans ⟨_, _, rfl⟩ (g.trans ⟨_, _, rfl⟩)) e b'.ls b'.kp ?_ ?_ x4
    · intro c hc
      rcases List.mem_cons.mp (show c ∈ s.heap.objs.size :: outer.filterMap (·.frame) from hc) with q | q
      · exact .inr (Nat.le_of_eq q.symm)
      · exact .inl q
    · intro c hc
      exact List.mem_cons_of_mem _ hc
  · have hl2' : Frs h2 (suEnv s.heap.objs.size f cd :: outer) := by
      obtain ⟨oL, es, ep, hL, hLd⟩ := hL2
      exact ⟨rfl, ⟨_, oL, es, ep, rfl, hL, hLd⟩, frs_keep hf hl kp2⟩
    refine leave_on ?_ hfr' hl2' rfl x2 fun h3 x3 => ?_
    · intro c hc
      exact List.mem_cons_of_mem _ hc
    refine hno us _ h2 _ ex (Go.trans ⟨_, _, rfl⟩ (g.trans ⟨_, _, rfl⟩)) e hl2 kp2 ?_ ?_ x3
    · intro c hc
      rcases List.mem_cons.mp hc with q | q
      · exact .inr (q ▸ hn2)
      · rcases List.mem_cons.mp q with q | q
        · exact .inr (Nat.le_of_eq q.symm)
        · exact .inl q
    · intro c hc
      exact List.mem_cons_of_mem _ (List.mem_cons_of_mem _ hc)
end

section
variable {prog : Program} {w : World} {A : Around} {E : Value → Shared → Prop} {s : Shared} {R : Result → Shared → Prop}

/-- a for loop by an invariant -/
theorem for_rule {x : Str} {px : Pos} {body orelse : List Stmt} {env : Env} {I : Addr} {fp wr : List Addr} {n : Nat} {P : Nat → Value → Prop} {St : Nat → Heap → Prop} (W : Walks prog w A I fp wr n P St) (J : Nat → Shared → Prop)
    (hJ : ∀ i s, J i s → St i s.heap)
    (step : ∀ i v s₁ h' tk, J i s₁ → i < n → P i v → St (i + 1) h' → (∀ b o, b ∉ wr → s₁.heap.get? b = some o → h'.get? b = some o) →
      wpAny (model prog w) A (storeName env x v) (fun _ s₂ => wpAny (model prog w) A (execs body env) (fun f s₃ => match f with
            | .next | .cont => J (i + 1) s₃
            | .brk => R (.ok .next) s₃
            | .ret v => R (.ok (.ret v)) s₃) (notedBy (model prog w) A env fun e s' => R (.error e) s') s₂) (notedBy (model prog w) A env fun e s' => R (.error e) s') { s₁ with heap := h', toks := tk })
    (fin : ∀ s₁ h' tk, J n s₁ → (∀ b o, b ∉ wr → s₁.heap.get? b = some o → h'.get? b = some o) → wpAny (model prog w) A (execs orelse env) (fun f s₃ => R (.ok f) s₃) (notedBy (model prog w) A env fun e s' => R (.error e) s') { s₁ with heap := h', toks := tk })
    (h0 : J 0 s) : codeAny (model prog w) A (.forLoop (.Name x px) (.ref I) body orelse env) R s := by
  refine codeAny_forLoop_any (I := fun m s' => ∃ i, m + i = n ∧ J i s') ?_ n ⟨0, rfl, h0⟩
  rintro m s₁ ⟨i, hm, hj⟩
  by_cases hi : i < n
  · refine W.item i s₁ _ _ hi (hJ i s₁ hj) fun v h' tk hP hS hk => ?_
    refine wpAny_pure ?_
    refine wpAny_assign_Name ?_
    refine wpAny_mono (step i v s₁ h' tk hj hi hP hS hk) (fun _ s₂ q => wpAny_mono q (fun f s₃ q => ?_) fun _ _ e => e) fun _ _ e => e
    cases f with
    | next => exact ⟨m - 1, by omega, i + 1, by omega, q⟩
    | cont => exact ⟨m - 1, by omega, i + 1, by omega, q⟩
    | brk => exact q
    | ret v => exact q
  · have hin : i = n := by omega
    subst hin
    exact W.done s₁ _ _ (hJ i s₁ hj) fun h' tk hk => fin s₁ h' tk hj hk

theorem call_range_reversed {r : Addr} {a b c : Int} {t u v : Tok} {n : Nat} {Q : Value → Shared → Prop} (hr : IsRange s.heap r a b c t u v) (hn : Builtin.Range.rangeSize a b c = n)
    (hsm : (Builtin.Range.rangeFitsLong a && Builtin.Range.rangeFitsLong b && Builtin.Range.rangeFitsLong c && Builtin.Range.rangeFitsLong (-c) && Builtin.Range.rangeFitsLong (a - c) && Builtin.Range.rangeFitsLong (Builtin.Range.rangeSize a b c)) = true)
    (h : Q (.ref s.heap.objs.size) { s with heap := s.heap.push { cls := .type "range_iterator", data := .fields #[rawInt (a + ((n : Int) - 1) * c), rawInt n, rawInt (-c)] } }) :
    wpAny (model prog w) A (call (.builtin "range.__reversed__") [.ref r]) Q E s := by
  have hT : s.TypeIs (.ref r) "range" := ⟨_, hr, rfl⟩
  refine wpAny_call_entry F.slot_range_reversed hT F.entry_range_reversed ?_ (F.args_range_reversed_1 _)
  unfold Builtin.«range.__reversed__»
  refine wpAny_bind (wpAny_of_eq (a := Value.ref r) rfl ?_)
  obtain ⟨hp, g, d, tk, os⟩ := s
  wp_walk
  rw [if_neg (by rw [hsm]; decide)]
  dsimp only
  rw [if_pos hsm, hn]
  unfold newFields
  exact wpAny_bind (wpAny_newObj_type (wpAny_pure ⟨_, rfl, h⟩))

theorem code_reversed_range {r : Addr} {a b c : Int} {t u v : Tok} {n : Nat} {Q₁ : Value → Shared → Prop} (hr : IsRange s.heap r a b c t u v) (hn : Builtin.Range.rangeSize a b c = n)
    (hsm : (Builtin.Range.rangeFitsLong a && Builtin.Range.rangeFitsLong b && Builtin.Range.rangeFitsLong c && Builtin.Range.rangeFitsLong (-c) && Builtin.Range.rangeFitsLong (a - c) && Builtin.Range.rangeFitsLong (Builtin.Range.rangeSize a b c)) = true)
    (h : Q₁ (.ref s.heap.objs.size) { s with heap := s.heap.push { cls := .type "range_iterator", data := .fields #[rawInt (a + ((n : Int) - 1) * c), rawInt n, rawInt (-c)] } }) :
    codeAny (model prog w) A (.call (.builtin "reversed.__new__") ⟨[.type "reversed", .ref r], []⟩) (wants Q₁ E) s := by
  have hT : s.TypeIs (.ref r) "range" := ⟨_, hr, rfl⟩
  refine codeAny_of_tree ?_
  show wpAny _ A.in1 (do checkBuiltinCall "reversed.__new__" ⟨[.type "reversed", .ref r], []⟩; again (.builtin "reversed.__new__" ⟨[.type "reversed", .ref r], []⟩)) _ _ s
  refine wpAny_bind (wpAny_of_eq (F.newCall_reversed_1 _) (wpAny_pure ⟨plainId_quiet F.plain_reversed_new _, codeAny_builtin F.entry_reversed_new ?_⟩))
  rw [Around.under_plainId F.plain_reversed_new _]
  unfold Builtin.«reversed.__new__»
  refine wpAny_bind (wpAny_of_eq (newClass_reversed _) ?_)
  try dsimp only
  refine wpAny_bind (wpAny_of_eq (a := ()) (by first | rfl | kernel_rfl) ?_)
  refine wpAny_bind (wpAny_of_eq (a := ()) (by first | rfl | kernel_rfl) ?_)
  try dsimp only
  refine wpAny_bind (wpAny_specialOf hT F.slot_range_reversed.lookup ?_)
  try dsimp only
  refine wpAny_bind (wpAny_of_eq (F.slot_range_reversed.bind _) ?_)
  try dsimp only
  first
  | rw [if_neg (show ¬ ((Value.builtin "range.__reversed__" == Value.none) = true) from Bool.false_ne_true)]
  | (show wpAny _ _ (if (Value.builtin "range.__reversed__" == Value.none) = true then _ else _) _ _ _; rw [if_neg (show ¬ ((Value.builtin "range.__reversed__" == Value.none) = true) from Bool.false_ne_true)])
  refine wpAny_bind (wpAny_rule ?_)
  refine wpAny_bind (m := runValue (.call (.builtin "range.__reversed__") ⟨[.ref r], []⟩)) (show wpAny _ _ (call (.builtin "range.__reversed__") [.ref r]) _ _ _ from call_range_reversed hr hn hsm ?_)
  first
  | exact wpAny_pure h
  | exact wpAny_bind (wpAny_pure (wpAny_pure h))

theorem sub_ri_reversed : isSubtype (.type "range_iterator") (.type "reversed") = pure false := by rw [isSubtype_type]; kernel_rfl

theorem call_reversed_range {r : Addr} {a b c : Int} {t u v : Tok} {n : Nat} {Q : Value → Shared → Prop} (hr : IsRange s.heap r a b c t u v) (hn : Builtin.Range.rangeSize a b c = n)
    (hsm : (Builtin.Range.rangeFitsLong a && Builtin.Range.rangeFitsLong b && Builtin.Range.rangeFitsLong c && Builtin.Range.rangeFitsLong (-c) && Builtin.Range.rangeFitsLong (a - c) && Builtin.Range.rangeFitsLong (Builtin.Range.rangeSize a b c)) = true)
    (h : Q (.ref s.heap.objs.size) { s with heap := s.heap.push { cls := .type "range_iterator", data := .fields #[rawInt (a + ((n : Int) - 1) * c), rawInt n, rawInt (-c)] } }) : wpAny (model prog w) A (call (.type "reversed") [.ref r]) Q E s := by
  refine callType_other (U := "range_iterator") (Q₁ := fun obj s₁ => obj = .ref s.heap.objs.size ∧ s₁ = { s with heap := s.heap.push { cls := .type "range_iterator", data := .fields #[rawInt (a + ((n : Int) - 1) * c), rawInt n, rawInt (-c)] } }) (by decide +kernel) F.create_reversed ⟨_, _, F.mro_reversed⟩ F.made_reversed sub_ri_reversed (F.typeCall_reversed_1 _) (code_reversed_range hr hn hsm ⟨rfl, rfl⟩) ?_
  rintro obj s₁ ⟨rfl, rfl⟩
  exact ⟨⟨_, Heap.get?_push_size _ rfl, rfl⟩, h⟩
end
end Mine
end PartM7
section PartM8
set_option maxHeartbeats 1000000
namespace Mine

/-! totality where every item has a key -/
def AllK (key : Value → Option Int) (vs : List Value) : Prop := ∀ v ∈ vs, key v ≠ none
theorem ltK_some {key : Value → Option Int} {u v : Value} (hu : key u ≠ none) (hv : key v ≠ none) : ∃ r, ltK key u v = some r := by
  unfold ltK
  cases h1 : key u with
  | none => exact absurd h1 hu
  | some x => cases h2 : key v with
    | none => exact absurd h2 hv
    | some y => exact ⟨_, rfl⟩
theorem mem_set_of {vs : List Value} {i j : Nat} {v : Value} (hj : j < vs.length) (h : v ∈ vs.set i (nth vs j)) : v ∈ vs := by
  rcases List.mem_or_eq_of_mem_set h with h | h
  · exact h
  · rw [h]; exact nth_mem hj
theorem sdLoop_tot {key : Value → Option Int} {start : Nat} {X : Value} (hX : key X ≠ none) : ∀ (pos : Nat) (vs : List Value), AllK key vs → pos < vs.length →
    ∃ us p, sdLoop (ltK key) start X vs pos = .ok (us, p) ∧ us.length = vs.length ∧ p < us.length ∧ ∀ v ∈ us, v ∈ vs := by
  intro pos
  induction pos using Nat.strongRecOn with
  | ind pos ih =>
    intro vs hk hp
    rw [sdLoop]
    by_cases h : start < pos
    · rw [if_pos h]
      obtain ⟨r, hr⟩ := ltK_some hX (hk _ (nth_mem (vs := vs) (i := (pos - 1) / 2) (by omega)))
      rw [hr]
      cases r with
      | true =>
        have hm : ∀ v ∈ vs.set pos (nth vs ((pos - 1) / 2)), v ∈ vs := fun v hv => mem_set_of (by omega) hv
        obtain ⟨us, p, e1, e2, e3, e4⟩ := ih ((pos - 1) / 2) (by omega) (vs.set pos (nth vs ((pos - 1) / 2))) (fun v hv => hk v (hm v hv)) (by rw [List.length_set]; omega)
        exact ⟨us, p, e1, by rw [e2, List.length_set], e3, fun v hv => hm v (e4 v hv)⟩
      | false => exact ⟨vs, pos, rfl, rfl, hp, fun _ h => h⟩
    · rw [if_neg h]
      exact ⟨vs, pos, rfl, rfl, hp, fun _ h => h⟩
theorem siftdown_tot {key : Value → Option Int} {start pos : Nat} {vs : List Value} (hk : AllK key vs) (hp : pos < vs.length) :
    ∃ us, siftdown (ltK key) vs start pos = .ok us ∧ us.length = vs.length ∧ ∀ v ∈ us, v ∈ vs := by
  obtain ⟨us, p, e1, e2, e3, e4⟩ := sdLoop_tot (start := start) (hk _ (nth_mem hp)) pos vs hk hp
  refine ⟨us.set p (nth vs pos), by rw [siftdown, e1], by rw [List.length_set, e2], fun v hv => ?_⟩
  rcases List.mem_or_eq_of_mem_set hv with h | h
  · exact e4 v h
  · rw [h]; exact nth_mem hp
theorem suLoop_tot {key : Value → Option Int} : ∀ (n : Nat) (vs : List Value) (pos : Nat), vs.length - pos = n → AllK key vs → pos < vs.length →
    ∃ us p, suLoop (ltK key) vs pos = .ok (us, p) ∧ us.length = vs.length ∧ p < us.length ∧ (∀ v ∈ us, v ∈ vs) := by
  intro n
  induction n using Nat.strongRecOn with
  | ind n ih =>
    intro vs pos hn hk hp
    have go : ∀ c, pos < c → c < vs.length → ∃ us p, suLoop (ltK key) (vs.set pos (nth vs c)) c = .ok (us, p) ∧ us.length = vs.length ∧ p < us.length ∧ (∀ v ∈ us, v ∈ vs) := by
      intro c h1 h2
      have hm : ∀ v ∈ vs.set pos (nth vs c), v ∈ vs := fun v hv => mem_set_of h2 hv
      obtain ⟨us, p, e1, e2, e3, e4⟩ := ih (vs.length - c) (by omega) (vs.set pos (nth vs c)) c (by rw [List.length_set]) (fun v hv => hk v (hm v hv)) (by rw [List.length_set]; omega)
      exact ⟨us, p, e1, by rw [e2, List.length_set], e3, fun v hv => hm v (e4 v hv)⟩
    rw [suLoop]
    by_cases h : 2 * pos + 1 < vs.length
    · rw [if_pos h]
      by_cases h' : 2 * pos + 2 < vs.length
      · rw [if_pos h']
        obtain ⟨r, hr⟩ := ltK_some (hk _ (nth_mem h)) (hk _ (nth_mem h'))
        rw [hr]
        cases r with
        | true => exact go _ (by omega) h
        | false => exact go _ (by omega) h'
      · rw [if_neg h']
        exact go _ (by omega) h
    · rw [if_neg h]
      exact ⟨vs, pos, rfl, rfl, hp, fun _ h => h⟩
theorem siftup_tot {key : Value → Option Int} {pos : Nat} {vs : List Value} (hk : AllK key vs) (hp : pos < vs.length) :
    ∃ us, siftup (ltK key) vs pos = .ok us ∧ us.length = vs.length ∧ ∀ v ∈ us, v ∈ vs := by
  obtain ⟨us, p, e1, e2, e3, e4⟩ := suLoop_tot _ vs pos rfl hk hp
  have hm : ∀ v ∈ us.set p (nth vs pos), v ∈ vs := fun v hv => by
    rcases List.mem_or_eq_of_mem_set hv with h | h
    · exact e4 v h
    · rw [h]; exact nth_mem hp
  obtain ⟨ws, f1, f2, f3⟩ := siftdown_tot (key := key) (start := pos) (pos := p) (vs := us.set p (nth vs pos)) (fun v hv => hk v (hm v hv)) (by rw [List.length_set]; exact e3)
  exact ⟨ws, by rw [siftup, e1]; exact f1, by rw [f2, List.length_set, e2], fun v hv => hm v (f3 v hv)⟩

def suT (lt : Cmp) (vs : List Value) (pos : Nat) : List Value := match siftup lt vs pos with | .ok us => us | .error us => us
def hfyN (lt : Cmp) : Nat → List Value → List Value
  | 0, vs => vs
  | k + 1, vs => hfyN lt k (suT lt vs k)
def hfy (lt : Cmp) (vs : List Value) : List Value := hfyN lt (vs.length / 2) vs
theorem siftup_suT {key : Value → Option Int} {pos : Nat} {vs : List Value} (hk : AllK key vs) (hp : pos < vs.length) :
    siftup (ltK key) vs pos = .ok (suT (ltK key) vs pos) ∧ (suT (ltK key) vs pos).length = vs.length ∧ ∀ v ∈ suT (ltK key) vs pos, v ∈ vs := by
  obtain ⟨us, e1, e2, e3⟩ := siftup_tot hk hp
  have : suT (ltK key) vs pos = us := by rw [suT, e1]
  rw [this]
  exact ⟨e1, e2, e3⟩

section
variable {h₀ hc : Heap} {mg mb : Str → Option Value} {H L : Addr} {vs : List Value} {bs : List (Str × Value)} {w : World} {A : Around} {E : Value → Shared → Prop} {s : Shared} {f : Addr} {cd : Value} {key : Value → Option Int} {outer : List Env}
abbrev hyEnv (L f : Addr) (cd : Value) : Env := envOf "heapify" hyScope L f cd

/-- what an iterator's step leaves -/
theorem B.step {I : Addr} {h h' : Heap} (b : B h₀ hc H L vs bs h) (hI : L < I) (hH : H < I) (k : ∀ b o, b ∉ [I] → h.get? b = some o → h'.get? b = some o) : B h₀ hc H L vs bs h' := by
  obtain ⟨m, F, l⟩ := b.fr
  have ne : ∀ b : Addr, b < I → b ∉ [I] := fun b q m => by rw [List.mem_singleton.mp m] at q; exact Nat.lt_irrefl _ q
  refine ⟨⟨m, ⟨F.ns.at' fun o e => k L o (ne L hI) e, fun c o e => k c o (ne c (Nat.lt_trans (Nat.lt_of_lt_of_le (Heap.lt_size e) F.above) hI)) (F.keep c o e), F.above⟩, l⟩, b.ls.at fun o e => k H o (ne H hH) e, fun c o n e => k c o (ne c (Nat.lt_trans (Nat.lt_of_lt_of_le (Heap.lt_size e) b.up) hI)) (b.kp c o n e), b.nH, b.ne, b.up⟩
theorem B.lt (b : B h₀ hc H L vs bs s.heap) : L < s.heap.objs.size ∧ H < s.heap.objs.size := by
  obtain ⟨m, F, l⟩ := b.fr
  exact ⟨F.ns.lt, sizeOf_list b.ls⟩
theorem B.ext {h h' : Heap} (b : B h₀ hc H L vs bs h) (k : ∀ b o, h.get? b = some o → h'.get? b = some o) : B h₀ hc H L vs bs h' := by
  obtain ⟨m, F, l⟩ := b.fr
  exact ⟨⟨m, ⟨F.ns.at' fun o e => k L o e, fun c o e => k c o (F.keep c o e), F.above⟩, l⟩, b.ls.at fun o e => k H o e, fun c o n e => k c o (b.kp c o n e), b.nH, b.ne, b.up⟩
theorem B.after {us : List Value} {h h' : Heap} (b : B h₀ hc H L vs bs h) (hl : h'.IsList H us.toArray) (k : ∀ b o, b ≠ H → h.get? b = some o → h'.get? b = some o) : B h₀ hc H L us bs h' := by
  obtain ⟨m, F, l⟩ := b.fr
  refine ⟨⟨m, ⟨F.ns.at' fun o e => k L o (Ne.symm b.ne) e, fun c o e => k c o (fun q => ?_) (F.keep c o e), F.above⟩, l⟩, hl, fun c o n e => k c o n (b.kp c o n e), b.nH, b.ne, b.up⟩
  rw [q, b.nH] at e; cases e

theorem hy_body {Q : Flow → Shared → Prop} (G : Gd h₀ mg mb) (b : B h₀ hc H L vs bs s.heap) (l1 : At bs "x" (.ref H))
    (hI : ∀ v ∈ vs, Itm hc H key v) (hk : AllK key vs) (hn : vs.length < 2 ^ 60) (hh : A.handled = none) (hu : A.units + 6 < cLine) (hroom : A.depth + 1 < recursionLimit)
    (hfr : A.frames = some (hyEnv L f cd :: outer)) (hf : Frs hc outer) (hlc : hc.IsList H vs.toArray)
    (hok : ∀ bs' s', Go s s' → B h₀ hc H L (hfy (ltK key) vs) bs' s'.heap → Q .next s') :
    wpAny (model pw w) A (execs hyBody (hyEnv L f cd)) Q E s := by
  unfold hyBody
  refine wpAny_execs_cons ?_
  refine wpAny_Assign_Name ?_
  refine Call_ ?_
  refine ld_blt G b.keep boot_len ?_
  refine PyProof.Rows.callWith_builtin1 ?_
  refine args_cons ?_
  refine B.ld b l1 ?_
  refine args_nil ?_
  refine Calls.call_len_list b.ls (by rw [List.size_toArray]; omega) ?_
  refine B.st b fun s₁ g₁ b₁ => ?_
  dsimp only
  rw [List.size_toArray] at b₁
  refine wpAny_execs_cons ?_
  refine wpAny_For ?_
  refine Call_ ?_
  refine ld_blt G b₁.keep PyProof.Rows.boot_reversed ?_
  refine PyProof.Rows.callWith_type1 ?_
  refine args_cons ?_
  refine Call_ ?_
  refine ld_blt G b₁.keep PyProof.Rows.boot_range ?_
  refine PyProof.Rows.callWith_type1 ?_
  refine args_cons ?_
  refine wpAny_BinOp ?_
  refine B.ld b₁ rfl ?_
  refine wpAny_Constant_int ?_
  refine floordiv_int (by decide) ?_
  refine args_nil ?_
  refine call_range_1 ?_
  refine args_nil ?_
  have hdiv : (vs.length : Int).fdiv 2 = ((vs.length / 2 : Nat) : Int) := by
    rw [Int.fdiv_eq_ediv_of_nonneg _ (by omega)]; omega
  rw [hdiv]
  have hrs : Builtin.Range.rangeSize 0 ((vs.length / 2 : Nat) : Int) 1 = ((vs.length / 2 : Nat) : Int) := by
    rw [rangeSize_one]; split <;> omega
  refine call_reversed_range (n := vs.length / 2) (IsRange.new ..) hrs ?_ ?_
  · rw [hrs]
    simp only [Builtin.Range.rangeFitsLong, Bool.and_eq_true, decide_eq_true_eq]
    omega
  dsimp only
  generalize hrange : ({ cls := Value.type "range", data := Data.fields _ } : Obj) = robj
  have hI1 : (s₁.heap.push robj).objs.size = s₁.heap.objs.size + 1 := by simp
  generalize hIt : (s₁.heap.push robj).objs.size = I
  rw [hIt] at hI1
  have hit0 : IsRangeIter ((s₁.heap.push robj).push { cls := .type "range_iterator", data := .fields #[rawInt (0 + (((vs.length / 2 : Nat) : Int) - 1) * 1), rawInt ((vs.length / 2 : Nat) : Int), rawInt (-1)] }) I (((vs.length / 2 : Nat) : Int) - 1) ((vs.length / 2 : Nat) : Int) (-1) := by
    have := Heap.get?_push_size (s₁.heap.push robj) (o := { cls := .type "range_iterator", data := .fields #[rawInt (0 + (((vs.length / 2 : Nat) : Int) - 1) * 1), rawInt ((vs.length / 2 : Nat) : Int), rawInt (-1)] }) rfl
    rw [hIt] at this
    rw [show (0 : Int) + (((vs.length / 2 : Nat) : Int) - 1) * 1 = ((vs.length / 2 : Nat) : Int) - 1 by omega] at this ⊢
    exact this
  refine wpAny_pyIter_rangeiter hit0 ?_
  obtain ⟨lL, lH⟩ := b₁.lt
  have hIL : L < I := by rw [hI1]; exact Nat.lt_succ_of_lt lL
  have hIH : H < I := by rw [hI1]; exact Nat.lt_succ_of_lt lH
  obtain ⟨f', o', pm', cd', doc', q1, q2, q3, q4⟩ := G.su
  refine for_rule (Walks.range hh I (((vs.length / 2 : Nat) : Int) - 1) (-1) (vs.length / 2)) (fun i s' => ∃ us bs', Go s s' ∧ B h₀ hc H L us bs' s'.heap ∧ At bs' "x" (.ref H) ∧
    IsRangeIter s'.heap I ((((vs.length / 2 : Nat) : Int) - 1) + (i : Nat) * (-1)) (((vs.length / 2 : Nat) : Int) - (i : Nat)) (-1) ∧ hfyN (ltK key) (vs.length / 2 - i) us = hfy (ltK key) vs ∧ us.length = vs.length ∧ ∀ v ∈ us, v ∈ vs) ?_ ?_ ?_ ?_
  · rintro i s' ⟨us, bs', _, _, _, h, _⟩
    exact h
  · rintro i v s₂ h' tk ⟨us, bs', g₂, b₂, k1, _, he, hlen, hm⟩ hi ⟨t, rfl⟩ hS hkp
    have b₃ := b₂.step hIL hIH hkp
    refine B.stk (s := { s₂ with heap := h', toks := tk }) b₃ fun s₄ g₄ b₄ kp₄ => ?_
    have hS₄ := kp₄ I _ (Nat.ne_of_gt hIL) hS
    have hval : (((vs.length / 2 : Nat) : Int) - 1) + ((i : Nat) : Int) * (-1) = ((vs.length / 2 - 1 - i : Nat) : Int) := by omega
    rw [hval] at b₄
    refine wpAny_execs_cons ?_
    refine wpAny_Expr ?_
    refine Call_ ?_
    refine ld_glob G b₄.keep q1 ?_
    refine callWith_def q3 ?_
    refine args_cons ?_
    refine B.ld b₄ k1 ?_
    refine args_cons ?_
    refine B.ld b₄ rfl ?_
    refine args_nil ⟨b₄.keep _ _ q2, ?_⟩
    obtain ⟨m, F, lk⟩ := id b₄.fr
    obtain ⟨oL, es, ep, hL, hLd, hLr⟩ := F.ns
    have hLlt : L < s₄.heap.objs.size := Heap.lt_size hL
    have hfs : Frs s₄.heap (hyEnv L f cd :: outer) := ⟨rfl, ⟨L, oL, es, ep, rfl, hL, hLd⟩, frs_keep hf hlc b₄.kp⟩
    have hk' : AllK key us := fun v hv => hk v (hm v hv)
    obtain ⟨t1, t2, t3⟩ := siftup_suT (pos := vs.length / 2 - 1 - i) hk' (by omega)
    refine wpAny_call (su_call (pos := vs.length / 2 - 1 - i) G b₄.keep (Nat.le_of_lt (Nat.lt_of_le_of_lt F.above hLlt)) q2 q3 q4 hroom b₄.ls b₄.nH (fun v hv => Itm.keep (hI v (hm v hv)) b₄.kp) (by omega) (by omega) hh hu hfr hfs
      (fun us' s₅ g₅ e₅ hl₅ kp₅ => ?_) (fun us' s₅ h₁ fs e g₅ e₅ _ _ _ _ _ => ?_))
    · dsimp only
      refine wpAny_execs_nil ?_
      dsimp only
      have hus : us' = suT (ltK key) us (vs.length / 2 - 1 - i) := Except.ok.inj (e₅.symm.trans t1)
      subst hus
      refine ⟨_, _, g₂.trans (Go.trans (Go.trans ⟨_, _, rfl⟩ g₄) g₅), b₄.after hl₅ kp₅, k1, kp₅ I _ (Nat.ne_of_gt hIH) hS₄, ?_, t2.trans hlen, fun v hv => hm v (t3 v hv)⟩
      rw [← he, show vs.length / 2 - i = (vs.length / 2 - 1 - i) + 1 by omega, show vs.length / 2 - (i + 1) = vs.length / 2 - 1 - i by omega]
      rfl
    · rw [t1] at e₅; cases e₅
  · rintro s₂ h' tk ⟨us, bs', g₂, b₂, k1, _, he, hlen, hm⟩ hkp
    have b₃ := b₂.step hIL hIH hkp
    refine wpAny_execs_nil ?_
    refine wpAny_execs_nil ?_
    refine hok _ _ (g₂.trans ⟨_, _, rfl⟩) (?_ : B h₀ hc H L _ bs' h')
    rw [← he, Nat.sub_self]
    exact b₃
  · refine ⟨vs, _, ((Go.trans ⟨_, _, rfl⟩ g₁).trans ⟨_, _, rfl⟩), b₁.ext fun c o e => Heap.get?_push_of_some _ (Heap.get?_push_of_some _ e), l1, ?_, rfl, rfl, fun _ h => h⟩
    simpa using hit0

theorem hy_call {R : Result → Shared → Prop} {o : Obj} {pm doc : Value} (G : Gd h₀ mg mb) (k₀ : ∀ b o, h₀.get? b = some o → s.heap.get? b = some o) (hsz : h₀.objs.size ≤ s.heap.objs.size)
    (ho : h₀.get? f = some o) (hdat : o.data = .func (Calls.docDef "heapify" hyParams hyBody hyScope pm cd doc)) (hcd : h₀.CodeRec cd "heapify")
    (hroom : A.depth + 2 < recursionLimit) (hl : s.heap.IsList H vs.toArray) (nH : h₀.get? H = none) (hI : ∀ v ∈ vs, Itm s.heap H key v) (hk : AllK key vs) (hn : vs.length < 2 ^ 60)
    (hh : A.handled = none) (hu : A.units + 9 < cLine) (hfr : A.frames = some outer) (hf : Frs s.heap outer)
    (hok : ∀ s', Go s s' → s'.heap.IsList H (hfy (ltK key) vs).toArray → (∀ b o, b ≠ H → s.heap.get? b = some o → s'.heap.get? b = some o) → R (.ok (.ret .none)) s') :
    codeAny (model pw w) A (.call (.ref f) ⟨[.ref H], []⟩) R s := by
  have hHL : H ≠ s.heap.objs.size := Nat.ne_of_lt (sizeOf_list hl)
  refine call_plain_ret (binds := [("x", .ref H)]) (by omega) (k₀ _ _ ho) hdat (G.lim.keeps k₀) (hcd.keeps k₀) rfl (locs rfl) (fun h₁ F => ?_)
  have b : B h₀ s.heap H s.heap.objs.size vs [("x", .ref H)] h₁ :=
    ⟨⟨_, ⟨F.ns, fun b o e => F.keep b o (k₀ b o e), hsz⟩, fun _ _ e => e⟩, hl.at fun o e => F.keep _ _ e, fun b o _ e => F.keep b o e, nH, hHL, Nat.le_refl _⟩
  have hfr' : (A.deeper (hyEnv s.heap.objs.size f cd)).frames = some (hyEnv s.heap.objs.size f cd :: outer) := Around.frames_deeper hfr
  refine hy_body (s := { s with heap := h₁, toks := s.toks + _ }) G b rfl hI hk hn hh (by show A.units + 3 + 6 < cLine; omega) (by show A.depth + 1 + 1 < recursionLimit; omega) hfr' hf hl (fun bs' s' g b' => ?_)
  exact hok s' (Go.trans ⟨_, _, rfl⟩ g) b'.ls b'.kp
end
end Mine
end PartM8
section PartP2
open PySem
set_option maxHeartbeats 1000000
namespace Mine
/-! the way of a sift, and what a sift makes of a row -/

theorem nth_set {vs : List Value} {i k : Nat} {v : Value} (hi : i < vs.length) : nth (vs.set i v) k = if k = i then v else nth vs k := by
  simp only [nth, List.getD_eq_getElem?_getD, List.getElem?_set]
  by_cases h : i = k
  · subst h; simp [hi]
  · have h' : ¬ k = i := fun e => h e.symm
    simp [h, h']
theorem ext_nth {us vs : List Value} (hl : us.length = vs.length) (h : ∀ k, k < us.length → nth us k = nth vs k) : us = vs := by
  apply List.ext_getElem? 
  intro k
  by_cases hk : k < us.length
  · have := h k hk
    simp only [nth, List.getD_eq_getElem?_getD] at this
    rw [List.getElem?_eq_getElem hk, List.getElem?_eq_getElem (hl ▸ hk)] at this ⊢
    simpa using this
  · rw [List.getElem?_eq_none (by omega), List.getElem?_eq_none (by omega)]

section
variable (lt : Cmp) (ws : List Value) (st : Nat)
/-- the child that is taken -/
def nx (k : Nat) : Nat := if 2 * k + 2 < ws.length ∧ lt (nth ws (2 * k + 1)) (nth ws (2 * k + 2)) ≠ some true then 2 * k + 2 else 2 * k + 1
def pth : Nat → Nat
  | 0 => st
  | i + 1 => nx lt ws (pth i)
/-- a place of the way -/
def Rc (k : Nat) : Prop := ∃ i, pth lt ws st i = k ∧ k < ws.length
end

section
variable {lt : Cmp} {ws : List Value} {st : Nat}
theorem nx_or (k : Nat) : nx lt ws k = 2 * k + 1 ∨ (nx lt ws k = 2 * k + 2 ∧ 2 * k + 2 < ws.length) := by
  unfold nx; split
  · rename_i h; exact .inr ⟨rfl, h.1⟩
  · exact .inl rfl
theorem nx_gt (k : Nat) : k < nx lt ws k := by rcases nx_or (lt := lt) (ws := ws) k with h | ⟨h, _⟩ <;> omega
theorem nx_par (k : Nat) : (nx lt ws k - 1) / 2 = k := by rcases nx_or (lt := lt) (ws := ws) k with h | ⟨h, _⟩ <;> omega
theorem nx_lt {k : Nat} (h : 2 * k + 1 < ws.length) : nx lt ws k < ws.length := by rcases nx_or (lt := lt) (ws := ws) k with h | ⟨h, _⟩ <;> omega
theorem nx_ge (k : Nat) : 2 * k + 1 ≤ nx lt ws k := by rcases nx_or (lt := lt) (ws := ws) k with h | ⟨h, _⟩ <;> omega
theorem pth_lt {i j : Nat} (h : i < j) : pth lt ws st i < pth lt ws st j := by
  induction j with
  | zero => omega
  | succ j ih =>
    have := nx_gt (lt := lt) (ws := ws) (pth lt ws st j)
    show pth lt ws st i < nx lt ws (pth lt ws st j)
    by_cases e : i = j
    · subst e; exact this
    · exact Nat.lt_trans (ih (by omega)) this
theorem pth_le {i j : Nat} (h : i ≤ j) : pth lt ws st i ≤ pth lt ws st j := by
  by_cases e : i = j
  · subst e; exact Nat.le_refl _
  · exact Nat.le_of_lt (pth_lt (by omega))
theorem Rc.start (h : st < ws.length) : Rc lt ws st st := ⟨0, rfl, h⟩
theorem Rc.ge {k : Nat} (h : Rc lt ws st k) : st ≤ k := by
  obtain ⟨i, rfl, _⟩ := h
  exact pth_le (i := 0) (Nat.zero_le _)
theorem Rc.inb {k : Nat} (h : Rc lt ws st k) : k < ws.length := by obtain ⟨i, _, h⟩ := h; exact h
theorem Rc.next {k : Nat} (h : Rc lt ws st k) (hk : 2 * k + 1 < ws.length) : Rc lt ws st (nx lt ws k) := by
  obtain ⟨i, rfl, _⟩ := h
  exact ⟨i + 1, rfl, nx_lt hk⟩
theorem Rc.chain {q k : Nat} (hq : Rc lt ws st q) (hk : Rc lt ws st k) (h : q < k) : nx lt ws q ≤ k ∧ 2 * q + 1 < ws.length := by
  obtain ⟨i, rfl, _⟩ := hq
  obtain ⟨j, rfl, hj⟩ := hk
  have hij : i < j := by
    rcases Nat.lt_or_ge i j with h' | h'
    · exact h'
    · exact absurd h (Nat.not_lt.mpr (pth_le h'))
  have h1 : nx lt ws (pth lt ws st i) ≤ pth lt ws st j := pth_le (i := i + 1) hij
  have h2 := nx_ge (lt := lt) (ws := ws) (pth lt ws st i)
  exact ⟨h1, by omega⟩
theorem Rc.prev {q : Nat} (hq : Rc lt ws st q) (h : q ≠ st) : Rc lt ws st ((q - 1) / 2) ∧ nx lt ws ((q - 1) / 2) = q ∧ (q - 1) / 2 < q ∧ 2 * ((q - 1) / 2) + 1 < ws.length := by
  obtain ⟨i, rfl, hb⟩ := hq
  cases i with
  | zero => exact absurd rfl h
  | succ i =>
    have e : (pth lt ws st (i + 1) - 1) / 2 = pth lt ws st i := nx_par _
    have h1 := nx_gt (lt := lt) (ws := ws) (pth lt ws st i)
    have h2 := nx_ge (lt := lt) (ws := ws) (pth lt ws st i)
    have h3 : pth lt ws st (i + 1) = nx lt ws (pth lt ws st i) := rfl
    rw [e]
    exact ⟨⟨i, rfl, by omega⟩, rfl, by omega, by omega⟩
theorem Rc.st_le {q : Nat} (hq : Rc lt ws st q) : q = st ∨ st < q := by
  have := hq.ge; omega

open Classical in
/-- the row with the way's items moved up, below q -/
noncomputable def sh (lt : Cmp) (ws : List Value) (st : Nat) (o : Nat → Value) (q k : Nat) : Value := if Rc lt ws st k ∧ k < q then o (nx lt ws k) else o k
theorem sh_up {o : Nat → Value} {q k : Nat} (hk : Rc lt ws st k) (h : k < q) : sh lt ws st o q k = o (nx lt ws k) := by unfold sh; rw [if_pos ⟨hk, h⟩]
theorem sh_ge {o : Nat → Value} {q k : Nat} (h : q ≤ k) : sh lt ws st o q k = o k := by unfold sh; rw [if_neg (fun h' => by omega)]
theorem sh_off {o : Nat → Value} {q k : Nat} (h : ¬ Rc lt ws st k) : sh lt ws st o q k = o k := by unfold sh; rw [if_neg (fun h' => h h'.1)]
theorem sh_start {o : Nat → Value} {k : Nat} : sh lt ws st o st k = o k := by
  by_cases h : Rc lt ws st k
  · exact sh_ge h.ge
  · exact sh_off h
/-- between a place and the next one nothing turns -/
theorem sh_next {o : Nat → Value} {q k : Nat} (hq : Rc lt ws st q) (hk : k ≠ q) : sh lt ws st o (nx lt ws q) k = sh lt ws st o q k := by
  by_cases h : Rc lt ws st k
  · by_cases h1 : k < q
    · rw [sh_up h h1, sh_up h (Nat.lt_trans h1 (nx_gt _))]
    · have := (hq.chain h (by omega)).1
      rw [sh_ge this, sh_ge (by omega)]
  · rw [sh_off h, sh_off h]

def Sh (lt : Cmp) (ws : List Value) (st : Nat) (o : Nat → Value) (vs : List Value) (q : Nat) : Prop := vs.length = ws.length ∧ ∀ k, k < ws.length → nth vs k = sh lt ws st o q k
/-- the children of r are compared as in ws -/
def Same (lt : Cmp) (ws : List Value) (o : Nat → Value) (r : Nat) : Prop := 2 * r + 2 < ws.length → lt (o (2 * r + 1)) (o (2 * r + 2)) = lt (nth ws (2 * r + 1)) (nth ws (2 * r + 2)) ∧ lt (nth ws (2 * r + 1)) (nth ws (2 * r + 2)) ≠ none

def Dn (lt : Cmp) (ws : List Value) (st : Nat) (o : Nat → Value) (vs : List Value) (q : Nat) : Prop := vs.length = ws.length ∧ ∀ k, k < ws.length → k ≠ q → nth vs k = sh lt ws st o q k
theorem Sh.dn {o : Nat → Value} {vs : List Value} {q : Nat} (h : Sh lt ws st o vs q) : Dn lt ws st o vs q := ⟨h.1, fun k hk _ => h.2 k hk⟩
theorem su_step {o : Nat → Value} {vs : List Value} {q : Nat} (hS : Dn lt ws st o vs q) (hq : Rc lt ws st q) (h1 : 2 * q + 1 < ws.length) (hs : Same lt ws o q) :
    suLoop lt vs q = suLoop lt (vs.set q (o (nx lt ws q))) (nx lt ws q) ∧ Sh lt ws st o (vs.set q (o (nx lt ws q))) (nx lt ws q) := by
  obtain ⟨hl, hv⟩ := hS
  have c1 : nth vs (2 * q + 1) = o (2 * q + 1) := by rw [hv _ h1 (by omega), sh_ge (by omega)]
  refine ⟨?_, by rw [List.length_set]; exact hl, fun k hk => ?_⟩
  · rw [suLoop, if_pos (by omega)]
    by_cases h2 : 2 * q + 2 < ws.length
    · have c2 : nth vs (2 * q + 2) = o (2 * q + 2) := by rw [hv _ h2 (by omega), sh_ge (by omega)]
      obtain ⟨e1, e2⟩ := hs h2
      rw [if_pos (by omega), c1, c2, e1]
      cases e : lt (nth ws (2 * q + 1)) (nth ws (2 * q + 2)) with
      | none => exact absurd e e2
      | some b =>
        cases b with
        | true =>
          have : nx lt ws q = 2 * q + 1 := by unfold nx; rw [if_neg (fun h => h.2 e)]
          rw [this]
        | false =>
          have : nx lt ws q = 2 * q + 2 := by unfold nx; rw [if_pos ⟨h2, by rw [e]; simp⟩]
          rw [this]
    · have : nx lt ws q = 2 * q + 1 := by unfold nx; rw [if_neg (fun h => h2 h.1)]
      rw [if_neg (by omega), c1, this]
  · rw [nth_set (by have := hq.inb; omega)]
    by_cases e : k = q
    · subst e
      rw [if_pos rfl, sh_up hq (nx_gt _)]
    · rw [if_neg e, sh_next hq e, hv k hk e]

theorem su_steps {o : Nat → Value} : ∀ (d i : Nat) (vs : List Value), Sh lt ws st o vs (pth lt ws st i) → pth lt ws st (i + d) < ws.length → (∀ j, i ≤ j → j < i + d → Same lt ws o (pth lt ws st j)) →
    ∃ us, suLoop lt vs (pth lt ws st i) = suLoop lt us (pth lt ws st (i + d)) ∧ Sh lt ws st o us (pth lt ws st (i + d)) := by
  intro d
  induction d with
  | zero => intro i vs hS _ _; exact ⟨vs, rfl, hS⟩
  | succ d ih =>
    intro i vs hS hb hs
    have hb1 : pth lt ws st i < ws.length := Nat.lt_of_le_of_lt (pth_le (by omega)) hb
    have hq : Rc lt ws st (pth lt ws st i) := ⟨i, rfl, hb1⟩
    have hb2 : pth lt ws st (i + 1) < ws.length := Nat.lt_of_le_of_lt (pth_le (by omega)) hb
    have h1 : 2 * pth lt ws st i + 1 < ws.length := by have := nx_ge (lt := lt) (ws := ws) (pth lt ws st i); exact Nat.lt_of_le_of_lt this hb2
    obtain ⟨e, hS'⟩ := su_step hS.dn hq h1 (hs i (Nat.le_refl _) (by omega))
    obtain ⟨us, e', hS''⟩ := ih (i + 1) _ hS' (by rw [show i + 1 + d = i + (d + 1) by omega]; exact hb) (fun j h1 h2 => hs j (by omega) (by omega))
    rw [show i + 1 + d = i + (d + 1) by omega] at e' hS''
    exact ⟨us, e.trans e', hS''⟩

/-- along the way from q to q' -/
theorem su_to {o : Nat → Value} {vs : List Value} {q q' : Nat} (hS : Sh lt ws st o vs q) (hq : Rc lt ws st q) (hq' : Rc lt ws st q') (hle : q ≤ q') (hs : ∀ r, Rc lt ws st r → q ≤ r → r < q' → Same lt ws o r) :
    ∃ us, suLoop lt vs q = suLoop lt us q' ∧ Sh lt ws st o us q' := by
  obtain ⟨i, rfl, hi⟩ := hq
  obtain ⟨j, rfl, hj⟩ := hq'
  have hij : i ≤ j := by
    rcases Nat.lt_or_ge j i with h' | h'
    · exact absurd (pth_lt h') (Nat.not_lt.mpr hle)
    · exact h'
  obtain ⟨us, e, hS'⟩ := su_steps (j - i) i vs hS (by rw [Nat.add_sub_cancel' hij]; exact hj) (fun r h1 h2 => hs _ ⟨r, rfl, Nat.lt_of_le_of_lt (pth_le (by omega)) hj⟩ (pth_le h1) (pth_lt (by omega)))
  rw [Nat.add_sub_cancel' hij] at e hS'
  exact ⟨us, e, hS'⟩

/-- the way's end -/
theorem Rc.leaf (h : st < ws.length) : ∃ z, Rc lt ws st z ∧ ws.length ≤ 2 * z + 1 ∧ ∀ r, Rc lt ws st r → r ≤ z := by
  have key : ∀ n q, ws.length - q = n → Rc lt ws st q → ∃ z, Rc lt ws st z ∧ ws.length ≤ 2 * z + 1 := by
    intro n
    induction n using Nat.strongRecOn with
    | ind n ih =>
      intro q hn hq
      by_cases h1 : 2 * q + 1 < ws.length
      · have := nx_gt (lt := lt) (ws := ws) q
        have := hq.inb
        exact ih (ws.length - nx lt ws q) (by omega) _ rfl (hq.next h1)
      · exact ⟨q, hq, by omega⟩
  obtain ⟨z, hz, hl⟩ := key _ st rfl (Rc.start h)
  refine ⟨z, hz, hl, fun r hr => ?_⟩
  rcases Nat.lt_or_ge z r with h' | h'
  · have := (hz.chain hr h').2; omega
  · exact h'

/-! back to its place -/
def Fin' (lt : Cmp) (ws : List Value) (st : Nat) (o : Nat → Value) (X : Value) (q : Nat) (vs : List Value) : Prop := vs.length = ws.length ∧ ∀ k, k < ws.length → nth vs k = if k = q then X else sh lt ws st o q k
theorem Dn.fin {o : Nat → Value} {X : Value} {vs : List Value} {q : Nat} (h : Dn lt ws st o vs q) (hq : q < ws.length) : Fin' lt ws st o X q (vs.set q X) := by
  refine ⟨by rw [List.length_set]; exact h.1, fun k hk => ?_⟩
  rw [nth_set (by rw [h.1]; exact hq)]
  by_cases e : k = q
  · rw [if_pos e, if_pos e]
  · rw [if_neg e, if_neg e, h.2 k hk e]
theorem Fin'.dn {o : Nat → Value} {X : Value} {vs : List Value} {q : Nat} (h : Fin' lt ws st o X q vs) : Dn lt ws st o vs q := ⟨h.1, fun k hk e => by rw [h.2 k hk, if_neg e]⟩
theorem Fin'.eq {o : Nat → Value} {X : Value} {us vs : List Value} {q : Nat} (h : Fin' lt ws st o X q us) (h' : Fin' lt ws st o X q vs) : us = vs :=
  ext_nth (h.1.trans h'.1.symm) fun k hk => by rw [h.2 k (h.1 ▸ hk), h'.2 k (h.1 ▸ hk)]
theorem Sh.fin {o : Nat → Value} {X : Value} {vs : List Value} {q : Nat} (h : Sh lt ws st o vs q) (hq : q < ws.length) : Fin' lt ws st o X q (vs.set q X) := Dn.fin ⟨h.1, fun k hk _ => h.2 k hk⟩ hq

theorem dn_step {o : Nat → Value} {vs : List Value} {q : Nat} (hD : Dn lt ws st o vs q) (hq : Rc lt ws st q) (hne : q ≠ st) :
    nth vs ((q - 1) / 2) = o q ∧ Dn lt ws st o (vs.set q (o q)) ((q - 1) / 2) := by
  obtain ⟨hr, e1, e2, e3⟩ := hq.prev hne
  have hqb := hq.inb
  refine ⟨?_, by rw [List.length_set]; exact hD.1, fun k hk hkn => ?_⟩
  · rw [hD.2 _ (by omega) (by omega), sh_up hr e2, e1]
  · rw [nth_set (by rw [hD.1]; exact hqb)]
    by_cases e : k = q
    · subst e
      rw [if_pos rfl, sh_ge (by omega)]
    · rw [if_neg e, hD.2 k hk e]
      have := sh_next (o := o) hr hkn
      rw [e1] at this
      exact this

theorem sd_to {o : Nat → Value} {X : Value} {a : Nat} (ha : Rc lt ws st a) : ∀ (q : Nat) (vs : List Value), Dn lt ws st o vs q → Rc lt ws st q → a ≤ q → (∀ r, Rc lt ws st r → a < r → r ≤ q → lt X (o r) ≠ none) →
    ∃ us q', sdLoop lt a X vs q = .ok (us, q') ∧ Dn lt ws st o us q' ∧ Rc lt ws st q' ∧ a ≤ q' ∧ q' ≤ q ∧ (q' = a ∨ lt X (o q') = some false) ∧ ∀ r, Rc lt ws st r → q' < r → r ≤ q → lt X (o r) = some true := by
  intro q
  induction q using Nat.strongRecOn with
  | ind q ih =>
    intro vs hD hq haq ht
    rw [sdLoop]
    by_cases h : a < q
    · have hne : q ≠ st := by have := ha.ge; omega
      obtain ⟨hr, e1, e2, e3⟩ := hq.prev hne
      obtain ⟨c1, hD'⟩ := dn_step hD hq hne
      rw [if_pos h, c1]
      cases e : lt X (o q) with
      | none => exact absurd e (ht q hq h (Nat.le_refl _))
      | some b =>
        cases b with
        | false => exact ⟨vs, q, rfl, hD, hq, haq, Nat.le_refl _, .inr e, fun r _ h1 h2 => by omega⟩
        | true =>
          have haq' : a ≤ (q - 1) / 2 := by
            rcases Nat.lt_or_ge ((q - 1) / 2) a with h' | h'
            · have := (hr.chain ha h').1; omega
            · exact h'
          obtain ⟨us, q', f1, f2, f3, f4, f5, f6, f7⟩ := ih _ e2 _ hD' hr haq' (fun r h1 h2 h3 => ht r h1 h2 (by omega))
          refine ⟨us, q', f1, f2, f3, f4, by omega, f6, fun r h1 h2 h3 => ?_⟩
          rcases Nat.lt_or_ge ((q - 1) / 2) r with h' | h'
          · have := (hr.chain h1 h').1
            have : r = q := by omega
            subst this; exact e
          · exact f7 r h1 h2 h'
    · rw [if_neg h]
      have : q = a := by omega
      exact ⟨vs, q, rfl, hD, hq, haq, Nat.le_refl _, .inl this, fun r _ h1 h2 => by omega⟩

/-- the way to its end, from a place with children whose own item does not count -/
theorem su_end {o : Nat → Value} {vs : List Value} {q z : Nat} (hD : Dn lt ws st o vs q) (hq : Rc lt ws st q) (h1 : 2 * q + 1 < ws.length) (hz : Rc lt ws st z) (hzl : ws.length ≤ 2 * z + 1) (hqz : q ≤ z) (hs : ∀ r, Rc lt ws st r → q ≤ r → r < z → Same lt ws o r) :
    ∃ us, suLoop lt vs q = .ok (us, z) ∧ Sh lt ws st o us z := by
  have hlt : q < z := by
    rcases Nat.lt_or_ge q z with h | h
    · exact h
    · have : q = z := by omega
      subst this; omega
  obtain ⟨e, hS⟩ := su_step hD hq h1 (hs q hq (Nat.le_refl _) hlt)
  obtain ⟨us, e', hS'⟩ := su_to hS (hq.next h1) hz (hq.chain hz hlt).1 (fun r h1 h2 h3 => hs r h1 (by have := nx_gt (lt := lt) (ws := ws) q; omega) h3)
  refine ⟨us, ?_, hS'⟩
  rw [e, e', suLoop, if_neg (by rw [hS'.1]; omega)]

def Stop (lt : Cmp) (ws : List Value) (st : Nat) (X : Value) (q : Nat) : Prop := Rc lt ws st q ∧ (q = st ∨ lt X (nth ws q) = some false) ∧ ∀ r, Rc lt ws st r → q < r → lt X (nth ws r) = some true
theorem Stop.uniq {X : Value} {q q' : Nat} (h : Stop lt ws st X q) (h' : Stop lt ws st X q') : q = q' := by
  have aux : ∀ q q', Stop lt ws st X q → Stop lt ws st X q' → ¬ q < q' := by
    intro q q' h h' hlt
    have h1 := h.2.2 q' h'.1 hlt
    rcases h'.2.1 with e | e
    · have := h.1.ge; omega
    · rw [e] at h1; cases h1
  have := aux q q' h h'
  have := aux q' q h' h
  omega

/-- what siftdown gives from a full row with X at q -/
theorem sd_fin {o : Nat → Value} {X : Value} {a q : Nat} {vs : List Value} (ha : Rc lt ws st a) (hF : Fin' lt ws st o X q vs) (hq : Rc lt ws st q) (haq : a ≤ q) (ht : ∀ r, Rc lt ws st r → a < r → r ≤ q → lt X (o r) ≠ none) :
    ∃ us q', siftdown lt vs a q = .ok us ∧ Fin' lt ws st o X q' us ∧ Rc lt ws st q' ∧ a ≤ q' ∧ q' ≤ q ∧ (q' = a ∨ lt X (o q') = some false) ∧ ∀ r, Rc lt ws st r → q' < r → r ≤ q → lt X (o r) = some true := by
  have hX : nth vs q = X := by rw [hF.2 q hq.inb, if_pos rfl]
  obtain ⟨us, q', f1, f2, f3, f4, f5, f6, f7⟩ := sd_to ha q vs hF.dn hq haq ht
  exact ⟨us.set q' X, q', by rw [siftdown, hX, f1], f2.fin f3.inb, f3, f4, f5, f6, f7⟩

/-- which place's item lies at k -/
theorem fin_src {X : Value} {q : Nat} {vs : List Value} (hF : Fin' lt ws st (nth ws) X q vs) (hq : Rc lt ws st q) (hX : X = nth ws st) (hst : st < ws.length) {k : Nat} (hk : k < ws.length) :
    ∃ j, j < ws.length ∧ nth vs k = nth ws j ∧ ((k = q ∧ j = st) ∨ (k ≠ q ∧ Rc lt ws st k ∧ k < q ∧ j = nx lt ws k) ∨ (k ≠ q ∧ ¬ (Rc lt ws st k ∧ k < q) ∧ j = k)) := by
  rw [hF.2 k hk]
  by_cases e : k = q
  · exact ⟨st, hst, by rw [if_pos e, hX], .inl ⟨e, rfl⟩⟩
  · rw [if_neg e]
    by_cases h : Rc lt ws st k ∧ k < q
    · exact ⟨nx lt ws k, nx_lt (h.1.chain hq h.2).2, sh_up h.1 h.2, .inr (.inl ⟨e, h.1, h.2, rfl⟩)⟩
    · refine ⟨k, hk, ?_, .inr (.inr ⟨e, h, rfl⟩)⟩
      unfold sh; rw [if_neg h]
theorem fin_inj {X : Value} {q : Nat} {vs : List Value} (nd : ∀ i j, i < ws.length → j < ws.length → nth ws i = nth ws j → i = j) (hF : Fin' lt ws st (nth ws) X q vs) (hq : Rc lt ws st q) (hX : X = nth ws st) (hst : st < ws.length)
    {k k' : Nat} (hk : k < ws.length) (hk' : k' < ws.length) (h : nth vs k = nth vs k') : k = k' := by
  obtain ⟨j, hj, e, c⟩ := fin_src hF hq hX hst hk
  obtain ⟨j', hj', e', c'⟩ := fin_src hF hq hX hst hk'
  have hjj : j = j' := nd j j' hj hj' (by rw [← e, ← e', h])
  have S := Rc.start (lt := lt) hst
  have G := hq.ge
  rcases c with ⟨c1, c2⟩ | ⟨c1, c2, c3, c4⟩ | ⟨c1, c2, c3⟩ <;> rcases c' with ⟨d1, d2⟩ | ⟨d1, d2, d3, d4⟩ | ⟨d1, d2, d3⟩
  · omega
  · exfalso; have := d2.ge; have := nx_gt (lt := lt) (ws := ws) k'; omega
  · exfalso
    have hk1 : k' = st := by omega
    subst hk1
    exact d2 ⟨S, by omega⟩
  · exfalso; have := c2.ge; have := nx_gt (lt := lt) (ws := ws) k; omega
  · have h1 := nx_par (lt := lt) (ws := ws) k
    have h2 := nx_par (lt := lt) (ws := ws) k'
    rw [← c4, hjj, d4, h2] at h1
    exact h1.symm
  · exfalso
    have h1 : k' = nx lt ws k := by omega
    have h2 := c2.chain hq c3
    exact d2 ⟨h1 ▸ c2.next h2.2, by omega⟩
  · exfalso
    have hk1 : k = st := by omega
    subst hk1
    exact c2 ⟨S, by omega⟩
  · exfalso
    have h1 : k = nx lt ws k' := by omega
    have h2 := d2.chain hq d3
    exact c2 ⟨h1 ▸ d2.next h2.2, by omega⟩
  · omega
end

/-- how the taking up goes, and that it ends in W -/
def Alt (lt : Cmp) (row : List Value) (st : Nat) (X : Value) (W : List Value) : Prop :=
  (∃ t row2, st < t ∧ t < row.length ∧ nth row t = nth row ((t - 1) / 2) ∧ (∀ k, st < k → k < t → nth row k ≠ nth row ((k - 1) / 2)) ∧ siftup lt (row.set t X) t = .ok row2 ∧ siftdown lt row2 st t = .ok W) ∨
  ((∀ k, st < k → k < row.length → nth row k ≠ nth row ((k - 1) / 2)) ∧ nth row st = X ∧ siftup lt row st = .ok W) ∨
  ((∀ k, st < k → k < row.length → nth row k ≠ nth row ((k - 1) / 2)) ∧ nth row st ≠ X ∧ ∃ i, i < row.length ∧ nth row i = X ∧ (∀ k, k < i → nth row k ≠ X) ∧ siftdown lt row st i = .ok W)

section
variable {key : Value → Option Int} {ws : List Value} {st : Nat}
theorem same_self (hk : AllK key ws) (r : Nat) : Same (ltK key) ws (nth ws) r := fun h => ⟨rfl, by
  obtain ⟨b, e⟩ := ltK_some (hk _ (nth_mem (vs := ws) (i := 2 * r + 1) (by omega))) (hk _ (nth_mem h))
  rw [e]; simp⟩
theorem tot_self (hk : AllK key ws) {X : Value} (hX : key X ≠ none) {r : Nat} (hr : r < ws.length) : ltK key X (nth ws r) ≠ none := by
  obtain ⟨b, e⟩ := ltK_some hX (hk _ (nth_mem hr))
  rw [e]; simp

theorem whole_spec (hk : AllK key ws) (hst : st < ws.length) : ∃ W q, siftup (ltK key) ws st = .ok W ∧ Fin' (ltK key) ws st (nth ws) (nth ws st) q W ∧ Stop (ltK key) ws st (nth ws st) q := by
  obtain ⟨z, hz, hzl, hmax⟩ := Rc.leaf (lt := ltK key) hst
  have S := Rc.start (lt := ltK key) hst
  have hD0 : Dn (ltK key) ws st (nth ws) ws st := ⟨rfl, fun k _ _ => sh_start.symm⟩
  have hu : ∃ us, suLoop (ltK key) ws st = .ok (us, z) ∧ Sh (ltK key) ws st (nth ws) us z := by
    by_cases h1 : 2 * st + 1 < ws.length
    · exact su_end hD0 S h1 hz hzl (hmax st S) (fun r _ _ _ => same_self hk r)
    · have : z = st := by
        rcases hz.st_le with h | h
        · exact h
        · exact absurd (S.chain hz h).2 h1
      subst this
      exact ⟨ws, by rw [suLoop, if_neg h1], rfl, fun k _ => sh_start.symm⟩
  obtain ⟨us, e, hS⟩ := hu
  obtain ⟨W, q, f1, f2, f3, f4, f5, f6, f7⟩ := sd_fin (X := nth ws st) S (hS.fin hz.inb) hz (hmax st S) (fun r h1 _ _ => tot_self hk (hk _ (nth_mem hst)) h1.inb)
  exact ⟨W, q, by rw [siftup, e]; exact f1, f2, f3, f6, fun r h1 h2 => f7 r h1 h2 (hmax r h1)⟩

/-- X goes on from the way's end, or from any full row -/
theorem alt_fin (hk : AllK key ws) (hst : st < ws.length) (nd : ∀ i j, i < ws.length → j < ws.length → nth ws i = nth ws j → i = j) {W : List Value} {qs : Nat} (hW : Fin' (ltK key) ws st (nth ws) (nth ws st) qs W) (hstop : Stop (ltK key) ws st (nth ws st) qs)
    {row : List Value} {z : Nat} (hz : Rc (ltK key) ws st z) (hmax : ∀ r, Rc (ltK key) ws st r → r ≤ z) (hne : z ≠ st) (hF : Fin' (ltK key) ws st (nth ws) (nth ws st) z row) : Alt (ltK key) row st (nth ws st) W := by
  have S := Rc.start (lt := ltK key) hst
  have hl := hF.1
  have inj : ∀ k k', k < ws.length → k' < ws.length → nth row k = nth row k' → k = k' := fun k k' h1 h2 h => fin_inj nd hF hz rfl hst h1 h2 h
  have hzX : nth row z = nth ws st := by rw [hF.2 z hz.inb, if_pos rfl]
  refine .inr (.inr ⟨fun k h1 h2 h => ?_, fun h => ?_, z, by rw [hl]; exact hz.inb, hzX, fun k h1 h => ?_, ?_⟩)
  · have := inj _ _ (by omega) (by omega) h; omega
  · exact hne (inj _ _ hz.inb hst (hzX.trans h.symm))
  · have := inj _ _ (by have := hz.inb; omega) hz.inb (h.trans hzX.symm); omega
  · obtain ⟨us, q, f1, f2, f3, f4, f5, f6, f7⟩ := sd_fin (X := nth ws st) S hF hz (hmax st S) (fun r h1 _ _ => tot_self hk (hk _ (nth_mem hst)) h1.inb)
    have : q = qs := Stop.uniq ⟨f3, f6, fun r h1 h2 => f7 r h1 h2 (hmax r h1)⟩ hstop
    subst this
    rw [f1, Fin'.eq f2 hW]

theorem row_spec {odd : Nat} (hk : AllK key ws) (hN : key .none = none) (hst : st < ws.length) (hodd : odd < ws.length) (nd : ∀ i j, i < ws.length → j < ws.length → nth ws i = nth ws j → i = j)
    (hord : ∀ k, 0 < k → k < ws.length → (k - 1) / 2 ≠ st → k ≠ st → ltK key (nth ws k) (nth ws ((k - 1) / 2)) = some false) {W : List Value} (hW : siftup (ltK key) ws st = .ok W) :
    (∃ us p, siftup (ltK key) (ws.set odd .none) st = .ok us ∧ ¬ ((odd ≠ st ∧ Rc (ltK key) ws st ((odd - 1) / 2)) ∨ (odd = st ∧ 2 * st + 1 < ws.length)) ∧ us.length = ws.length ∧ p < ws.length ∧ nth us p = .none ∧
      (∀ k, k < ws.length → k ≠ p → nth us k ≠ .none) ∧ us.set p (nth ws odd) = W) ∨
    (∃ us p, siftup (ltK key) (ws.set odd .none) st = .error us ∧ ((odd ≠ st ∧ Rc (ltK key) ws st ((odd - 1) / 2)) ∨ (odd = st ∧ 2 * st + 1 < ws.length)) ∧ us.length = ws.length ∧ p < ws.length ∧ nth us p = .none ∧
      (∀ k, k < ws.length → k ≠ p → nth us k ≠ .none) ∧ Alt (ltK key) (us.set p (nth ws odd)) st (nth ws st) W) := by
  obtain ⟨W', qs, e, hWF, hstop⟩ := whole_spec hk hst
  rw [hW] at e
  cases e
  obtain ⟨z, hz, hzl, hmax⟩ := Rc.leaf (lt := ltK key) hst
  have S := Rc.start (lt := ltK key) hst
  have nn : ∀ k, k < ws.length → nth ws k ≠ .none := fun k h e => hk _ (nth_mem h) (by rw [e, hN])
  have hX := hk _ (nth_mem hst)
  have hXn : nth ws st ≠ .none := nn st hst
  have lt1 : ∀ v, ltK key .none v = none := fun v => by simp [ltK, hN]
  have lt2 : ∀ v, ltK key v .none = none := fun v => by unfold ltK; cases key v <;> simp [hN]
  have o1 : ∀ k, nth (ws.set odd .none) k = if k = odd then .none else nth ws k := fun k => nth_set hodd
  have o2 : ∀ k, k ≠ odd → nth (ws.set odd .none) k = nth ws k := fun k h => by rw [o1, if_neg h]
  have hlen : (ws.set odd Value.none).length = ws.length := List.length_set ..
  have hD0 : Sh (ltK key) ws st (nth (ws.set odd .none)) (ws.set odd .none) st := ⟨hlen, fun k _ => sh_start.symm⟩
  -- the children of r are compared as in ws where odd is none of them
  have sm : ∀ r, (2 * r + 2 < ws.length → 2 * r + 1 ≠ odd ∧ 2 * r + 2 ≠ odd) → Same (ltK key) ws (nth (ws.set odd .none)) r := fun r h h2 => by
    obtain ⟨n1, n2⟩ := h h2
    rw [o2 _ n1, o2 _ n2]
    exact same_self hk r h2
  by_cases hos : odd = st
  · -- None lies at the beginning
    subst hos
    have smr : ∀ r, Rc (ltK key) ws odd r → Same (ltK key) ws (nth (ws.set odd .none)) r := fun r hr => sm r fun _ => by have := hr.ge; omega
    by_cases h1 : 2 * odd + 1 < ws.length
    · right
      obtain ⟨us, e, hS⟩ := su_end hD0.dn S h1 hz hzl (hmax odd S) (fun r hr _ _ => smr r hr)
      have hzo : odd < z := by
        rcases hz.st_le with h | h
        · subst h; omega
        · exact h
      have hzb := hz.inb
      have hF := hS.fin (X := .none) hzb
      have hE : siftup (ltK key) (ws.set odd .none) odd = .error (us.set z .none) := by
        have h0 : nth (ws.set odd Value.none) odd = .none := by rw [o1, if_pos rfl]
        have h2 : nth (us.set z Value.none) z = .none := by rw [hF.2 z hzb, if_pos rfl]
        rw [siftup, e, h0]
        show siftdown (ltK key) (us.set z Value.none) odd z = _
        rw [siftdown, h2, sdLoop, if_pos hzo, lt1]
      have hv : ∀ k, k < ws.length → k ≠ z → nth (us.set z Value.none) k = sh (ltK key) ws odd (nth ws) z k := by
        intro k hkb hkz
        rw [hF.2 k hkb, if_neg hkz]
        by_cases h : Rc (ltK key) ws odd k ∧ k < z
        · have := h.1.ge
          have := nx_gt (lt := ltK key) (ws := ws) k
          rw [sh_up h.1 h.2, sh_up h.1 h.2, o2 _ (by omega)]
        · have hko : k ≠ odd := fun q => h (by subst q; exact ⟨S, hzo⟩)
          unfold sh; rw [if_neg h, if_neg h, o2 _ hko]
      refine ⟨us.set z .none, z, hE, .inr ⟨rfl, h1⟩, hF.1, hzb, by rw [hF.2 z hzb, if_pos rfl], fun k hkb hkz => ?_, ?_⟩
      · rw [hv k hkb hkz]
        unfold sh; split
        · rename_i h; exact nn _ (nx_lt (h.1.chain hz h.2).2)
        · exact nn k hkb
      · refine alt_fin hk hst nd hWF hstop hz hmax (by omega) ⟨by rw [List.length_set]; exact hF.1, fun k hkb => ?_⟩
        rw [nth_set (by rw [hF.1]; exact hzb)]
        by_cases hkz : k = z
        · rw [if_pos hkz, if_pos hkz]
        · rw [if_neg hkz, if_neg hkz, hv k hkb hkz]
    · left
      have hsu : ∀ vs : List Value, vs.length = ws.length → siftup (ltK key) vs odd = .ok vs := by
        intro vs hl
        have h2 : ∀ us : List Value, us.length = ws.length → us.set odd (nth us odd) = us := fun us hu => ext_nth (by simp) fun k _ => by
          rw [nth_set (by omega)]; split
          · rename_i h; rw [h]
          · rfl
        rw [siftup, suLoop, if_neg (by omega)]
        show siftdown (ltK key) (vs.set odd (nth vs odd)) odd odd = _
        rw [h2 vs hl, siftdown, sdLoop, if_neg (Nat.lt_irrefl _)]
        show Except.ok (vs.set odd (nth vs odd)) = _
        rw [h2 vs hl]
      have hWw : W = ws := by have := hsu ws rfl; rw [hW] at this; exact Except.ok.inj this
      refine ⟨_, odd, hsu _ hlen, fun h => ?_, hlen, hodd, by rw [o1, if_pos rfl], fun k hkb hko => by rw [o2 k hko]; exact nn k hkb, ?_⟩
      · rcases h with ⟨h, _⟩ | ⟨_, h⟩
        · exact h rfl
        · exact h1 h
      · rw [hWw]
        refine ext_nth (by simp) fun k hkb => ?_
        rw [nth_set (by rw [hlen]; exact hodd)]
        split
        · rename_i h; rw [h]
        · rename_i h; rw [o2 k h]
  · have h0 : nth (ws.set odd Value.none) st = nth ws st := o2 st (fun h => hos h.symm)
    by_cases hq : Rc (ltK key) ws st ((odd - 1) / 2)
    · right
      have hqg := hq.ge
      have hqb := hq.inb
      have hodd0 : 0 < odd := by
        rcases Nat.eq_zero_or_pos odd with h | h
        · subst h; exfalso; simp at hqg; omega
        · exact h
      have hbrk : (odd ≠ st ∧ Rc (ltK key) ws st ((odd - 1) / 2)) ∨ (odd = st ∧ 2 * st + 1 < ws.length) := .inl ⟨hos, hq⟩
      generalize hq0 : (odd - 1) / 2 = q0 at hq hqg hqb hbrk
      have hch : odd = 2 * q0 + 1 ∨ odd = 2 * q0 + 2 := by omega
      by_cases h2 : 2 * q0 + 2 < ws.length
      · -- a comparison of the two children breaks off
        obtain ⟨us, e, hS⟩ := su_to hD0 S hq hqg (fun r hr _ hrq => sm r fun _ => by omega)
        have hE : siftup (ltK key) (ws.set odd .none) st = .error us := by
          have c1 : nth us (2 * q0 + 1) = nth (ws.set odd .none) (2 * q0 + 1) := by rw [hS.2 _ (by omega), sh_ge (by omega)]
          have c2 : nth us (2 * q0 + 2) = nth (ws.set odd .none) (2 * q0 + 2) := by rw [hS.2 _ h2, sh_ge (by omega)]
          have hno : ltK key (nth us (2 * q0 + 1)) (nth us (2 * q0 + 2)) = none := by
            rw [c1, c2, o1, o1]
            rcases hch with h | h
            · rw [if_pos h.symm, lt1]
            · rw [if_pos (show 2 * q0 + 2 = odd from h.symm), lt2]
          rw [siftup, e, suLoop, if_pos (by rw [hS.1]; omega), if_pos (by rw [hS.1]; exact h2), hno]
        have hv : ∀ k, k < ws.length → k ≠ odd → nth us k = sh (ltK key) ws st (nth ws) q0 k := by
          intro k hkb hko
          rw [hS.2 k hkb]
          by_cases h : Rc (ltK key) ws st k ∧ k < q0
          · have := (h.1.chain hq h.2).1
            rw [sh_up h.1 h.2, sh_up h.1 h.2, o2 _ (by omega)]
          · unfold sh; rw [if_neg h, if_neg h, o2 _ hko]
        have hodds : nth us odd = .none := by rw [hS.2 odd hodd, sh_ge (by omega), o1, if_pos rfl]
        have hR : Sh (ltK key) ws st (nth ws) (us.set odd (nth ws odd)) q0 := by
          refine ⟨by rw [List.length_set]; exact hS.1, fun k hkb => ?_⟩
          rw [nth_set (by rw [hS.1]; exact hodd)]
          split
          · rename_i h; rw [h, sh_ge (by omega)]
          · rename_i h; exact hv k hkb h
        refine ⟨us, odd, hE, hbrk, hS.1, hodd, hodds, fun k hkb hko => ?_, ?_⟩
        · rw [hv k hkb hko]
          unfold sh; split
          · rename_i h; exact nn _ (nx_lt (h.1.chain hq h.2).2)
          · exact nn k hkb
        · by_cases hqs : q0 = st
          · have hrow : us.set odd (nth ws odd) = ws := ext_nth hR.1 fun k hkb => by rw [hR.2 k (hR.1 ▸ hkb), hqs, sh_start]
            rw [hrow]
            exact .inr (.inl ⟨fun k k1 k2 h => by have := nd _ _ k2 (by omega) h; omega, rfl, hW⟩)
          · generalize us.set odd (nth ws odd) = row at hR
            obtain ⟨hp, hp1, hp2, hp3⟩ := hq.prev hqs
            have h1 : 2 * q0 + 1 < ws.length := by omega
            have hqz : q0 ≤ z := hmax q0 hq
            -- the way's rest, with X at q0
            have hF0 := hR.fin (X := nth ws st) hqb
            obtain ⟨us2, e2, hS2⟩ := su_end hF0.dn hq h1 hz hzl hqz (fun r _ _ _ => same_self hk r)
            obtain ⟨row2, q3, f1, f2, f3, f4, f5, f6, f7⟩ := sd_fin (X := nth ws st) hq (hS2.fin hz.inb) hz hqz (fun r h1 _ _ => tot_self hk hX h1.inb)
            have hsu2 : siftup (ltK key) (row.set q0 (nth ws st)) q0 = .ok row2 := by
              have : nth (row.set q0 (nth ws st)) q0 = nth ws st := by rw [hF0.2 q0 hqb, if_pos rfl]
              rw [siftup, e2, this]; exact f1
            refine .inl ⟨q0, row2, by omega, by rw [hR.1]; exact hqb, ?_, fun k k1 k2 h => ?_, hsu2, ?_⟩
            · rw [hR.2 q0 hqb, sh_ge (Nat.le_refl _), hR.2 _ (by omega), sh_up hp hp2, hp1]
            · have kb : k < ws.length := by omega
              rw [hR.2 k kb, hR.2 _ (by omega)] at h
              by_cases hrk : Rc (ltK key) ws st k
              · obtain ⟨g1, g2, g3, g4⟩ := hrk.prev (by omega)
                rw [sh_up hrk k2, sh_up g1 (by omega), g2] at h
                have := nd _ _ (nx_lt (hrk.chain hq k2).2) kb h
                have := nx_gt (lt := ltK key) (ws := ws) k
                omega
              · rw [sh_off hrk] at h
                by_cases hrp : Rc (ltK key) ws st ((k - 1) / 2)
                · rw [sh_up hrp (by omega)] at h
                  have h3 := nd _ _ kb (nx_lt (hrp.chain hq (by omega)).2) h
                  exact hrk (h3 ▸ hrp.next (hrp.chain hq (by omega)).2)
                · rw [sh_off hrp] at h
                  have := nd _ _ kb (by omega) h
                  omega
            · by_cases h3 : q3 = q0
              · subst h3
                obtain ⟨us4, q4, k1, k2, k3, k4, k5, k6, k7⟩ := sd_fin (X := nth ws st) S f2 hq hqg (fun r h1 _ _ => tot_self hk hX h1.inb)
                have : q4 = qs := Stop.uniq ⟨k3, k6, fun r h1 h2 => by
                  rcases Nat.lt_or_ge q3 r with h' | h'
                  · exact f7 r h1 h' (hmax r h1)
                  · exact k7 r h1 h2 h'⟩ hstop
                subst this
                rw [k1, Fin'.eq k2 hWF]
              · have hgt : q0 < q3 := by omega
                have : q3 = qs := Stop.uniq ⟨f3, .inr (f6.resolve_left h3), fun r h1 h2 => f7 r h1 h2 (hmax r h1)⟩ hstop
                subst this
                have hY : nth row2 q0 = nth ws (nx (ltK key) ws q0) := by rw [f2.2 q0 hqb, if_neg (by omega), sh_up hq hgt]
                have hP : nth row2 ((q0 - 1) / 2) = nth ws q0 := by rw [f2.2 _ (by omega), if_neg (by omega), sh_up hp (by omega), hp1]
                have hcmp := hord (nx (ltK key) ws q0) (by have := nx_gt (lt := ltK key) (ws := ws) q0; omega) (nx_lt h1) (by rw [nx_par]; exact hqs) (by have := nx_gt (lt := ltK key) (ws := ws) q0; omega)
                rw [nx_par] at hcmp
                rw [siftdown, hY, sdLoop, if_pos (by omega), hP, hcmp]
                show Except.ok (row2.set q0 (nth ws (nx (ltK key) ws q0))) = _
                rw [← hY, Fin'.eq f2 hWF]
                congr 1
                exact ext_nth (by simp) fun k _ => by
                  rw [nth_set (by rw [hWF.1]; exact hqb)]; split
                  · rename_i h; rw [h]
                  · rfl
      · -- the one child moves up, and the first comparison on the way back breaks off
        have ho1 : odd = 2 * q0 + 1 := by omega
        have hnx : nx (ltK key) ws q0 = odd := by unfold nx; rw [if_neg (fun h => h2 h.1), ho1]
        have hro : Rc (ltK key) ws st odd := hnx ▸ hq.next (by omega)
        have hzo : z = odd := by
          have h3 := hmax odd hro
          rcases Nat.lt_or_ge odd z with h | h
          · have := (hro.chain hz h).2; omega
          · omega
        subst hzo
        have h1 : 2 * st + 1 < ws.length := by omega
        obtain ⟨us, e, hS⟩ := su_end hD0.dn S h1 hz hzl (hmax st S) (fun r hr _ _ => sm r fun h => by omega)
        have hF := hS.fin (X := nth ws st) hodd
        have hq0v : nth (us.set z (nth ws st)) q0 = .none := by
          rw [hF.2 q0 hqb, if_neg (by omega), sh_up hq (by omega), hnx, o1, if_pos rfl]
        have hE : siftup (ltK key) (ws.set z .none) st = .error (us.set z (nth ws st)) := by
          have h3 : nth (us.set z (nth ws st)) z = nth ws st := by rw [hF.2 z hodd, if_pos rfl]
          rw [siftup, e, h0]
          show siftdown (ltK key) (us.set z (nth ws st)) st z = _
          rw [siftdown, h3, sdLoop, if_pos (by omega), hq0, hq0v, lt2]
        have hv : ∀ k, k < ws.length → k ≠ q0 → k ≠ z → nth (us.set z (nth ws st)) k = sh (ltK key) ws st (nth ws) z k := by
          intro k hkb hkq hkz
          rw [hF.2 k hkb, if_neg hkz]
          by_cases h : Rc (ltK key) ws st k ∧ k < z
          · have hne : nx (ltK key) ws k ≠ z := fun h3 => hkq (by
              have a := nx_par (lt := ltK key) (ws := ws) k
              rw [h3, hq0] at a; exact a.symm)
            rw [sh_up h.1 h.2, sh_up h.1 h.2, o2 _ hne]
          · unfold sh; rw [if_neg h, if_neg h, o2 _ hkz]
        refine ⟨us.set z (nth ws st), q0, hE, hbrk, hF.1, hqb, hq0v, fun k hkb hkq => ?_, ?_⟩
        · by_cases hkz : k = z
          · rw [hF.2 k hkb, if_pos hkz]; exact hXn
          · rw [hv k hkb hkq hkz]
            unfold sh; split
            · rename_i h; exact nn _ (nx_lt (h.1.chain hz h.2).2)
            · exact nn k hkb
        · refine alt_fin hk hst nd hWF hstop hz hmax hos ⟨by rw [List.length_set]; exact hF.1, fun k hkb => ?_⟩
          rw [nth_set (by rw [hF.1]; exact hqb)]
          by_cases hkq : k = q0
          · rw [if_pos hkq, hkq, if_neg (by omega), sh_up hq (by omega), hnx]
          · rw [if_neg hkq]
            by_cases hkz : k = z
            · rw [if_pos hkz, hF.2 k hkb, if_pos hkz]
            · rw [if_neg hkz, hv k hkb hkq hkz]
    · -- the way does not come by
      left
      have hno : ¬ Rc (ltK key) ws st odd := fun h => hq (h.prev hos).1
      have smr : ∀ r, Rc (ltK key) ws st r → Same (ltK key) ws (nth (ws.set odd .none)) r := fun r hr => sm r fun _ => by
        constructor
        · intro h; exact hq (by rw [show (odd - 1) / 2 = r by omega]; exact hr)
        · intro h; exact hq (by rw [show (odd - 1) / 2 = r by omega]; exact hr)
      have orc : ∀ r, Rc (ltK key) ws st r → nth (ws.set odd .none) r = nth ws r := fun r hr => o2 r fun h => hno (h ▸ hr)
      have hu : ∃ us, suLoop (ltK key) (ws.set odd .none) st = .ok (us, z) ∧ Sh (ltK key) ws st (nth (ws.set odd .none)) us z := by
        by_cases h1 : 2 * st + 1 < ws.length
        · exact su_end hD0.dn S h1 hz hzl (hmax st S) (fun r hr _ _ => smr r hr)
        · have : z = st := by
            rcases hz.st_le with h | h
            · exact h
            · exact absurd (S.chain hz h).2 h1
          subst this
          exact ⟨_, by rw [suLoop, if_neg (by rw [hlen]; exact h1)], hD0⟩
      obtain ⟨us, e, hS⟩ := hu
      obtain ⟨us', q', f1, f2, f3, f4, f5, f6, f7⟩ := sd_fin (X := nth ws st) S (hS.fin hz.inb) hz (hmax st S) (fun r h1 _ _ => by rw [orc r h1]; exact tot_self hk hX h1.inb)
      have : q' = qs := Stop.uniq ⟨f3, by rw [orc q' f3] at f6; exact f6, fun r h1 h2 => by have := f7 r h1 h2 (hmax r h1); rw [orc r h1] at this; exact this⟩ hstop
      subst this
      have hE : siftup (ltK key) (ws.set odd .none) st = .ok us' := by rw [siftup, e, h0]; exact f1
      have hoq : odd ≠ q' := fun h => hno (h ▸ f3)
      have hv : ∀ k, k < ws.length → k ≠ odd → nth us' k = nth W k := by
        intro k hkb hko
        rw [f2.2 k hkb, hWF.2 k hkb]
        by_cases hkq : k = q'
        · rw [if_pos hkq, if_pos hkq]
        · rw [if_neg hkq, if_neg hkq]
          by_cases h : Rc (ltK key) ws st k ∧ k < q'
          · rw [sh_up h.1 h.2, sh_up h.1 h.2, orc _ (h.1.next (h.1.chain f3 h.2).2)]
          · unfold sh; rw [if_neg h, if_neg h, o2 _ hko]
      refine ⟨us', odd, hE, fun h => ?_, f2.1, hodd, by rw [f2.2 odd hodd, if_neg hoq, sh_off hno, o1, if_pos rfl], fun k hkb hko => ?_, ?_⟩
      · rcases h with ⟨_, h⟩ | ⟨h, _⟩
        · exact hq h
        · exact hos h
      · rw [hv k hkb hko, hWF.2 k hkb]
        by_cases hkq : k = q'
        · rw [if_pos hkq]; exact hXn
        · rw [if_neg hkq]
          unfold sh; split
          · rename_i h; exact nn _ (nx_lt (h.1.chain f3 h.2).2)
          · exact nn k hkb
      · refine ext_nth (by rw [List.length_set, f2.1, hWF.1]) fun k hkb => ?_
        rw [List.length_set, f2.1] at hkb
        rw [nth_set (by rw [f2.1]; exact hodd)]
        split
        · rename_i h
          rw [h, hWF.2 odd hodd, if_neg hoq, sh_off hno]
        · rename_i h; exact hv k hkb h
end
end Mine
end PartP2
section PartP3
open PySem
set_option maxHeartbeats 1000000
namespace Mine
/-! heaps -/
def Hp (key : Value → Option Int) (p : Nat) (vs : List Value) : Prop := ∀ k, 0 < k → k < vs.length → p ≤ (k - 1) / 2 → ltK key (nth vs k) (nth vs ((k - 1) / 2)) = some false
def Inj (vs : List Value) : Prop := ∀ i j, i < vs.length → j < vs.length → nth vs i = nth vs j → i = j

theorem lt_ff {key : Value → Option Int} {u v w : Value} (h1 : ltK key u v = some false) (h2 : ltK key v w = some false) : ltK key u w = some false := by
  unfold ltK at *
  cases e1 : key u <;> cases e2 : key v <;> cases e3 : key w <;> simp_all
  omega
theorem lt_tf {key : Value → Option Int} {u v : Value} (h1 : ltK key u v = some true) : ltK key v u = some false := by
  unfold ltK at *
  cases e1 : key u <;> cases e2 : key v <;> simp_all
  omega
theorem lt_self {key : Value → Option Int} {u : Value} (h : key u ≠ none) : ltK key u u = some false := by
  unfold ltK
  cases e1 : key u
  · exact absurd e1 h
  · simp
/-- the child that is taken is the least -/
theorem nx_min {key : Value → Option Int} {ws : List Value} (hk : AllK key ws) {r k : Nat} (hkb : k < ws.length) (hr : (k - 1) / 2 = r) (h0 : 0 < k) : ltK key (nth ws k) (nth ws (nx (ltK key) ws r)) = some false := by
  by_cases h2 : 2 * r + 2 < ws.length
  · obtain ⟨b, e⟩ := ltK_some (hk _ (nth_mem (vs := ws) (i := 2 * r + 1) (by omega))) (hk _ (nth_mem h2))
    cases b with
    | true =>
      have hn : nx (ltK key) ws r = 2 * r + 1 := by unfold nx; rw [if_neg (fun h => h.2 e)]
      rw [hn]
      rcases (show k = 2 * r + 1 ∨ k = 2 * r + 2 by omega) with h | h
      · rw [h]; exact lt_self (hk _ (nth_mem (by omega)))
      · rw [h]; exact lt_tf e
    | false =>
      have hn : nx (ltK key) ws r = 2 * r + 2 := by unfold nx; rw [if_pos ⟨h2, by rw [e]; simp⟩]
      rw [hn]
      rcases (show k = 2 * r + 1 ∨ k = 2 * r + 2 by omega) with h | h
      · rw [h]; exact e
      · rw [h]; exact lt_self (hk _ (nth_mem h2))
  · have hn : nx (ltK key) ws r = 2 * r + 1 := by unfold nx; rw [if_neg (fun h => h2 h.1)]
    rw [hn, show k = 2 * r + 1 by omega]
    exact lt_self (hk _ (nth_mem (by omega)))

theorem su_heap {key : Value → Option Int} {vs W : List Value} {p : Nat} (hk : AllK key vs) (hp : p < vs.length) (hH : Hp key (p + 1) vs) (hW : siftup (ltK key) vs p = .ok W) : Hp key p W := by
  obtain ⟨W', q, e, hF, hq, hs1, hs2⟩ := whole_spec hk hp
  rw [hW] at e
  cases e
  intro k k0 kb kp
  rw [hF.1] at kb
  have S := Rc.start (lt := ltK key) hp
  have hqb := hq.inb
  generalize hr : (k - 1) / 2 = r at kp
  have hrk : r < k := by omega
  have prevk : Rc (ltK key) vs p k → Rc (ltK key) vs p r ∧ nx (ltK key) vs r = k := fun h => by
    obtain ⟨a, b, _, _⟩ := h.prev (by omega)
    rw [hr] at a b; exact ⟨a, b⟩
  rw [hF.2 k kb, hF.2 r (by omega)]
  by_cases h1 : r = q
  · have hkq : k ≠ q := by omega
    rw [if_pos h1, if_neg hkq, sh_ge (by omega)]
    have hc := hs2 _ (hq.next (by omega)) (nx_gt _)
    have hm := nx_min hk kb (hr.trans h1) k0
    exact lt_ff hm (lt_tf hc)
  · rw [if_neg h1]
    by_cases h2 : Rc (ltK key) vs p r ∧ r < q
    · rw [sh_up h2.1 h2.2]
      by_cases h3 : k = nx (ltK key) vs r
      · by_cases h4 : k = q
        · rw [if_pos h4, ← h3, h4]
          exact hs1.resolve_left (by have := h2.1.ge; omega)
        · have hrk' : Rc (ltK key) vs p k := h3 ▸ h2.1.next (h2.1.chain hq h2.2).2
          have hkq : k < q := by have := (h2.1.chain hq h2.2).1; omega
          rw [if_neg h4, sh_up hrk' hkq, ← h3]
          have hb := (hrk'.chain hq hkq).2
          have := hH (nx (ltK key) vs k) (by have := nx_gt (lt := ltK key) (ws := vs) k; omega) (nx_lt hb) (by rw [nx_par]; omega)
          rw [nx_par] at this
          exact this
      · have hnk : ¬ Rc (ltK key) vs p k := fun h => h3 (prevk h).2.symm
        have h4 : k ≠ q := fun h => hnk (h ▸ hq)
        rw [if_neg h4, sh_off hnk]
        exact nx_min hk kb hr k0
    · have h4 : k ≠ q := fun h => h2 (by
        have := prevk (h ▸ hq)
        exact ⟨this.1, by omega⟩)
      have h5 : ¬ (Rc (ltK key) vs p k ∧ k < q) := fun h => h2 ⟨(prevk h.1).1, by omega⟩
      rw [if_neg h4]
      unfold sh
      rw [if_neg h2, if_neg h5]
      rcases Nat.lt_or_ge p r with h | h
      · have := hH k k0 kb (by omega)
        rw [hr] at this; exact this
      · exfalso
        have hrp : r = p := by omega
        have := hq.ge
        exact h2 ⟨hrp ▸ S, by omega⟩
theorem su_inj {key : Value → Option Int} {vs W : List Value} {p : Nat} (hk : AllK key vs) (hp : p < vs.length) (hI : Inj vs) (hW : siftup (ltK key) vs p = .ok W) : Inj W := by
  obtain ⟨W', q, e, hF, hq, hs1, hs2⟩ := whole_spec hk hp
  rw [hW] at e
  cases e
  intro i j hi hj h
  rw [hF.1] at hi hj
  exact fin_inj hI hF hq rfl hp hi hj h

theorem hfyN_all {key : Value → Option Int} : ∀ (k : Nat) (vs : List Value), k ≤ vs.length → AllK key vs → Hp key k vs → Inj vs →
    (hfyN (ltK key) k vs).length = vs.length ∧ (∀ v ∈ hfyN (ltK key) k vs, v ∈ vs) ∧ Hp key 0 (hfyN (ltK key) k vs) ∧ Inj (hfyN (ltK key) k vs) := by
  intro k
  induction k with
  | zero => intro vs _ _ h i; exact ⟨rfl, fun _ h => h, h, i⟩
  | succ k ih =>
    intro vs hkl hk hh hi
    obtain ⟨t1, t2, t3⟩ := siftup_suT (pos := k) hk (by omega)
    have hk' : AllK key (suT (ltK key) vs k) := fun v hv => hk v (t3 v hv)
    obtain ⟨a, b, c, d⟩ := ih (suT (ltK key) vs k) (by rw [t2]; omega) hk' (su_heap hk (by omega) hh t1) (su_inj hk (by omega) hi t1)
    exact ⟨a.trans t2, fun v hv => t3 v (b v hv), c, d⟩
theorem hfy_all {key : Value → Option Int} {vs : List Value} (hk : AllK key vs) (hi : Inj vs) :
    (hfy (ltK key) vs).length = vs.length ∧ (∀ v ∈ hfy (ltK key) vs, v ∈ vs) ∧ Hp key 0 (hfy (ltK key) vs) ∧ Inj (hfy (ltK key) vs) :=
  hfyN_all _ vs (by omega) hk (fun k k0 kb h => by omega) hi
end Mine
end PartP3
section PartM9
set_option maxHeartbeats 1000000
namespace Mine
/-! a frame and the heap about it, step by step -/
abbrev Ch (X : List Addr) (h h' : Heap) : Prop := ∀ b o, b ∉ X → h.get? b = some o → h'.get? b = some o
theorem Ch.refl {X : List Addr} {h : Heap} : Ch X h h := fun _ _ _ e => e
theorem Ch.trans {X : List Addr} {h h' h'' : Heap} (a : Ch X h h') (b : Ch X h' h'') : Ch X h h'' := fun c o n e => b c o n (a c o n e)
theorem Ch.mono {X Y : List Addr} {h h' : Heap} (a : Ch X h h') (s : ∀ b, b ∈ X → b ∈ Y) : Ch Y h h' := fun c o n e => a c o (fun m => n (s c m)) e
theorem Ch.nil {Y : List Addr} {h h' : Heap} (a : Ch [] h h') : Ch Y h h' := a.mono fun _ m => nomatch m
theorem Ch.push {X : List Addr} {h : Heap} {o : Obj} : Ch X h (h.push o) := fun _ _ _ e => Heap.get?_push_of_some _ e
theorem Ch.one {a : Addr} {h h' : Heap} (s : Heap.SameBut a h h') : Ch [a] h h' := fun b o n e => (s.2 b fun q => n (by rw [q]; exact List.mem_singleton.mpr rfl)).trans e
theorem Ch.isList {X : List Addr} {h h' : Heap} (c : Ch X h h') {a : Addr} {items : Array Value} (n : a ∉ X) (l : h.IsList a items) : h'.IsList a items := l.at fun o e => c a o n e
theorem Ch.plain {X : List Addr} {h h' : Heap} (c : Ch X h h') {a : Addr} {items : Array Value} (n : a ∉ X) (l : h.PlainList a items) : h'.PlainList a items := l.at fun o e => c a o n e
theorem Ch.isCell {X : List Addr} {h h' : Heap} (c : Ch X h h') {a : Addr} {v : Option Value} (n : a ∉ X) (l : h.IsCell a v) : h'.IsCell a v := let ⟨o, e, d⟩ := l; ⟨o, c a o n e, d⟩
theorem not_mem_one {a b : Addr} (h : a ≠ b) : a ∉ [b] := fun m => h (List.mem_singleton.mp m)

def Fm (h₀ : Heap) (L : Addr) (bs : List (Str × Value)) (h : Heap) : Prop := ∃ m, Fr h₀ L h m ∧ Lk m bs
theorem Fm.keep {h₀ h : Heap} {L : Addr} {bs : List (Str × Value)} (f : Fm h₀ L bs h) : ∀ b o, h₀.get? b = some o → h.get? b = some o := by obtain ⟨m, F, _⟩ := f; exact F.keep
theorem Fm.lt {h₀ h : Heap} {L : Addr} {bs : List (Str × Value)} (f : Fm h₀ L bs h) : L < h.objs.size := by obtain ⟨m, F, _⟩ := f; exact F.ns.lt
theorem Fm.ge {h₀ h : Heap} {L : Addr} {bs : List (Str × Value)} (f : Fm h₀ L bs h) : h₀.objs.size ≤ L := by obtain ⟨m, F, _⟩ := f; exact F.above
theorem Fm.sz {h₀ h : Heap} {L : Addr} {bs : List (Str × Value)} (f : Fm h₀ L bs h) : h₀.objs.size ≤ h.objs.size := Nat.le_of_lt (Nat.lt_of_le_of_lt f.ge f.lt)
theorem Fm.ch {h₀ h h' : Heap} {L : Addr} {bs : List (Str × Value)} {X : List Addr} (f : Fm h₀ L bs h) (c : Ch X h h') (n : L ∉ X) (z : ∀ b ∈ X, h₀.get? b = none) : Fm h₀ L bs h' := by
  obtain ⟨m, F, l⟩ := f
  exact ⟨m, ⟨F.ns.at' fun o e => c L o n e, fun b o e => c b o (fun q => by rw [z b q] at e; cases e) (F.keep b o e), F.above⟩, l⟩
theorem Fm.frm {h₀ h : Heap} {L : Addr} {bs : List (Str × Value)} (f : Fm h₀ L bs h) : ∃ o es ep, h.get? L = some o ∧ o.data = .dict es ep := by
  obtain ⟨m, F, _⟩ := f
  obtain ⟨oL, es, ep, hL, hLd, _⟩ := F.ns
  exact ⟨oL, es, ep, hL, hLd⟩
/-- an object of the base is none that is made since -/
theorem base_none {h₀ : Heap} {a : Addr} (h : h₀.objs.size ≤ a) : h₀.get? a = none := Heap.get?_none_of_le h

section
variable {h₀ : Heap} {mg mb : Str → Option Value} {L a : Addr} {bs : List (Str × Value)} {M : Model} {A : Around} {E : Value → Shared → Prop} {s : Shared} {cn : Str} {cs : Scope} {cd : Value} {cl : List (Str × Addr)}
theorem Fm.ld {x : Str} {pos : Pos} {v : Value} {Q : Value → Shared → Prop} (f : Fm h₀ L bs s.heap) (hv : bs.lookup x = some v) (h : Q v s)
    (hk : cs.kind = .function := by rfl) (hx : (envX cn cs L a cd cl).kindOf x = some .local := by rfl)
    (hd : (x == ("__debug__" : Str)) = false := by decide) : wpAny M A (eval (.Name x pos) (envX cn cs L a cd cl)) Q E s := by
  obtain ⟨m, F, l⟩ := f
  exact nameX_L F (l x v hv) h hk hx hd
theorem Fm.st {x : Str} {v : Value} {Q : Unit → Shared → Prop} (f : Fm h₀ L bs s.heap)
    (h : ∀ s', Go s s' → Fm h₀ L ((x, v) :: bs) s'.heap → Ch [L] s.heap s'.heap → Q () s')
    (hk : cs.kind = .function := by rfl) (hx : (envX cn cs L a cd cl).kindOf x = some .local := by rfl) : wpAny M A (storeName (envX cn cs L a cd cl) x v) Q E s := by
  obtain ⟨m, F, l⟩ := f
  exact wpAny_storeName_local hx F.ns (fun h' hn hs => h _ (Go.mk _ _) ⟨_, F.set hn hs, l.put x v⟩ (Ch.one hs)) (by show (cs.kind == .class || (cs.kind == .module && L != mainGlobals)) = false; rw [hk]; rfl)
theorem ldc {x : Str} {pos : Pos} {c : Addr} {v : Value} {Q : Value → Shared → Prop} (hv : s.heap.IsCell c (some v)) (h : Q v s) (hc : cl.lookup x = some c := by rfl)
    (hk : cs.kind = .function := by rfl) (hx : (envX cn cs L a cd cl).kindOf x = some .cell := by rfl)
    (hd : (x == ("__debug__" : Str)) = false := by decide) : wpAny M A (eval (.Name x pos) (envX cn cs L a cd cl)) Q E s := wpAny_Name (wpAny_loadName_cell hk hx hc hv h) hd
theorem stc {x : Str} {c : Addr} {v₀ : Option Value} {v : Value} {Q : Unit → Shared → Prop} (hv : s.heap.IsCell c v₀) (h : ∀ s', Go s s' → s'.heap.IsCell c (some v) → Ch [c] s.heap s'.heap → Q () s') (hc : cl.lookup x = some c := by rfl)
    (hk : cs.kind = .function := by rfl) (hx : (envX cn cs L a cd cl).kindOf x = some .cell := by rfl) : wpAny M A (storeName (envX cn cs L a cd cl) x v) Q E s :=
  wpAny_storeName_cell hk hx hc hv fun h' hc' hs => h _ ⟨_, _, rfl⟩ hc' (Ch.one hs)
theorem globX {x : Str} {pos : Pos} {v : Value} {Q : Value → Shared → Prop} (G : Gd h₀ mg mb) (k : ∀ b o, h₀.get? b = some o → s.heap.get? b = some o) (hv : mg x = some v) (h : Q v s)
    (hk : cs.kind = .function := by rfl) (hx : (envX cn cs L a cd cl).kindOf x = some .globalImplicit := by rfl)
    (hd : (x == ("__debug__" : Str)) = false := by decide) : wpAny M A (eval (.Name x pos) (envX cn cs L a cd cl)) Q E s :=
  Calls.Name_function_global hk hx (Calls.loadGlobal_global (env := envX cn cs L a cd cl) (G.g.keeps k) hv h) hd
theorem bltX {x : Str} {pos : Pos} {v : Value} {Q : Value → Shared → Prop} (G : Gd h₀ mg mb) (k : ∀ b o, h₀.get? b = some o → s.heap.get? b = some o) (hb : bootBuiltins x = some v) (h : Q v s)
    (hin : x ∈ (["len", "range", "reversed", "abs", "sorted", "set", "list", "sum", "min", "max", "TypeError"] : List Str) := by decide)
    (hk : cs.kind = .function := by rfl) (hx : (envX cn cs L a cd cl).kindOf x = some .globalImplicit := by rfl) (hn : x ≠ "__name__" := by decide)
    (hd : (x == ("__debug__" : Str)) = false := by decide) : wpAny M A (eval (.Name x pos) (envX cn cs L a cd cl)) Q E s :=
  Calls.Name_function_global hk hx (Calls.loadGlobal_builtin (env := envX cn cs L a cd cl) (G.g.keeps k) (G.no x hin) (G.b.keeps k) ((G.bt x hn).trans hb) h) hd
end

section
variable {prog : Program} {w : World} {A : Around} {E : Value → Shared → Prop} {s : Shared}
theorem getAt {value slice : Expr} {H : Addr} {vs : List Value} {k : Int} {u : Tok} {Q : Value → Shared → Prop} (hl : s.heap.IsList H vs.toArray) (h0 : 0 ≤ k) (h1 : k.toNat < vs.length) (hn : vs.length < 2 ^ 62) (h : Q (nth vs k.toNat) s)
    (hs : subscripted slice false (.ref H) (.int k u) = operate [.ref H, .int k u] (getItem (.ref H) (.int k u)) := by with_unfolding_all rfl) (hg : ∀ r, letTemporaryGo value (.ref H) r = pure () := by intro _; with_unfolding_all rfl) :
    wpAny (model prog w) A (subscriptTail value slice (.ref H) (.int k u)) Q E s :=
  item_listL hl h0 (by omega) (by rw [nth, List.getD_eq_getElem?_getD, List.getElem?_eq_getElem h1]; rfl) h hs hg
theorem setAt {H : Addr} {vs : List Value} {k : Int} {t : Tok} {v : Value} {Q : Unit → Shared → Prop} (hl : s.heap.IsList H vs.toArray) (h0 : 0 ≤ k) (h1 : k.toNat < vs.length) (hn : vs.length < 2 ^ 62)
    (h : ∀ s', Go s s' → s'.heap.IsList H (vs.set k.toNat v).toArray → Ch [H] s.heap s'.heap → Q () s') : wpAny (model prog w) A (setItem (.ref H) (.int k t) v) Q E s :=
  wpAny_setItem_list hl h0 (by omega) (by rw [List.size_toArray]; omega) (fun h' hl' hs => h _ ⟨_, _, rfl⟩ (by show h'.IsList H (vs.set k.toNat v).toArray; rw [← List.setIfInBounds_toArray]; exact hl') (Ch.one hs))
/-- the last item -/
theorem getLast {value slice : Expr} {H : Addr} {vs : List Value} {u : Tok} {v : Value} {Q : Value → Shared → Prop} (hl : s.heap.IsList H (vs ++ [v]).toArray) (h : Q v s)
    (hs : subscripted slice false (.ref H) (.int (-1) u) = operate [.ref H, .int (-1) u] (getItem (.ref H) (.int (-1) u)) := by with_unfolding_all rfl) (hg : ∀ r, letTemporaryGo value (.ref H) r = pure () := by intro _; with_unfolding_all rfl) :
    wpAny (model prog w) A (subscriptTail value slice (.ref H) (.int (-1) u)) Q E s :=
  subscriptTail_builtin hl.typeIs slot_list_getitem.lookup (wpAny_getItem_list_neg hl (by decide) (by simp; omega) (by decide) (by
    have : ((-1 : Int) + ((vs ++ [v]).toArray.size : Int)).toNat = vs.length := by simp; omega
    rw [this]; simp) h) hs hg
theorem newL {vs : List Value} {Q : Value → Shared → Prop} (hz : vs.length ≤ sizeLine) (h : ∀ s' D, Go s s' → D = s.heap.objs.size → s'.heap.PlainList D vs.toArray → Ch [] s.heap s'.heap → Q (.ref D) s') : wpAny (model prog w) A (newList vs) Q E s :=
  wpAny_newObj_type (h _ _ ⟨_, _, rfl⟩ rfl ⟨0, Heap.get?_push_size _ rfl⟩ Ch.push) (by show vs.toArray.size ≤ sizeLine; rw [List.size_toArray]; exact hz)
theorem slice_none (items : Array Value) : slicePick items none none none = items := by
  have e : sliceBounds none none none items.size = (((0 : Nat) : Int), (items.size : Int), 1) := by
    simp only [sliceBounds, Option.getD_none, show (1 : Int) > 0 by decide, if_true]; rfl
  unfold slicePick
  rw [e]
  simp only [sliceRange_one, pick_run]
  rw [List.take_of_length_le (by simp)]
  simp
/-- xs[:] -/
theorem copyAll {env : Env} {value : Expr} {p pos : Pos} {Q : Value → Shared → Prop}
    (h : wpAny (model prog w) A (eval value env) (fun o s₁ => ∃ l vs, o = .ref l ∧ s₁.heap.IsList l (List.toArray vs) ∧ vs.length ≤ sizeLine ∧
      ∀ s' D, Go s₁ s' → D = s₁.heap.objs.size + 1 → s'.heap.PlainList D (List.toArray vs) → Ch [] s₁.heap s'.heap → Q (.ref D) s') E s)
    (ht : ∀ o r, letTemporaryGo value o r = pure () := by intro _ _; rfl) :
    wpAny (model prog w) A (eval (.Subscript value (.Slice none none none p) pos) env) Q E s := by
  refine wpAny_Subscript_list_slice (wpAny_mono h (fun o s₁ h₁ => ?_) fun _ _ e => e) ht
  obtain ⟨l, vs, rfl, hl, hz, k⟩ := h₁
  rw [evalPart_none]
  refine wpAny_pure (wpAny_pure ⟨l, _, none, none, rfl, hl, by rw [List.size_toArray]; exact hz, .none, .none, ?_⟩)
  rw [slice_none]
  refine k _ _ ⟨_, _, rfl⟩ rfl ⟨0, ?_⟩ (fun b o _ e => Heap.get?_push_of_some _ (Heap.get?_push_of_some _ e))
  have := Heap.get?_push_size (s₁.heap.push { cls := .type "slice", data := .fields #[.none, .none, .none] }) (o := { cls := .type "list", data := .seq vs.toArray }) rfl
  rw [Heap.size_push] at this
  exact this
/-- 'is' of two items -/
def ItmAt (h : Heap) (v : Value) : Prop := v = .none ∨ ∃ a items, v = .ref a ∧ h.IsList a items
theorem sameV {u v : Value} {R : Bool → Shared → Prop} (hu : ItmAt s.heap u) (hv : ItmAt s.heap v) (h : R (decide (u = v)) s) : wpAny (model prog w) A (isSame u v) R E s := by
  rcases hu with rfl | ⟨a, ia, rfl, la⟩
  · rcases hv with rfl | ⟨b, ib, rfl, lb⟩
    · exact wpAny_isSame_plain rfl (by simpa using h)
    · refine wpAny_isSame_plain rfl ?_
      rw [show (Value.none == Value.ref b) = false from rfl]; simpa using h
  · rcases hv with rfl | ⟨b, ib, rfl, lb⟩
    · refine wpAny_isSame_plain rfl ?_
      rw [show (Value.ref a == Value.none) = false from rfl]; simpa using h
    · by_cases e : a = b
      · subst e; exact wpAny_isSame_ref_self (by simpa using h)
      · obtain ⟨oa, ha, hc, _⟩ := la
        obtain ⟨ob, hb, _⟩ := lb
        exact wpAny_isSame_ref_other e ha hb (by rw [hc]; decide) (by simpa [e] using h)
theorem isV {u v : Value} {Q : Value → Shared → Prop} (hu : ItmAt s.heap u) (hv : ItmAt s.heap v) (h : Q (.bool (decide (u = v))) s) : wpAny (model prog w) A (compareOp .Is u v) Q E s := by
  show wpAny _ A (do return .bool (← isSame u v)) Q E s
  exact wpAny_bind (sameV hu hv (wpAny_pure h))
theorem isNotV {u v : Value} {Q : Value → Shared → Prop} (hu : ItmAt s.heap u) (hv : ItmAt s.heap v) (h : Q (.bool (!decide (u = v))) s) : wpAny (model prog w) A (compareOp .IsNot u v) Q E s := by
  show wpAny _ A (do return .bool (!(← isSame u v))) Q E s
  exact wpAny_bind (sameV hu hv (wpAny_pure h))
/-- a list of one int, its key -/
def Kd (h : Heap) (key : Value → Option Int) (v : Value) : Prop := ∃ a x t, v = .ref a ∧ key v = some x ∧ h.IsList a #[.int x t]
theorem Kd.key {h : Heap} {key : Value → Option Int} {v : Value} (k : Kd h key v) : key v ≠ none := by obtain ⟨a, x, t, _, e, _⟩ := k; rw [e]; simp
theorem Kd.ne {h : Heap} {key : Value → Option Int} {v : Value} (k : Kd h key v) {b : Addr} (hb : h.objs.size ≤ b) : v ≠ .ref b := by
  obtain ⟨a, x, t, rfl, _, l⟩ := k
  intro e
  cases e
  exact Nat.lt_irrefl _ (Nat.lt_of_lt_of_le (sizeOf_list l) hb)
theorem Kd.ch {X : List Addr} {h h' : Heap} {key : Value → Option Int} {v : Value} (k : Kd h key v) (c : Ch X h h') (n : ∀ b ∈ X, v ≠ .ref b) : Kd h' key v := by
  obtain ⟨a, x, t, rfl, e, l⟩ := k
  exact ⟨a, x, t, rfl, e, c.isList (fun m => n a m rfl) l⟩
theorem Kd.itm {h : Heap} {key : Value → Option Int} {v : Value} {H : Addr} (k : Kd h key v) (n : v ≠ .ref H) : Itm h H key v := by
  obtain ⟨a, x, t, rfl, e, l⟩ := k
  exact .inr ⟨a, x, t, rfl, e, fun q => n (by rw [q]), l⟩
theorem Kd.at {h : Heap} {key : Value → Option Int} {v : Value} (k : Kd h key v) : ItmAt h v := by
  obtain ⟨a, x, t, rfl, e, l⟩ := k
  exact .inr ⟨a, _, rfl, l⟩
theorem cmpK {key : Value → Option Int} {u v : Value} {Q : Value → Shared → Prop} (hu : Kd s.heap key u) (hv : Kd s.heap key v) (hc : A.units < cLine) (h : ∀ r, ltK key u v = some r → Q (.bool r) s) :
    wpAny (model prog w) A (compareOp .Lt u v) Q E s := by
  obtain ⟨a, x, t, rfl, e, l⟩ := hu
  obtain ⟨b, y, t', rfl, e', l'⟩ := hv
  exact lt_cells l l' hc (h _ (by simp [ltK, e, e']))
end
end Mine
end PartM9
section PartM10
set_option maxHeartbeats 400000
namespace Mine
/-! comprehensions '[k for k in range(a, b) if test]' -/
section
variable {M : Model} {A : Around} {E : Value → Shared → Prop} {s : Shared} {env : Env} {m : Str → Option Value}
theorem ldE {x : Str} {pos : Pos} {v : Value} {Q : Value → Shared → Prop} (hn : s.heap.Ns env.locals m) (hv : m x = some v) (h : Q v s) (hk : env.scope.kind = .function := by rfl) (hl : env.kindOf x = some .local := by rfl)
    (hd : (x == ("__debug__" : Str)) = false := by decide) : wpAny M A (eval (.Name x pos) env) Q E s := wpAny_Name (wpAny_loadName_local hk hl hn hv h) hd
theorem ldcE {x : Str} {pos : Pos} {c : Addr} {v : Value} {Q : Value → Shared → Prop} (hv : s.heap.IsCell c (some v)) (h : Q v s) (hc : env.cells.lookup x = some c := by rfl) (hk : env.scope.kind = .function := by rfl) (hl : env.kindOf x = some .cell := by rfl)
    (hd : (x == ("__debug__" : Str)) = false := by decide) : wpAny M A (eval (.Name x pos) env) Q E s := wpAny_Name (wpAny_loadName_cell hk hl hc hv h) hd
end
theorem Keeps.mk' {s : Shared} (tk : Nat) : Keeps s { s with toks := tk } := ⟨_, _, rfl, fun _ _ e => e⟩

/-- an item of a list that nothing else holds -/
theorem getTmp {prog : Program} {w : World} {A : Around} {E : Value → Shared → Prop} {s : Shared} {value slice : Expr} {H : Addr} {vs : List Value} {k : Int} {u : Tok} {Q : Value → Shared → Prop} (hl : s.heap.IsList H vs.toArray) (h0 : 0 ≤ k) (h1 : k.toNat < vs.length) (hn : vs.length < 2 ^ 62) (h : Q (nth vs k.toNat) s)
    (hs : subscripted slice false (.ref H) (.int k u) = operate [.ref H, .int k u] (getItem (.ref H) (.int k u)) := by with_unfolding_all rfl) :
    wpAny (model prog w) A (subscriptTail value slice (.ref H) (.int k u)) Q E s :=
  tail_any hl.typeIs slot_list_getitem.lookup (wpAny_getItem_list hl h0 (by omega) (by rw [nth, List.getD_eq_getElem?_getD]; simp [List.getElem?_eq_getElem h1]) h) hs
theorem IntsAre.head {n : Int} {ns : List Int} {ys : List Value} (h : IntsAre ys (n :: ns)) : ∃ t, nth ys 0 = .int n t ∧ 0 < ys.length := by
  cases h with
  | cons i t r => exact ⟨t, rfl, by simp⟩

/-- the places that a test lets through -/
def filt (a n : Nat) (pz : Nat → Bool) : List Nat := ((List.range n).map (a + ·)).filter pz
theorem filt_nil {a n : Nat} {pz : Nat → Bool} (h : ∀ k, a ≤ k → k < a + n → pz k = false) : filt a n pz = [] := by
  unfold filt
  rw [List.filter_eq_nil_iff]
  intro k hk
  obtain ⟨i, hi, rfl⟩ := List.mem_map.mp hk
  rw [h _ (by omega) (by have := List.mem_range.mp hi; omega)]
  simp
theorem filt_split (a i j : Nat) (pz : Nat → Bool) : filt a (i + j) pz = filt a i pz ++ filt (a + i) j pz := by
  unfold filt
  rw [List.range_add, List.map_append, List.filter_append, List.map_map]
  congr 2
  apply List.map_congr_left
  intro k _
  simp only [Function.comp]; omega
theorem filt_first {a n i : Nat} {pz : Nat → Bool} (hi : i < n) (h1 : ∀ k, a ≤ k → k < a + i → pz k = false) (h2 : pz (a + i) = true) : filt a n pz = (a + i) :: filt (a + i + 1) (n - i - 1) pz := by
  rw [show n = i + (1 + (n - i - 1)) by omega, filt_split, filt_nil h1, filt_split]
  rw [show i + (1 + (n - i - 1)) - i - 1 = n - i - 1 by omega]
  have : filt (a + i) 1 pz = [a + i] := by unfold filt; simp [h2]
  rw [this]; rfl
theorem filt_one {a n i : Nat} {pz : Nat → Bool} (hi : i < n) (h1 : ∀ k, a ≤ k → k < a + n → k ≠ a + i → pz k = false) (h2 : pz (a + i) = true) : filt a n pz = [a + i] := by
  rw [filt_first hi (fun k k1 k2 => h1 k k1 (by omega) (by omega)) h2, filt_nil fun k k1 k2 => h1 k (by omega) (by omega) (by omega)]
theorem filt_length_le (a n : Nat) (pz : Nat → Bool) : (filt a n pz).length ≤ n := by
  unfold filt
  exact Nat.le_trans (List.length_filter_le _ _) (by simp)

def testAt (pz : Nat → Bool) (v : Value) : Bool := match v with | .int k _ => pz k.toNat | _ => false
theorem paired_eq : ∀ {l r : List Value}, Paired (fun v y => y = v) l r → r = l
  | _, _, .nil => rfl
  | _, _, .cons h t => by rw [h, paired_eq t]
theorem ints_filter {pz : Nat → Bool} : ∀ (n a : Nat) (vs : List Value), vs.length = n → (∀ (j : Nat) v, vs[j]? = some v → ∃ t, v = .int (((a + j : Nat)) : Int) t) → IntsAre (vs.filter (testAt pz)) ((filt a n pz).map fun k => ((k : Nat) : Int))
  | 0, a, vs, hl, _ => by
    have : vs = [] := List.eq_nil_of_length_eq_zero hl
    subst this; exact .nil
  | n + 1, a, vs, hl, h => by
    match vs, hl with
    | v :: r, hl =>
      obtain ⟨t, rfl⟩ := h 0 v rfl
      have ih := ints_filter (pz := pz) n (a + 1) r (by simpa using hl) (fun j v hj => by
        obtain ⟨t, e⟩ := h (j + 1) v (by simpa using hj)
        exact ⟨t, by rw [e]; congr 2; omega⟩)
      have hs := filt_split a 1 n pz
      rw [Nat.add_comm 1 n] at hs
      rw [hs]
      have ha : ((a + 0 : Nat) : Int).toNat = a := by omega
      cases hp : pz a with
      | true =>
        have h1 : filt a 1 pz = [a] := by unfold filt; simp [hp]
        have h2 : testAt pz (Value.int ((a + 0 : Nat) : Int) t) = true := by show pz _ = true; rw [ha]; exact hp
        rw [h1, List.filter_cons_of_pos h2]
        exact .cons _ _ ih
      | false =>
        have h1 : filt a 1 pz = [] := by unfold filt; simp [hp]
        have h2 : ¬ testAt pz (Value.int ((a + 0 : Nat) : Int) t) = true := by show ¬ pz _ = true; rw [ha, hp]; simp
        rw [h1, List.filter_cons_of_neg h2]
        exact ih

section
variable {prog : Program} {w : World} {A : Around} {E : Value → Shared → Prop} {env : Env}

/-- the test, quiet -/
def TestOk (prog : Program) (w : World) (A : Around) (env : Env) (scope : Scope) (cl : List (Str × Addr)) (x : Str) (c : Expr) (a n : Nat) (pz : Nat → Bool) (h : Heap) : Prop :=
  ∀ C k t s₃ m₃ E', h.objs.size ≤ C → a ≤ k → k < a + n → s₃.heap.Ns C m₃ → m₃ x = some (.int ((k : Nat) : Int) t) → (∀ b o, h.get? b = some o → s₃.heap.get? b = some o) →
    wpAny (model prog w) A (isTrue c (compEnvC scope cl C env) (eval c (compEnvC scope cl C env))) (fun ok s₄ => ok = pz k ∧ Keeps s₃ s₄) E' s₃

theorem quiet_range {elt : Expr} {x : Str} {pe : Pos} {c : Expr} {scope : Scope} {cl : List (Str × Addr)} {a n : Nat} {pz : Nat → Bool} {s₁ s₂ : Shared} {wr : List Addr} (he : elt = .Name x pe) (hkind : scope.kind = .function) (hx : scope.names.lookup x = some .local) (hd : (x == ("__debug__" : Str)) = false)
    (hwr : ∀ b ∈ wr, s₁.heap.objs.size ≤ b) (hk : ∀ b o, s₁.heap.get? b = some o → s₂.heap.get? b = some o) (hsz : s₁.heap.objs.size ≤ s₂.heap.objs.size) (T : TestOk prog w A env scope cl x c a n pz s₁.heap) :
    QuietOnC prog w A env scope cl x [c] elt wr (fun i v => i < n ∧ ∃ t, v = .int (((a + i : Nat)) : Int) t) (testAt pz) (fun v y => y = v) s₂ where
  tests := by
    rintro C i v s₃ m₃ E' hC ⟨hi, t, rfl⟩ hn hm hkp _
    refine wpAny_tests_one (wpAny_mono (T C (a + i) t s₃ m₃ E' (Nat.le_trans hsz hC) (by omega) (by omega) hn hm fun b o e => hkp b o (fun m => ?_) (hk b o e)) (fun ok s₄ q => ⟨?_, q.2⟩) fun _ _ e => e)
    · exact Nat.lt_irrefl _ (Nat.lt_of_lt_of_le (Heap.lt_size e) (hwr b m))
    · rw [q.1]
      show pz (a + i) = pz (((a + i : Nat) : Int).toNat)
      rw [Int.toNat_natCast]
  elt := by
    rintro C i v s₃ m₃ E' hC ⟨hi, t, rfl⟩ _ hn hm hkp _
    subst he
    exact ldE (env := compEnvC scope cl C env) hn hm ⟨rfl, _, _, rfl, fun _ _ e => e⟩ hkind (lookup_relabel_local hx) hd

theorem walks_range (hh : A.handled = none) (I a n : Nat) : Walks prog w A I [I] [I] n (fun i v => i < n ∧ ∃ t, v = .int (((a + i : Nat)) : Int) t) (fun i h => i ≤ n ∧ IsRangeIter h I ((a : Int) + (i : Nat) * 1) ((n : Int) - (i : Nat)) 1) := by
  have W := Walks.range (prog := prog) (w := w) hh I (a : Int) 1 n
  exact ⟨W.sub, fun i h h' st hk => ⟨st.1, W.frame i h h' st.2 hk⟩, fun i s Q E hi st hQ => W.item i s Q E hi st.2 fun v h' tk hP hS hk => hQ v h' tk ⟨hi, by
    obtain ⟨t, rfl⟩ := hP
    exact ⟨t, by congr 1; omega⟩⟩ ⟨by omega, hS⟩ hk, fun s Q E st hQ => W.done s Q E st.2 hQ, fun i s Q E st hQ => W.self i s Q E st.2 hQ⟩

theorem range_iter {r : Addr} {a n : Nat} {t u v : Tok} {s₁ : Shared} {Q : Value → Shared → Prop} (hr : IsRange s₁.heap r (a : Int) ((a + n : Nat) : Int) 1 t u v) (ha : a + n < 2 ^ 60)
    (h : ∀ s₂, Go s₁ s₂ → Ch [] s₁.heap s₂.heap → s₂.heap.objs.size = s₁.heap.objs.size + 1 → IsRangeIter s₂.heap s₁.heap.objs.size ((a : Int) + ((0 : Nat) : Int) * 1) ((n : Int) - ((0 : Nat) : Int)) 1 → Q (.ref s₁.heap.objs.size) s₂) :
    wpAny (model prog w) A (pyIter (.ref r)) Q E s₁ := by
  refine wpAny_pyIter_range hr (small_one (by omega) (by omega) (by omega) (by omega)) (h _ ⟨_, _, rfl⟩ Ch.push (by rw [Heap.size_push]) ?_)
  have e : Builtin.Range.rangeSize (a : Int) ((a + n : Nat) : Int) 1 = (n : Int) := by rw [rangeSize_one]; split <;> omega
  rw [e]
  have := Heap.get?_push_size s₁.heap (o := { cls := .type "range_iterator", data := .fields #[rawInt (a : Int), rawInt (n : Int), rawInt 1] }) rfl
  simpa using this

theorem rng2 {s : Shared} {x y : Int} {t u : Tok} (a n : Nat) {Q : Value → Shared → Prop} (hx : x = ((a : Nat) : Int)) (hy : y = ((a + n : Nat) : Int)) (h : ∀ s' r t u v, Go s s' → IsRange s'.heap r ((a : Nat) : Int) ((a + n : Nat) : Int) 1 t u v → Ch [] s.heap s'.heap → Q (.ref r) s') :
    wpAny (model prog w) A (call (.type "range") [.int x t, .int y u]) Q E s := by
  subst hx hy
  exact call_range_2 (h _ _ _ _ _ ⟨_, _, rfl⟩ (IsRange.new ..) Ch.push)
theorem rng1 {s : Shared} {y : Int} {u : Tok} (n : Nat) {Q : Value → Shared → Prop} (hy : y = ((n : Nat) : Int)) (h : ∀ s' r t u v, Go s s' → IsRange s'.heap r ((0 : Nat) : Int) ((0 + n : Nat) : Int) 1 t u v → Ch [] s.heap s'.heap → Q (.ref r) s') :
    wpAny (model prog w) A (call (.type "range") [.int y u]) Q E s := by
  subst hy
  refine call_range_1 (h _ s.heap.objs.size s.toks u (s.toks + 1) ⟨_, _, rfl⟩ ?_ Ch.push)
  rw [Nat.zero_add]
  exact IsRange.new ..

theorem lc_range {s : Shared} {elt iter c : Expr} {x : Str} {px pe : Pos} {scope : Scope} {cl : List (Str × Addr)} {pos : Pos} {Q : Value → Shared → Prop} (pz : Nat → Bool)
    (h : wpAny (model prog w) A (eval iter env) (fun xv s₁ => ∃ r a n t u v, xv = .ref r ∧ IsRange s₁.heap r ((a : Nat) : Int) ((a + n : Nat) : Int) 1 t u v ∧ a + n ≤ 2 ^ 20 ∧ TestOk prog w A env scope cl x c a n pz s₁.heap ∧
      (∀ D s' ys, Go s₁ s' → s₁.heap.get? D = none → s'.heap.PlainList D (List.toArray ys) → IntsAre ys ((filt a n pz).map fun k => ((k : Nat) : Int)) → Ch [] s₁.heap s'.heap → Q (.ref D) s')) E s)
    (hh : A.handled = none) (he : elt = .Name x pe := by rfl)
    (hclos : closureFor scope env = pure cl := by rfl) (hcell : ∀ y ∈ scope.names, y.2 ≠ .cell := by decide) (hkind : scope.kind = .function := by rfl)
    (hnames : ∀ y ∈ scope.names, y.2 = .local → scope.names.lookup y.1 = some .local := by decide) (hx : scope.names.lookup x = some .local := by rfl) (hd : (x == ("__debug__" : Str)) = false := by decide)
    (hs : ∀ x, foldedSetIterable iter env x = pure x := by intro _; rfl) :
    wpAny (model prog w) A (eval (.ListComp elt [⟨.Name x px, iter, [c], 0⟩] scope pos) env) Q E s := by
  refine wpAny_ListComp_free (testAt pz) (fun v y => y = v) hclos hcell hkind hnames hx (wpAny_mono h (fun xv s₁ h₁ => ?_) fun _ _ e => e) hs
  obtain ⟨r, a, n, t, u, v, rfl, hr, hb, T, k⟩ := h₁
  refine range_iter hr (by omega) fun s₂ g₂ c₂ hz₂ hit => ?_
  have hk₂ : ∀ b o, s₁.heap.get? b = some o → s₂.heap.get? b = some o := fun b o e => c₂ b o (fun m => nomatch m) e
  refine ⟨_, _, _, n, _, _, rfl, walks_range hh _ a n, by rw [sizeLine_eq]; omega, ⟨Nat.zero_le _, hit⟩, ?_, quiet_range he hkind hx hd ?_ hk₂ (by rw [hz₂]; exact Nat.le_succ _) T, ?_⟩
  · intro b m; rw [List.mem_singleton.mp m, hz₂]; exact Nat.lt_succ_self _
  · intro b m; rw [List.mem_singleton.mp m]; exact Nat.le_refl _
  · intro D h' tk ys vs hD hl hpl hlen hP hF hkp
    have hys : ys.toList = vs.filter (testAt pz) := paired_eq hF
    have hDn : s₁.heap.get? D = none := by
      cases q : s₁.heap.get? D with
      | none => rfl
      | some o => rw [hk₂ D o q] at hD; cases hD
    refine k D _ ys.toList (g₂.trans ⟨_, _, rfl⟩) hDn (by simpa using hpl) ?_ (fun b o _ e => hkp b o (fun m => ?_) (hk₂ b o e))
    · rw [hys]
      exact ints_filter n a vs hlen fun j v hj => (hP j v hj).2
    · rw [List.mem_singleton.mp m] at e
      exact Nat.lt_irrefl _ (Heap.lt_size e)

theorem as_range {s : Shared} {elt iter c : Expr} {x y : Str} {px py pe : Pos} {scope cs : Scope} {cl0 cl : List (Str × Addr)} {pos spos : Pos} {cn : Str} {L f : Addr} {cd : Value} {h₀ : Heap} {Q : Flow → Shared → Prop} (pz : Nat → Bool)
    (h : wpAny (model prog w) A (eval iter (envX cn cs L f cd cl0)) (fun xv s₁ => ∃ r a n t u v bs, xv = .ref r ∧ IsRange s₁.heap r ((a : Nat) : Int) ((a + n : Nat) : Int) 1 t u v ∧ a + n ≤ 2 ^ 20 ∧ Fm h₀ L bs s₁.heap ∧ TestOk prog w A (envX cn cs L f cd cl0) scope cl x c a n pz s₁.heap ∧
      (∀ D s' ys, Go s₁ s' → s₁.heap.get? D = none → s'.heap.PlainList D (List.toArray ys) → IntsAre ys ((filt a n pz).map fun k => ((k : Nat) : Int)) → Fm h₀ L ((y, .ref D) :: bs) s'.heap → Ch [L] s₁.heap s'.heap → Q .next s')) E s)
    (hh : A.handled = none) (he : elt = .Name x pe := by rfl)
    (hsw : swapsWith (.ListComp elt [⟨.Name x px, iter, [c], 0⟩] scope pos) (some (.Name y py)) spos.line (envX cn cs L f cd cl0) = pure true := by rfl)
    (hclos : closureFor scope (envX cn cs L f cd cl0) = pure cl := by rfl) (hcell : ∀ y ∈ scope.names, y.2 ≠ .cell := by decide) (hkind : scope.kind = .function := by rfl)
    (hnames : ∀ y ∈ scope.names, y.2 = .local → scope.names.lookup y.1 = some .local := by decide) (hx : scope.names.lookup x = some .local := by rfl) (hd : (x == ("__debug__" : Str)) = false := by decide)
    (hy : (envX cn cs L f cd cl0).kindOf y = some .local := by rfl) (hck : cs.kind = .function := by rfl)
    (hs : ∀ x, foldedSetIterable iter (envX cn cs L f cd cl0) x = pure x := by intro _; rfl) :
    wpAny (model prog w) A (exec (.Assign [.Name y py] (.ListComp elt [⟨.Name x px, iter, [c], 0⟩] scope pos) spos) (envX cn cs L f cd cl0)) Q E s := by
  refine wpAny_Assign_ListComp_free (testAt pz) (fun v y => y = v) hsw hclos hcell hkind hnames hx hy (by show (cs.kind == .class || (cs.kind == .module && L != mainGlobals)) = false; rw [hck]; rfl) (wpAny_mono h (fun xv s₁ h₁ => ?_) fun _ _ e => e) hs
  obtain ⟨r, a, n, t, u, v, bs, rfl, hr, hb, p, T, k⟩ := h₁
  refine range_iter hr (by omega) fun s₂ g₂ c₂ hz₂ hit => ?_
  have hk₂ : ∀ b o, s₁.heap.get? b = some o → s₂.heap.get? b = some o := fun b o e => c₂ b o (fun m => nomatch m) e
  obtain ⟨m, F, lk⟩ := p.ch c₂ (fun m => nomatch m) (fun _ m => nomatch m)
  refine ⟨_, _, _, n, _, _, m, rfl, walks_range hh _ a n, by rw [sizeLine_eq]; omega, ⟨Nat.zero_le _, hit⟩, ?_, ?_, F.ns, quiet_range he hkind hx hd ?_ hk₂ (by rw [hz₂]; exact Nat.le_succ _) T, ?_⟩
  · intro b m; rw [List.mem_singleton.mp m, hz₂]; exact Nat.lt_succ_self _
  · exact not_mem_one (Nat.ne_of_lt p.lt)
  · intro b m; rw [List.mem_singleton.mp m]; exact Nat.le_refl _
  · intro D h' tk ys vs hD hl hpl hlen hP hF hns hkp
    have hys : ys.toList = vs.filter (testAt pz) := paired_eq hF
    have hDn : s₁.heap.get? D = none := by
      cases q : s₁.heap.get? D with
      | none => rfl
      | some o => rw [hk₂ D o q] at hD; cases hD
    have hnI : ∀ b o, s₁.heap.get? b = some o → b ∉ [s₁.heap.objs.size] := fun b o e m => by
      rw [List.mem_singleton.mp m] at e
      exact Nat.lt_irrefl _ (Heap.lt_size e)
    have up : ∀ b o, b ≠ L → s₁.heap.get? b = some o → h'.get? b = some o := fun b o n e => hkp b o n (hnI b o e) (hk₂ b o e)
    refine k D _ ys.toList (g₂.trans ⟨_, _, rfl⟩) hDn (by simpa using hpl) ?_ ⟨_, ⟨hns, fun b o e => up b o (fun q => by rw [q, base_none p.ge] at e; cases e) (p.keep b o e), p.ge⟩, lk.put y _⟩ (fun b o n e => up b o (fun q => n (by rw [q]; simp)) e)
    rw [hys]
    exact ints_filter n a vs hlen fun j v hj => (hP j v hj).2
end
end Mine
end PartM10
section PartW1
set_option maxHeartbeats 400000
namespace Mine
def wyParams : Arguments := match pw.main.body with | _ :: _ :: _ :: _ :: _ :: .FunctionDef _ p _ _ _ _ _ _ _ _ :: _ => p | _ => default
def wyBody : List Stmt := match pw.main.body with | _ :: _ :: _ :: _ :: _ :: .FunctionDef _ _ b _ _ _ _ _ _ _ :: _ => b | _ => []
def wyScope : Scope := match pw.main.body with | _ :: _ :: _ :: _ :: _ :: .FunctionDef _ _ _ _ _ _ sc _ _ _ :: _ => sc | _ => default
abbrev wyEnv (L f : Addr) (cd : Value) : Env := envX "_law_way" wyScope L f cd []

/-- the way's places as ints -/
def wayI (lt : Cmp) (ws : List Value) (st m : Nat) : List Int := (List.range (m + 1)).map fun i => ((pth lt ws st i : Nat) : Int)
theorem wayI_succ (lt : Cmp) (ws : List Value) (st m : Nat) : wayI lt ws st (m + 1) = wayI lt ws st m ++ [((pth lt ws st (m + 1) : Nat) : Int)] := by
  simp only [wayI]
  rw [List.range_succ (n := m + 1), List.map_append]
  rfl
theorem IntsAre.snoc {n : Int} {t : Tok} : ∀ {vs : List Value} {ns : List Int}, IntsAre vs ns → IntsAre (vs ++ [.int n t]) (ns ++ [n])
  | _, _, .nil => .cons n t .nil
  | _, _, .cons i u h => .cons i u (IntsAre.snoc h)
theorem IntsAre.last {n : Int} : ∀ {vs : List Value} {ns : List Int}, IntsAre vs (ns ++ [n]) → ∃ us t, vs = us ++ [.int n t]
  | _, [], .cons _ t .nil => ⟨[], t, rfl⟩
  | _, _ :: _, .cons i u h => by
    obtain ⟨us, t, e⟩ := IntsAre.last h
    exact ⟨.int i u :: us, t, by rw [e]; rfl⟩
theorem isPart_eq {i j : Int} {t : Tok} (h : i = j) : IsPart (.int i t) (some j) := by subst h; exact .int i t
theorem way_last {lt : Cmp} {ws : List Value} {st m : Nat} {ys : List Value} (h : IntsAre ys (wayI lt ws st m)) : ∃ us t, ys = us ++ [.int ((pth lt ws st m : Nat) : Int) t] := by
  cases m with
  | zero => exact IntsAre.last (ns := []) h
  | succ m => rw [wayI_succ] at h; exact IntsAre.last h
theorem pair_pick {vs : List Value} {p : Nat} (h : 2 * p + 1 < vs.length) : slicePick vs.toArray (some ((2 * p + 1 : Nat) : Int)) (some ((2 * p + 3 : Nat) : Int)) none =
    (if 2 * p + 2 < vs.length then [nth vs (2 * p + 1), nth vs (2 * p + 2)] else [nth vs (2 * p + 1)]).toArray := by
  have e : sliceBounds (some ((2 * p + 1 : Nat) : Int)) (some ((2 * p + 3 : Nat) : Int)) none vs.toArray.size = (((2 * p + 1 : Nat) : Int), ((min (2 * p + 3) vs.length : Nat) : Int), 1) := by
    simp only [sliceBounds, Option.getD_none, show (1 : Int) > 0 by decide, if_true, List.size_toArray]
    rw [if_neg (by omega), if_neg (by omega)]
    congr 1
    · omega
    · congr 1; omega
  rw [kmk_pick_nat _ e]
  congr 1
  have hn : ∀ i, i < vs.length → vs[i]? = some (nth vs i) := fun i hi => by rw [nth, List.getD_eq_getElem?_getD, List.getElem?_eq_getElem hi]; rfl
  have hd : vs.drop (2 * p + 1) = nth vs (2 * p + 1) :: vs.drop (2 * p + 2) := by
    rw [List.drop_eq_getElem_cons h]
    congr 1
    have := hn _ h
    rw [List.getElem?_eq_getElem h] at this
    exact Option.some.inj this
  show (vs.drop (2 * p + 1)).take _ = _
  rw [hd]
  split
  · rename_i h2
    have hd2 : vs.drop (2 * p + 2) = nth vs (2 * p + 2) :: vs.drop (2 * p + 3) := by
      rw [List.drop_eq_getElem_cons h2]
      congr 1
      have := hn _ h2
      rw [List.getElem?_eq_getElem h2] at this
      exact Option.some.inj this
    rw [show min (2 * p + 3) vs.length - (2 * p + 1) = 2 by omega, hd2]
    rfl
  · rename_i h2
    rw [show min (2 * p + 3) vs.length - (2 * p + 1) = 1 by omega]
    rfl

section
variable {h₀ : Heap} {mg mb : Str → Option Value} {H L : Addr} {vs : List Value} {bs : List (Str × Value)} {w : World} {A : Around} {E : Value → Shared → Prop} {s : Shared} {f : Addr} {cd : Value} {key : Value → Option Int}

theorem wy_body {st : Nat} {t1 : Tok} {Q : Flow → Shared → Prop} (G : Gd h₀ mg mb) (p : Fm h₀ L bs s.heap) (l1 : At bs "row" (.ref H)) (l2 : At bs "start" (.int st t1)) (hl : s.heap.IsList H vs.toArray) (nH : H ≠ L)
    (hI : ∀ v ∈ vs, Kd s.heap key v) (hL : ∀ v ∈ vs, v ≠ .ref L) (hst : st < vs.length) (hn : vs.length < 2 ^ 20) (hh : A.handled = none) (hu : A.units + 3 < cLine)
    (hok : ∀ D m ys s', Go s s' → s.heap.objs.size ≤ D → s'.heap.PlainList D (List.toArray ys) → IntsAre ys (wayI (ltK key) vs st m) → pth (ltK key) vs st m < vs.length → vs.length ≤ 2 * pth (ltK key) vs st m + 1 → Ch [L] s.heap s'.heap → Q (.ret (.ref D)) s') :
    wpAny (model pw w) A (execs wyBody (wyEnv L f cd)) Q E s := by
  unfold wyBody
  -- way = [start]
  refine wpAny_execs_cons ?_
  refine wpAny_Assign_Name ?_
  refine List_ ?_
  refine args_cons ?_
  refine Fm.ld p l2 ?_
  refine args_nil ?_
  refine newL (by rw [sizeLine_eq]; simp) fun s₁ D g₁ hD₁ y₁ c₁ => ?_
  have hLD : L ≠ D := by rw [hD₁]; exact Nat.ne_of_lt p.lt
  have hHD : H ≠ D := by rw [hD₁]; exact Nat.ne_of_lt (sizeOf_list hl)
  have p₁ := p.ch c₁ (fun m => nomatch m) (fun _ m => nomatch m)
  refine Fm.st p₁ fun s₂ g₂ p₂ c₂ => ?_
  have y₂ := c₂.plain (not_mem_one (Ne.symm hLD)) y₁
  have c₂' : Ch [L, D] s.heap s₂.heap := (c₁.nil.trans (c₂.mono fun b m => by simp at m ⊢; exact .inl m))
  dsimp only
  refine wpAny_execs_cons ?_
  refine wpAny_While (codeAny_whileLoop (I := fun n s' => ∃ m ys bs', vs.length - pth (ltK key) vs st m = n ∧ Go s s' ∧ Fm h₀ L bs' s'.heap ∧ At bs' "row" (.ref H) ∧ At bs' "way" (.ref D) ∧ s'.heap.PlainList D (List.toArray ys) ∧
    IntsAre ys (wayI (ltK key) vs st m) ∧ pth (ltK key) vs st m < vs.length ∧ Ch [L, D] s.heap s'.heap) ?_ _ ⟨0, _, _, rfl, g₁.trans g₂, p₂, l1, rfl, y₂, .cons _ _ .nil, hst, c₂'⟩)
  clear c₂' y₂ c₂ p₂ g₂ p₁ c₁ y₁ g₁
  rintro n s₁ ⟨m, ys, bs', hm, g₁, p₁, k1, k2, y₁, i₁, hp₁, c₁⟩
  obtain ⟨us, tl, rfl⟩ := way_last i₁
  have last : ∀ {s' : Shared} {value slice : Expr} {u : Tok} {Q' : Value → Shared → Prop} {E' : Value → Shared → Prop}, s'.heap.IsList D (us ++ [Value.int ((pth (ltK key) vs st m : Nat) : Int) tl]).toArray → Q' (Value.int ((pth (ltK key) vs st m : Nat) : Int) tl) s' →
      (subscripted slice false (.ref D) (.int (-1) u) = operate [.ref D, .int (-1) u] (getItem (.ref D) (.int (-1) u))) → (∀ r, letTemporaryGo value (.ref D) r = pure ()) →
      wpAny (model pw w) A (subscriptTail value slice (.ref D) (.int (-1) u)) Q' E' s' := fun a b c d => getLast a b c d
  have hl₁ := c₁.isList (by simp [nH, hHD]) hl
  have hlenD : (us ++ [Value.int ((pth (ltK key) vs st m : Nat) : Int) tl]).length ≤ m + 1 := by rw [i₁.length, wayI]; simp
  have hpm : m ≤ pth (ltK key) vs st m := by
    have : ∀ j, j ≤ pth (ltK key) vs st j := fun j => by
      induction j with
      | zero => omega
      | succ j ih => have := pth_lt (lt := ltK key) (ws := vs) (st := st) (show j < j + 1 by omega); omega
    exact this m
  generalize hP : pth (ltK key) vs st m = P at *
  refine wpAny_isTrue_Compare1 ?_
  refine wpAny_BinOp ?_
  refine wpAny_BinOp ?_
  refine wpAny_Constant_int ?_
  refine Subscript_ ?_
  refine Fm.ld p₁ k2 ?_
  refine UnaryOp_ ?_
  refine wpAny_Constant_int ?_
  refine PyProof.Rows.neg_int ?_
  refine last y₁.isList ?_ (by with_unfolding_all rfl) (by intro _; with_unfolding_all rfl)
  refine mul_int ?_
  refine wpAny_Constant_int ?_
  refine add_int ?_
  refine Call_ ?_
  refine bltX G p₁.keep boot_len ?_
  refine PyProof.Rows.callWith_builtin1 ?_
  refine args_cons ?_
  refine Fm.ld p₁ k1 ?_
  refine args_nil ?_
  refine Calls.call_len_list hl₁ (by rw [List.size_toArray]; omega) ?_
  rw [List.size_toArray]
  refine lt_int ?_
  refine wpAny_truthy_bool ?_
  by_cases hlt : 2 * P + 1 < vs.length
  · have hd : decide ((2 : Int) * (P : Int) + 1 < (vs.length : Int)) = true := by simp; omega
    rw [hd]
    simp only [if_true]
    -- pair = row[..]
    refine wpAny_execs_cons ?_
    refine wpAny_Assign_Name ?_
    refine wpAny_Subscript_list_slice ?_
    refine Fm.ld p₁ k1 ?_
    rw [evalPart_some]
    refine wpAny_BinOp ?_
    refine wpAny_BinOp ?_
    refine wpAny_Constant_int ?_
    refine Subscript_ ?_
    refine Fm.ld p₁ k2 ?_
    refine UnaryOp_ ?_
    refine wpAny_Constant_int ?_
    refine PyProof.Rows.neg_int ?_
    refine last y₁.isList ?_ (by with_unfolding_all rfl) (by intro _; with_unfolding_all rfl)
    refine mul_int ?_
    refine wpAny_Constant_int ?_
    refine add_int ?_
    rw [evalPart_some]
    refine wpAny_BinOp ?_
    refine wpAny_BinOp ?_
    refine wpAny_Constant_int ?_
    refine Subscript_ ?_
    refine Fm.ld p₁ k2 ?_
    refine UnaryOp_ ?_
    refine wpAny_Constant_int ?_
    refine PyProof.Rows.neg_int ?_
    refine last y₁.isList ?_ (by with_unfolding_all rfl) (by intro _; with_unfolding_all rfl)
    refine mul_int ?_
    refine wpAny_Constant_int ?_
    refine add_int ?_
    have a1 : (2 : Int) * (P : Int) + 1 = ((2 * P + 1 : Nat) : Int) := by omega
    have a3 : (2 : Int) * (P : Int) + 3 = ((2 * P + 3 : Nat) : Int) := by omega
    have hz : vs.toArray.size ≤ sizeLine := by rw [List.size_toArray, sizeLine_eq]; omega
    dsimp only
    refine ⟨H, vs.toArray, some ((2 * P + 1 : Nat) : Int), some ((2 * P + 3 : Nat) : Int), rfl, hl₁, hz, isPart_eq a1, isPart_eq a3, ?_⟩
    rw [pair_pick hlt]
    generalize hps : (if 2 * P + 2 < vs.length then [nth vs (2 * P + 1), nth vs (2 * P + 2)] else [nth vs (2 * P + 1)]) = ps
    generalize hso : ({ cls := Value.type "slice", data := Data.fields #[Value.int (2 * (P : Int) + 1) _, Value.int (2 * (P : Int) + 3) _, Value.none] } : Obj) = so
    have hB : ((s₁.heap.push so).push { cls := .type "list", data := .seq ps.toArray }).PlainList (s₁.heap.objs.size + 1) ps.toArray := by
      refine ⟨0, ?_⟩
      have := Heap.get?_push_size (s₁.heap.push so) (o := { cls := .type "list", data := .seq ps.toArray }) rfl
      rw [Heap.size_push] at this
      exact this
    have c₂ : Ch [] s₁.heap ((s₁.heap.push so).push { cls := .type "list", data := .seq ps.toArray }) := fun b o _ e => Heap.get?_push_of_some _ (Heap.get?_push_of_some _ e)
    have p₂ := p₁.ch c₂ (fun m => nomatch m) (fun _ m => nomatch m)
    refine Fm.st (s := Shared.mk _ _ _ _ _) p₂ fun s₃ g₃ p₃ c₃ => ?_
    have hLp : s₁.heap.objs.size + 1 ≠ L := fun e => by have := p₁.lt; rw [← e] at this; exact Nat.lt_irrefl _ (Nat.lt_of_succ_lt this)
    have hB₃ := c₃.plain (not_mem_one hLp) hB
    have y₃ := c₃.plain (not_mem_one (Ne.symm hLD)) (c₂.plain (fun m => nomatch m) y₁)
    have c₃' : Ch [L, D] s.heap s₃.heap := c₁.trans (c₂.nil.trans (c₃.mono fun b m => by simp at m ⊢; exact .inl m))
    have g₃' : Go s s₃ := g₁.trans (Go.trans ⟨_, _, rfl⟩ g₃)
    have kd₃ : ∀ v ∈ vs, Kd s₃.heap key v := fun v hv => (hI v hv).ch c₃' (fun b m => by
      rcases List.mem_cons.mp m with q | q
      · rw [q]; exact hL v hv
      · rw [List.mem_singleton.mp q]; exact (hI v hv).ne (by rw [hD₁]; exact Nat.le_refl _))
    clear hB y₁ c₂ p₂
    have hnxb := nx_lt (lt := ltK key) hlt
    have hnxg := nx_gt (lt := ltK key) (ws := vs) P
    have fin : ∀ (c : Int) (tc : Tok) h' tk, 2 * (P : Int) + c = ((nx (ltK key) vs P : Nat) : Int) → h'.PlainList D ((us ++ [Value.int ((P : Nat) : Int) tl]).toArray.push (.int (2 * (P : Int) + c) tc)) → Heap.SameBut D s₃.heap h' →
        ∃ k, k < n ∧ ∃ m ys bs', vs.length - pth (ltK key) vs st m = k ∧ Go s { s₃ with heap := h', toks := tk } ∧ Fm h₀ L bs' h' ∧ At bs' "row" (.ref H) ∧ At bs' "way" (.ref D) ∧ h'.PlainList D (List.toArray ys) ∧
          IntsAre ys (wayI (ltK key) vs st m) ∧ pth (ltK key) vs st m < vs.length ∧ Ch [L, D] s.heap h' := by
      intro c tc h' tk hc hy hs
      have hP1 : pth (ltK key) vs st (m + 1) = nx (ltK key) vs P := by show nx (ltK key) vs (pth (ltK key) vs st m) = _; rw [hP]
      refine ⟨vs.length - nx (ltK key) vs P, by omega, m + 1, (us ++ [Value.int ((P : Nat) : Int) tl]) ++ [.int (2 * (P : Int) + c) tc], _, by rw [hP1], g₃'.trans ⟨_, _, rfl⟩, p₃.ch (Ch.one hs) (not_mem_one hLD) (fun b m => by rw [List.mem_singleton.mp m, hD₁]; exact base_none p.sz), k1, k2, ?_, ?_, by rw [hP1]; exact hnxb, c₃'.trans ((Ch.one hs).mono fun b m => by simp at m ⊢; exact .inr m)⟩
      · rw [show ((us ++ [Value.int ((P : Nat) : Int) tl]) ++ [Value.int (2 * (P : Int) + c) tc]).toArray = (us ++ [Value.int ((P : Nat) : Int) tl]).toArray.push (.int (2 * (P : Int) + c) tc) by simp]
        exact hy
      · rw [wayI_succ, hP1, ← hc]
        exact IntsAre.snoc i₁
    have hszD : (us ++ [Value.int ((P : Nat) : Int) tl]).toArray.size ≤ sizeLine := by rw [List.size_toArray, sizeLine_eq]; omega
    refine wpAny_execs_cons ?_
    refine wpAny_Expr ?_
    refine wpAny_Call_append rfl rfl rfl rfl ?_
    refine Fm.ld p₃ k2 ?_
    refine ⟨D, _, rfl, (by obtain ⟨n, e⟩ := y₃; exact ⟨_, n, e, rfl, rfl, rfl⟩), ?_⟩
    refine wpAny_BinOp ?_
    refine wpAny_BinOp ?_
    refine wpAny_Constant_int ?_
    refine Subscript_ ?_
    refine Fm.ld p₃ k2 ?_
    refine UnaryOp_ ?_
    refine wpAny_Constant_int ?_
    refine PyProof.Rows.neg_int ?_
    refine last y₃.isList ?_ (by with_unfolding_all rfl) (by intro _; with_unfolding_all rfl)
    refine mul_int ?_
    refine IfExp_ ?_
    refine isTrue_or ?_
    refine wpAny_isTrue_Compare1 ?_
    refine Call_ ?_
    refine bltX (s := Shared.mk _ _ _ _ _) G p₃.keep boot_len ?_
    refine PyProof.Rows.callWith_builtin1 ?_
    refine args_cons ?_
    refine Fm.ld (s := Shared.mk _ _ _ _ _) p₃ rfl ?_
    refine args_nil ?_
    have hps2 : ps.length ≤ 2 := by rw [← hps]; split <;> simp
    refine Calls.call_len_list (s := Shared.mk _ _ _ _ _) hB₃.isList (by rw [List.size_toArray]; omega) ?_
    rw [List.size_toArray]
    refine wpAny_Constant_int ?_
    refine eq_int ?_
    refine wpAny_truthy_bool ?_
    dsimp only
    by_cases h2 : 2 * P + 2 < vs.length
    · rw [if_pos h2] at hps
      have hl2 : (((ps.length : Nat) : Int) == 1) = false := by rw [← hps]; rfl
      rw [hl2]
      simp only [Bool.false_eq_true, if_false]
      refine isTrue_or ?_
      refine wpAny_isTrue_Compare1 ?_
      refine Subscript_ ?_
      refine Fm.ld (s := Shared.mk _ _ _ _ _) p₃ rfl ?_
      refine wpAny_Constant_int ?_
      refine getAt (s := Shared.mk _ _ _ _ _) (vs := ps) hB₃.isList (by decide) (by rw [← hps]; simp) (by omega) ?_
      refine Subscript_ ?_
      refine Fm.ld (s := Shared.mk _ _ _ _ _) p₃ rfl ?_
      refine wpAny_Constant_int ?_
      refine getAt (s := Shared.mk _ _ _ _ _) (vs := ps) hB₃.isList (by decide) (by rw [← hps]; simp) (by omega) ?_
      have e0 : nth ps (0 : Int).toNat = nth vs (2 * P + 1) := by rw [← hps]; rfl
      have e1 : nth ps (1 : Int).toNat = nth vs (2 * P + 2) := by rw [← hps]; rfl
      rw [e0, e1]
      refine cmpK (s := Shared.mk _ _ _ _ _) (kd₃ _ (nth_mem (by omega))) (kd₃ _ (nth_mem h2)) (by omega) fun r hr => ?_
      refine wpAny_truthy_bool ?_
      cases r with
      | true =>
        have hnx : nx (ltK key) vs P = 2 * P + 1 := by unfold nx; rw [if_neg (fun h => h.2 hr)]
        simp only [if_true]
        refine wpAny_Constant_int ?_
        refine add_int ?_
        refine wpAny_list_append_plain (s := Shared.mk _ _ _ _ _) (hsz := hszD) y₃ fun h' hy hs => ?_
        dsimp only
        refine wpAny_execs_nil ?_
        exact fin 1 _ h' _ (by rw [hnx]; omega) hy hs
      | false =>
        have hnx : nx (ltK key) vs P = 2 * P + 2 := by unfold nx; rw [if_pos ⟨h2, by rw [hr]; simp⟩]
        simp only [Bool.false_eq_true, if_false]
        refine isTrue_or_nil ?_
        simp only [Bool.false_eq_true, if_false]
        refine wpAny_Constant_int ?_
        refine add_int ?_
        refine wpAny_list_append_plain (s := Shared.mk _ _ _ _ _) (hsz := hszD) y₃ fun h' hy hs => ?_
        dsimp only
        refine wpAny_execs_nil ?_
        exact fin 2 _ h' _ (by rw [hnx]; omega) hy hs
    · rw [if_neg h2] at hps
      have hnx : nx (ltK key) vs P = 2 * P + 1 := by unfold nx; rw [if_neg (fun h => h2 h.1)]
      have hl2 : (((ps.length : Nat) : Int) == 1) = true := by rw [← hps]; rfl
      rw [hl2]
      simp only [if_true]
      refine wpAny_Constant_int ?_
      refine add_int ?_
      refine wpAny_list_append_plain (s := Shared.mk _ _ _ _ _) (hsz := hszD) y₃ fun h' hy hs => ?_
      dsimp only
      refine wpAny_execs_nil ?_
      exact fin 1 _ h' _ (by rw [hnx]; omega) hy hs
  · have hd : decide ((2 : Int) * (P : Int) + 1 < (vs.length : Int)) = false := by simp; omega
    rw [hd]
    simp only [Bool.false_eq_true, if_false]
    refine wpAny_execs_nil ?_
    dsimp only
    refine wpAny_execs_cons ?_
    refine wpAny_Return_some ?_
    refine Fm.ld (s := Shared.mk _ _ _ _ _) p₁ k2 ?_
    refine hok D m _ _ (g₁.trans ⟨_, _, rfl⟩) (by rw [hD₁]; exact Nat.le_refl _) y₁ i₁ (by rw [hP]; exact hp₁) (by rw [hP]; omega) (fun b o nb e => c₁ b o (fun m => ?_) e)
    rcases List.mem_cons.mp m with q | q
    · exact nb (List.mem_singleton.mpr q)
    · rw [List.mem_singleton.mp q, hD₁] at e
      exact Nat.lt_irrefl _ (Heap.lt_size e)

theorem wy_call {R : Result → Shared → Prop} {o : Obj} {pm doc : Value} {st : Nat} {t1 : Tok} (G : Gd h₀ mg mb) (k₀ : ∀ b o, h₀.get? b = some o → s.heap.get? b = some o) (hsz : h₀.objs.size ≤ s.heap.objs.size)
    (ho : h₀.get? f = some o) (hdat : o.data = .func (Calls.docDef "_law_way" wyParams wyBody wyScope pm cd doc)) (hcd : h₀.CodeRec cd "_law_way")
    (hroom : A.depth < recursionLimit) (hl : s.heap.IsList H vs.toArray) (hI : ∀ v ∈ vs, Kd s.heap key v) (hst : st < vs.length) (hn : vs.length < 2 ^ 20)
    (hh : A.handled = none) (hu : A.units + 6 < cLine)
    (hok : ∀ D m ys s', Go s s' → s.heap.objs.size ≤ D → s'.heap.PlainList D (List.toArray ys) → IntsAre ys (wayI (ltK key) vs st m) → pth (ltK key) vs st m < vs.length → vs.length ≤ 2 * pth (ltK key) vs st m + 1 → Ch [] s.heap s'.heap → R (.ok (.ret (.ref D))) s') :
    codeAny (model pw w) A (.call (.ref f) ⟨[.ref H, .int st t1], []⟩) R s := by
  have hHL : H ≠ s.heap.objs.size := Nat.ne_of_lt (sizeOf_list hl)
  refine call_plain_ret (binds := [("row", .ref H), ("start", .int st t1)]) hroom (k₀ _ _ ho) hdat (G.lim.keeps k₀) (hcd.keeps k₀) rfl (locs rfl) (fun h₁ F => ?_)
  have c₁ : Ch [] s.heap h₁ := fun b o _ e => F.keep b o e
  have p : Fm h₀ s.heap.objs.size [("start", .int st t1), ("row", .ref H)] h₁ := ⟨_, ⟨F.ns, fun b o e => F.keep b o (k₀ b o e), hsz⟩, fun _ _ e => e⟩
  refine wy_body (s := { s with heap := h₁, toks := s.toks + _ }) G p rfl rfl (c₁.isList (fun m => nomatch m) hl) hHL (fun v hv => (hI v hv).ch c₁ (fun _ m => nomatch m)) (fun v hv => (hI v hv).ne (Nat.le_refl _)) hst hn hh (by show A.units + 3 + 3 < cLine; omega) (fun D m ys s' g hD y i q1 q2 c => ?_)
  refine hok D m ys s' (Go.trans ⟨_, _, rfl⟩ g) (Nat.le_trans (Nat.le_of_lt p.lt) hD) y i q1 q2 (fun b o _ e => c b o (fun m => ?_) (F.keep b o e))
  rw [List.mem_singleton.mp m] at e
  exact Nat.lt_irrefl _ (Heap.lt_size e)
end
end Mine
end PartW1
section PartW2
set_option maxHeartbeats 400000
namespace Mine
def bkParams : Arguments := match pw.main.body with | _ :: _ :: _ :: _ :: _ :: _ :: .FunctionDef _ p _ _ _ _ _ _ _ _ :: _ => p | _ => default
def bkBody : List Stmt := match pw.main.body with | _ :: _ :: _ :: _ :: _ :: _ :: .FunctionDef _ _ b _ _ _ _ _ _ _ :: _ => b | _ => []
def bkScope : Scope := match pw.main.body with | _ :: _ :: _ :: _ :: _ :: _ :: .FunctionDef _ _ _ _ _ _ sc _ _ _ :: _ => sc | _ => default
abbrev bkEnv (L f : Addr) (cd : Value) : Env := envX "_law_breaks_off" bkScope L f cd []
theorem boot_TypeError : bootBuiltins "TypeError" = some (.type "TypeError") := by decide +kernel
theorem te_exc : isSubtype (.type "TypeError") (.type "BaseException") = pure true := by rw [isSubtype_type]; kernel_rfl
theorem te_nt : isSubtype (.type ((Manifest.find? "TypeError").elim "type" fun x => x.metatype)) (.type "tuple") = pure false := by rw [isSubtype_type]; kernel_rfl
theorem te_self : isSubtype (.type "TypeError") (.type "TypeError") = pure true := by rw [isSubtype_type]; kernel_rfl

section
variable {h₀ : Heap} {mg mb : Str → Option Value} {H L : Addr} {vs : List Value} {bs : List (Str × Value)} {w : World} {A : Around} {s : Shared} {f : Addr} {cd : Value} {key : Value → Option Int} {outer : List Env}

theorem bk_body {st : Nat} {t1 : Tok} {Q : Flow → Shared → Prop} (G : Gd h₀ mg mb) (p : Fm h₀ L bs s.heap) (l1 : At bs "row" (.ref H)) (l2 : At bs "start" (.int st t1)) (hl : s.heap.IsList H vs.toArray) (nH : H ≠ L) (nH0 : h₀.get? H = none)
    (hI : ∀ v ∈ vs, Itm s.heap H key v) (hst : st < vs.length) (hn : vs.length < 2 ^ 20) (hh : A.handled = none) (hu : A.units + 6 < cLine) (hroom : A.depth + 1 < recursionLimit)
    (hfr : A.frames = some (bkEnv L f cd :: outer)) (hf : Frs s.heap outer) (hout : ∀ b ∈ outer.filterMap (·.frame), h₀.get? b = none)
    (hok : ∀ us s', Go s s' → siftup (ltK key) vs st = .ok us → s'.heap.IsList H us.toArray → Ch [L, H] s.heap s'.heap → Q (.ret (.bool false)) s')
    (hno : ∀ us s' h₁ fs e, Go s s' → siftup (ltK key) vs st = .error us → h₁.IsList H us.toArray → Ch [H] s.heap h₁ → (∀ b ∈ fs, b ∈ (bkEnv L f cd :: outer).filterMap (·.frame) ∨ s.heap.objs.size ≤ b) → Exc fs h₁ s'.heap e .none → Q (.ret (.bool true)) s') :
    wpAny (model pw w) A (execs bkBody (bkEnv L f cd)) Q (fun _ _ => False) s := by
  unfold bkBody
  obtain ⟨f', o', pm', cd', doc', q1, q2, q3, q4⟩ := G.su
  have hfs : Frs s.heap (bkEnv L f cd :: outer) := by
    obtain ⟨oL, es, ep, hL, hLd⟩ := p.frm
    exact ⟨rfl, ⟨L, oL, es, ep, rfl, hL, hLd⟩, hf⟩
  refine wpAny_execs_cons ?_
  refine wpAny_Try_except ?_
  refine wpAny_execs_cons ?_
  refine wpAny_Expr ?_
  refine Call_ ?_
  refine globX G p.keep q1 ?_
  refine callWith_def q3 ?_
  refine args_cons ?_
  refine Fm.ld p l1 ?_
  refine args_cons ?_
  refine Fm.ld p l2 ?_
  refine args_nil ⟨p.keep _ _ q2, ?_⟩
  refine wpAny_call (su_call G p.keep p.sz q2 q3 q4 hroom hl nH0 hI hst (by omega) hh hu hfr hfs (fun us s₁ g₁ e₁ hl₁ kp₁ => ?_) (fun us s₁ h₁ fs e g₁ e₁ hl₁ kp₁ hfs1 hfs2 x₁ => ?_))
  · dsimp only
    refine wpAny_execs_nil ?_
    dsimp only
    refine wpAny_execs_nil ?_
    dsimp only
    refine wpAny_execs_cons ?_
    refine wpAny_Return_some ?_
    refine Constant_bool ?_
    dsimp only
    refine hok us s₁ g₁ e₁ hl₁ (fun b o n e => kp₁ b o (fun q => n (by rw [q]; simp)) e)
  · have hl' : Frs h₁ (bkEnv L f cd :: outer) := frs_keep hfs hl kp₁
    have hb₀ : ∀ b o, h₀.get? b = some o → b ∉ fs := fun b o e m => by
      rcases hfs1 b m with q | q
      · rcases List.mem_cons.mp (show b ∈ L :: outer.filterMap (·.frame) from q) with q | q
        · rw [q, base_none p.ge] at e; cases e
        · rw [hout b q] at e; cases e
      · rw [base_none (Nat.le_trans p.sz q)] at e; cases e
    have k₀ : ∀ {h' : Heap} {fl : Value}, Exc fs h₁ h' e fl → ∀ b o, h₀.get? b = some o → h'.get? b = some o := fun x b o q =>
      x.keep b o (kp₁ b o (fun z => by rw [z, nH0] at q; cases q) (p.keep b o q)) (hb₀ b o q)
    refine note_on hfs2 hfr hl' rfl x₁ fun h2 x2 => ?_
    refine flight (s := { s₁ with heap := h2 }) (fr := none) x2 fun h3 x3 => ?_
    refine wpAny_handleBy_builtin (X := "TypeError") (T := "TypeError") (b := true) te_exc te_nt te_self ?_
    refine bltX (s := { s₁ with heap := h3 }) G (k₀ x3) boot_TypeError ⟨rfl, ?_, ?_⟩
    · obtain ⟨ob, _, _, _, _, he, hc, _⟩ := x3.there
      exact ⟨ob, he, hc⟩
    · simp only [if_true]
      refine flight (s := { s₁ with heap := h3 }) (fr := none) x3 fun h4 x4 => ?_
      refine wpAny_execs_cons ?_
      refine wpAny_Return_some ?_
      refine Constant_bool ?_
      dsimp only
      exact hno us _ h₁ fs e (g₁.trans ⟨_, _, rfl⟩) e₁ hl₁ (fun b o n e => kp₁ b o (fun q => n (by rw [q]; simp)) e) hfs1 x4

theorem bk_call {R : Result → Shared → Prop} {o : Obj} {pm doc : Value} {st : Nat} {t1 : Tok} (G : Gd h₀ mg mb) (k₀ : ∀ b o, h₀.get? b = some o → s.heap.get? b = some o) (hsz : h₀.objs.size ≤ s.heap.objs.size)
    (ho : h₀.get? f = some o) (hdat : o.data = .func (Calls.docDef "_law_breaks_off" bkParams bkBody bkScope pm cd doc)) (hcd : h₀.CodeRec cd "_law_breaks_off")
    (hroom : A.depth + 2 < recursionLimit) (hl : s.heap.IsList H vs.toArray) (nH0 : h₀.get? H = none) (hI : ∀ v ∈ vs, Itm s.heap H key v) (hst : st < vs.length) (hn : vs.length < 2 ^ 20)
    (hh : A.handled = none) (hu : A.units + 9 < cLine) (hfr : A.frames = some outer) (hf : Frs s.heap outer) (hout : ∀ b ∈ outer.filterMap (·.frame), h₀.get? b = none)
    (hok : ∀ us s', Go s s' → siftup (ltK key) vs st = .ok us → s'.heap.IsList H us.toArray → Ch [H] s.heap s'.heap → R (.ok (.ret (.bool false))) s')
    (hno : ∀ us s', Go s s' → siftup (ltK key) vs st = .error us → s'.heap.IsList H us.toArray → Ch (H :: outer.filterMap (·.frame)) s.heap s'.heap → (∀ b o, b ≠ H → s.heap.get? b = some o → ∃ sl, s'.heap.get? b = some { o with slots := sl }) → R (.ok (.ret (.bool true))) s') :
    codeAny (model pw w) A (.call (.ref f) ⟨[.ref H, .int st t1], []⟩) R s := by
  have hHL : H ≠ s.heap.objs.size := Nat.ne_of_lt (sizeOf_list hl)
  refine call_plain_ret (binds := [("row", .ref H), ("start", .int st t1)]) (by omega) (k₀ _ _ ho) hdat (G.lim.keeps k₀) (hcd.keeps k₀) rfl (locs rfl) (fun h₁ F => ?_)
  have c₁ : Ch [] s.heap h₁ := fun b o _ e => F.keep b o e
  have p : Fm h₀ s.heap.objs.size [("start", .int st t1), ("row", .ref H)] h₁ := ⟨_, ⟨F.ns, fun b o e => F.keep b o (k₀ b o e), hsz⟩, fun _ _ e => e⟩
  have hfr' : (A.deeper (bkEnv s.heap.objs.size f cd)).frames = some (bkEnv s.heap.objs.size f cd :: outer) := Around.frames_deeper hfr
  have nL : ∀ b o, s.heap.get? b = some o → b ≠ s.heap.objs.size := fun b o e => Nat.ne_of_lt (Heap.lt_size e)
  refine bk_body (s := { s with heap := h₁, toks := s.toks + _ }) G p rfl rfl (c₁.isList (fun m => nomatch m) hl) hHL nH0 (fun v hv => Itm.keep (hI v hv) (fun b o _ e => F.keep b o e)) hst hn hh (by show A.units + 3 + 6 < cLine; omega) (by show A.depth + 1 + 1 < recursionLimit; omega) hfr'
    (Frs.keeps (fun b o e _ => ⟨o, F.keep b o e, rfl⟩) hf) hout (fun us s' g e hl' c => ?_) (fun us s' h2 fs ex g e hl2 c2 hfs x => ?_)
  · refine hok us s' (Go.trans ⟨_, _, rfl⟩ g) e hl' (fun b o n e => c b o (fun m => ?_) (F.keep b o e))
    rcases List.mem_cons.mp m with q | q
    · exact nL b o e q
    · exact n q
  · have hup : ∀ b o, b ≠ H → s.heap.get? b = some o → h2.get? b = some o := fun b o n e => c2 b o (not_mem_one n) (F.keep b o e)
    refine hno us s' (Go.trans ⟨_, _, rfl⟩ g) e (x.isList hl2) (fun b o n e => x.keep b o (hup b o (fun q => n (by rw [q]; simp)) e) (fun m => ?_)) (fun b o n e => x.frm b o (hup b o n e))
    rcases hfs b m with q | q
    · rcases List.mem_cons.mp (show b ∈ s.heap.objs.size :: outer.filterMap (·.frame) from q) with q | q
      · exact nL b o e q
      · exact n (List.mem_cons_of_mem _ q)
    · exact Nat.lt_irrefl _ (Nat.lt_of_lt_of_le (Nat.lt_trans (Heap.lt_size e) p.lt) q)
end
end Mine
end PartW2
section PartW3
set_option maxHeartbeats 400000
namespace Mine
def tkParams : Arguments := match pw.main.body with | _ :: _ :: _ :: _ :: _ :: _ :: _ :: .FunctionDef _ p _ _ _ _ _ _ _ _ :: _ => p | _ => default
def tkBody : List Stmt := match pw.main.body with | _ :: _ :: _ :: _ :: _ :: _ :: _ :: .FunctionDef _ _ b _ _ _ _ _ _ _ :: _ => b | _ => []
def tkScope : Scope := match pw.main.body with | _ :: _ :: _ :: _ :: _ :: _ :: _ :: .FunctionDef _ _ _ _ _ _ sc _ _ _ :: _ => sc | _ => default
abbrev tkEnv (L f : Addr) (cd : Value) : Env := envX "_law_take_up" tkScope L f cd [("new", L + 1 + 1), ("row", L + 1)]

theorem Frs.keepm {h h' : Heap} : ∀ {l : List Env}, Frs h l → (∀ b o, b ∈ l.filterMap (·.frame) → h.get? b = some o → (∃ es ep, o.data = .dict es ep) → ∃ o', h'.get? b = some o' ∧ o'.data = o.data) → Frs h' l
  | [], _, _ => trivial
  | env :: rest, ⟨hk, ⟨L, o, es, ep, hf, ho, hd⟩, hr⟩, k => by
    obtain ⟨o', ho', hd'⟩ := k L o (by rw [List.filterMap_cons, hf]; exact List.mem_cons_self) ho ⟨es, ep, hd⟩
    exact ⟨hk, ⟨L, o', es, ep, hf, ho', hd'.trans hd⟩, Frs.keepm hr fun b o m => k b o (by rw [List.filterMap_cons, hf]; exact List.mem_cons_of_mem _ m)⟩
/-- the frames below stand, whatever lists and fresh things turn -/
theorem Frs.chg {h h' : Heap} {l : List Env} {X : List Addr} (f : Frs h l) (c : Ch X h h') (n : ∀ b ∈ X, b ∈ l.filterMap (·.frame) → False) : Frs h' l :=
  Frs.keepm f fun b o m e _ => ⟨o, c b o (fun q => n b q m) e, rfl⟩
theorem Frs.notList {h : Heap} {l : List Env} {H : Addr} {items : Array Value} (f : Frs h l) (hl : h.IsList H items) : H ∉ l.filterMap (·.frame) := fun m => by
  obtain ⟨o, es, ep, e, d⟩ := f.mem m
  obtain ⟨o', e', _, n, d'⟩ := hl
  rw [e] at e'; cases e'
  rw [d] at d'; cases d'

section
variable {h₀ : Heap} {mg mb : Str → Option Value} {H L : Addr} {vs W : List Value} {bs : List (Str × Value)} {w : World} {A : Around} {E : Value → Shared → Prop} {s : Shared} {f : Addr} {cd : Value} {key : Value → Option Int} {outer : List Env}

theorem tk_body {st : Nat} {t1 : Tok} {X : Value} {Q : Flow → Shared → Prop} (G : Gd h₀ mg mb) (p : Fm h₀ L bs s.heap) (l2 : At bs "start" (.int st t1)) (e1 : s.heap.IsCell (L + 1) (some (.ref H))) (e2 : s.heap.IsCell (L + 1 + 1) (some X))
    (hl : s.heap.IsList H vs.toArray) (nH0 : h₀.get? H = none) (hLH : H < L)
    (hI : ∀ v ∈ vs, Kd s.heap key v) (hX : Kd s.heap key X) (nIH : ∀ v ∈ vs, v ≠ .ref H) (nXH : X ≠ .ref H) (nIL : ∀ v ∈ vs, v ≠ .ref L) (nXL : X ≠ .ref L) (hst : st < vs.length) (hn : vs.length < 2 ^ 19) (hh : A.handled = none) (hu : A.units + 100 < cLine) (hroom : A.depth + 1 < recursionLimit)
    (hfr : A.frames = some (tkEnv L f cd :: outer)) (hf : Frs s.heap outer) (hol : L ∉ outer.filterMap (·.frame)) (alt : Alt (ltK key) vs st X W)
    (hok : ∀ s', Go s s' → s'.heap.IsList H W.toArray → Ch [H, L] s.heap s'.heap → Q .next s') :
    wpAny (model pw w) A (execs tkBody (tkEnv L f cd)) Q E s := by
  unfold tkBody
  have hHL : H ≠ L := Nat.ne_of_lt hLH
  obtain ⟨f', o', pm', cd', doc', q1, q2, q3, q4⟩ := G.su
  obtain ⟨f2, o2, pm2, cd2, doc2, r1, r2, r3, r4⟩ := G.sd
  -- twice = [..]
  refine wpAny_execs_cons ?_
  refine as_range (h₀ := h₀) (fun k => decide (nth vs k = nth vs ((k - 1) / 2))) ?_ hh
  refine Call_ ?_
  refine bltX G p.keep PyProof.Rows.boot_range ?_
  refine PyProof.Rows.callWith_type1 ?_
  refine args_cons ?_
  refine wpAny_BinOp ?_
  refine Fm.ld p l2 ?_
  refine wpAny_Constant_int ?_
  refine add_int ?_
  refine args_cons ?_
  refine Call_ ?_
  refine bltX (s := Shared.mk _ _ _ _ _) G p.keep boot_len ?_
  refine PyProof.Rows.callWith_builtin1 ?_
  refine args_cons ?_
  refine ldc (s := Shared.mk _ _ _ _ _) e1 ?_
  refine args_nil ?_
  refine Calls.call_len_list (s := Shared.mk _ _ _ _ _) hl (by rw [List.size_toArray]; omega) ?_
  rw [List.size_toArray]
  refine args_nil ?_
  refine rng2 (st + 1) (vs.length - (st + 1)) (by omega) (by omega) fun s₀ r tr ur vr g₀ hr c₀ => ?_
  have c₀' : Ch [] s.heap s₀.heap := c₀
  have g₀' : Go s s₀ := Go.trans ⟨_, _, rfl⟩ g₀
  clear c₀ g₀
  have nl : ∀ b : Addr, b ∉ ([] : List Addr) := fun _ m => nomatch m
  have p₀ := p.ch c₀' (nl _) (fun _ m => nomatch m)
  have kd₀ : ∀ v ∈ vs, Kd s₀.heap key v := fun v hv => (hI v hv).ch c₀' (fun _ m => nomatch m)
  refine ⟨r, st + 1, vs.length - (st + 1), _, _, _, _, rfl, hr, by omega, p₀, ?_, ?_⟩
  · intro C k t s₃ m₃ E' hC hk1 hk2 hns hm hkp
    have l₃ : s₃.heap.IsList H vs.toArray := (c₀'.isList (nl _) hl).at fun o e => hkp H o e
    have e₃ : s₃.heap.IsCell (L + 1) (some (.ref H)) := (c₀'.isCell (nl _) e1).keeps hkp
    refine wpAny_isTrue_Compare1 ?_
    refine Subscript_ ?_
    refine ldcE e₃ ?_
    refine ldE hns hm ?_
    refine getAt l₃ (by omega) (by omega) (by omega) ?_
    refine Subscript_ ?_
    refine ldcE e₃ ?_
    refine wpAny_BinOp ?_
    refine wpAny_BinOp ?_
    refine ldE hns hm ?_
    refine wpAny_Constant_int ?_
    refine sub_int ?_
    refine wpAny_Constant_int ?_
    refine floordiv_int (by decide) ?_
    have hdiv : ((k : Int) - 1).fdiv 2 = (((k - 1) / 2 : Nat) : Int) := by
      rw [Int.fdiv_eq_ediv_of_nonneg _ (by omega)]; omega
    rw [hdiv]
    refine getAt (s := Shared.mk _ _ _ _ _) l₃ (by omega) (by omega) (by omega) ?_
    rw [Int.toNat_natCast, Int.toNat_natCast]
    have hk3 : k < vs.length := by omega
    refine isV (s := Shared.mk _ _ _ _ _) ((kd₀ _ (nth_mem hk3)).ch (X := []) (fun b o _ e => hkp b o e) (fun _ m => nomatch m)).at ((kd₀ _ (nth_mem (i := (k - 1) / 2) (by omega))).ch (X := []) (fun b o _ e => hkp b o e) (fun _ m => nomatch m)).at ?_
    refine wpAny_truthy_bool ⟨rfl, ⟨_, _, rfl, fun _ _ e => e⟩⟩
  · intro D s₁ ys g₁ hD y₁ i₁ p₁ c₁
    have c₁' : Ch [L] s.heap s₁.heap := c₀'.nil.trans c₁
    have g₁' : Go s s₁ := g₀'.trans g₁
    have hHn : s₀.heap.get? H ≠ none := by obtain ⟨o, e, _⟩ := c₀'.isList (nl _) hl; rw [e]; simp
    have hDH : D ≠ H := fun q => hHn (q ▸ hD)
    have hDL : D ≠ L := fun q => by
      obtain ⟨o, _, _, e, _⟩ := p₀.frm
      rw [q, e] at hD; cases hD
    have l₁ := c₁'.isList (not_mem_one hHL) hl
    have nL1 : L + 1 ≠ L := Nat.ne_of_gt (Nat.lt_succ_self _)
    have nL2 : L + 1 + 1 ≠ L := Nat.ne_of_gt (Nat.lt_succ_of_lt (Nat.lt_succ_self _))
    have a1 := c₁'.isCell (not_mem_one nL1) e1
    have a2 := c₁'.isCell (not_mem_one nL2) e2
    have kd₁ : ∀ v ∈ vs, Kd s₁.heap key v := fun v hv => (hI v hv).ch c₁' (fun b m => by rw [List.mem_singleton.mp m]; exact nIL v hv)
    have kX₁ : Kd s₁.heap key X := hX.ch c₁' (fun b m => by rw [List.mem_singleton.mp m]; exact nXL)
    have hylen : ys.length ≤ vs.length := by
      rw [i₁.length, List.length_map]
      exact Nat.le_trans (filt_length_le _ _ _) (by omega)
    clear hHn kd₀ p₀
    refine wpAny_execs_cons ?_
    refine wpAny_If ?_
    refine wpAny_isTrue_Compare1 ?_
    refine Fm.ld p₁ rfl ?_
    refine List_ ?_
    refine args_nil ?_
    refine newL (by simp) fun s₂ D2 g₂ hD2 y₂ c₂ => ?_
    have p₂ := p₁.ch c₂ (nl _) (fun _ m => nomatch m)
    refine ke_ne_ints (c₂.plain (nl _) y₁).isList y₂.isList i₁ .nil (by omega) ?_
    refine wpAny_truthy_bool ?_
    have l₂ := c₂.isList (nl _) l₁
    have b1 := c₂.isCell (nl _) a1
    have b2 := c₂.isCell (nl _) a2
    have kd₂ : ∀ v ∈ vs, Kd s₂.heap key v := fun v hv => (kd₁ v hv).ch c₂ (fun _ m => nomatch m)
    have kX₂ : Kd s₂.heap key X := kX₁.ch c₂ (fun _ m => nomatch m)
    have z₂ := c₂.plain (nl _) y₁
    have c₂' : Ch [H, L] s.heap s₂.heap := (c₁'.mono fun b m => by simp at m ⊢; exact .inr m).trans c₂.nil
    have g₂' := g₁'.trans g₂
    have hfs : Frs s₂.heap (tkEnv L f cd :: outer) := by
      obtain ⟨oL, es, ep, hL, hLd⟩ := p₂.frm
      refine ⟨rfl, ⟨L, oL, es, ep, rfl, hL, hLd⟩, hf.chg c₂' fun b m q => ?_⟩
      rcases List.mem_cons.mp m with z | z
      · exact hf.notList hl (z ▸ q)
      · exact hol (List.mem_singleton.mp z ▸ q)
    clear c₂ y₂ g₂ kX₁ kd₁ a1 a2 l₁ p₁ y₁
    rcases alt with ⟨t, row2, at1, at2, at3, at4, at5, at6⟩ | ⟨at1, at2, at3⟩ | ⟨at1, at2, i, at3, at4, at5, at6⟩
    · have hfl : filt (st + 1) (vs.length - (st + 1)) (fun k => decide (nth vs k = nth vs ((k - 1) / 2))) = t :: filt (t + 1) (vs.length - (st + 1) - (t - (st + 1)) - 1) (fun k => decide (nth vs k = nth vs ((k - 1) / 2))) := by
        have := filt_first (a := st + 1) (n := vs.length - (st + 1)) (i := t - (st + 1)) (pz := fun k => decide (nth vs k = nth vs ((k - 1) / 2))) (by omega) (fun k k1 k2 => by simpa using at4 k (by omega) (by omega)) (by
          rw [show st + 1 + (t - (st + 1)) = t by omega]; simpa using at3)
        rw [show st + 1 + (t - (st + 1)) = t by omega] at this
        exact this
      rw [hfl, List.map_cons] at i₁ ⊢
      obtain ⟨tt, hz0, hzl⟩ := IntsAre.head i₁
      rw [show decide ((((t : Nat) : Int) :: List.map (fun k => ((k : Nat) : Int)) (filt (t + 1) (vs.length - (st + 1) - (t - (st + 1)) - 1) (fun k => decide (nth vs k = nth vs ((k - 1) / 2))))) = []) = false from decide_eq_false (by simp)]
      simp only [Bool.not_false, if_true]
      -- row[twice[0]] = new
      refine wpAny_execs_cons ?_
      refine wpAny_Assign_Subscript ?_
      refine ldc b2 ?_
      refine ldc b1 ?_
      refine Subscript_ ?_
      refine Fm.ld p₂ rfl ?_
      refine wpAny_Constant_int ?_
      refine getAt (s := Shared.mk _ _ _ _ _) z₂.isList (by decide) hzl (by omega) ?_
      rw [show (0 : Int).toNat = 0 from rfl, hz0]
      refine setAt (s := Shared.mk _ _ _ _ _) l₂ (by omega) (by omega) (by omega) fun s₃ g₃ l₃ c₃ => ?_
      rw [Int.toNat_natCast] at l₃
      dsimp only
      have hHL2 : H ∉ [L] := not_mem_one hHL
      have n1 : L + 1 ∉ [H] := not_mem_one (Nat.ne_of_gt (Nat.lt_succ_of_lt hLH))
      have n2 : L + 1 + 1 ∉ [H] := not_mem_one (Nat.ne_of_gt (Nat.lt_succ_of_lt (Nat.lt_succ_of_lt hLH)))
      have n0 : L ∉ [H] := not_mem_one (Ne.symm hHL)
      have nz : ∀ b ∈ [H], h₀.get? b = none := fun b m => by rw [List.mem_singleton.mp m]; exact nH0
      have nf : ∀ b ∈ [H], b ∈ (tkEnv L f cd :: outer).filterMap (·.frame) → False := fun b m q => hfs.notList l₂ (List.mem_singleton.mp m ▸ q)
      have p₃ := p₂.ch c₃ n0 nz
      have z₃ := c₃.plain (not_mem_one hDH) z₂
      have kd₃ : ∀ v ∈ vs.set t X, Kd s₃.heap key v := fun v hv => by
        rcases List.mem_or_eq_of_mem_set hv with h | h
        · exact (kd₂ v h).ch c₃ (fun b m => by rw [List.mem_singleton.mp m]; exact nIH v h)
        · rw [h]; exact kX₂.ch c₃ (fun b m => by rw [List.mem_singleton.mp m]; exact nXH)
      have ni₃ : ∀ v ∈ vs.set t X, v ≠ .ref H := fun v hv => by
        rcases List.mem_or_eq_of_mem_set hv with h | h
        · exact nIH v h
        · rw [h]; exact nXH
      have b13 := c₃.isCell n1 b1
      -- _siftup(row, twice[0])
      refine wpAny_execs_cons ?_
      refine wpAny_Expr ?_
      refine Call_ ?_
      refine globX G p₃.keep q1 ?_
      refine callWith_def q3 ?_
      refine args_cons ?_
      refine ldc b13 ?_
      refine args_cons ?_
      refine Subscript_ ?_
      refine Fm.ld p₃ rfl ?_
      refine wpAny_Constant_int ?_
      refine getAt (s := Shared.mk _ _ _ _ _) z₃.isList (by decide) hzl (by omega) ?_
      rw [show (0 : Int).toNat = 0 from rfl, hz0]
      refine args_nil ⟨p₃.keep _ _ q2, ?_⟩
      refine wpAny_call (su_call (s := Shared.mk _ _ _ _ _) G p₃.keep p₃.sz q2 q3 q4 hroom l₃ nH0 (fun v hv => (kd₃ v hv).itm (ni₃ v hv)) (by rw [List.length_set]; exact at2) (by rw [List.length_set]; omega) hh (by omega) hfr (hfs.chg c₃ nf) (fun us s₄ g₄ e₄ l₄ k₄ => ?_) (fun us s₄ h₁ fs e g₄ e₄ _ _ _ _ _ => ?_))
      · rw [at5] at e₄
        cases e₄
        dsimp only
        have c₄ : Ch [H] s₃.heap s₄.heap := fun b o n e => k₄ b o (fun q => n (by rw [q]; simp)) e
        have p₄ := p₃.ch c₄ n0 nz
        have z₄ := c₄.plain (not_mem_one hDH) z₃
        have hk3 : AllK key (vs.set t X) := fun v hv => (kd₃ v hv).key
        obtain ⟨us', w1, w2, w3⟩ := siftup_tot (pos := t) hk3 (by rw [List.length_set]; exact at2)
        rw [at5] at w1
        cases w1
        have kd₄ : ∀ v ∈ row2, Kd s₄.heap key v := fun v hv => (kd₃ v (w3 v hv)).ch c₄ (fun b m => by rw [List.mem_singleton.mp m]; exact ni₃ v (w3 v hv))
        -- _siftdown(row, start, twice[0])
        refine wpAny_execs_cons ?_
        refine wpAny_Expr ?_
        refine Call_ ?_
        refine globX G p₄.keep r1 ?_
        refine callWith_def r3 ?_
        refine args_cons ?_
        refine ldc (c₄.isCell n1 b13) ?_
        refine args_cons ?_
        refine Fm.ld p₄ l2 ?_
        refine args_cons ?_
        refine Subscript_ ?_
        refine Fm.ld p₄ rfl ?_
        refine wpAny_Constant_int ?_
        refine getAt (s := Shared.mk _ _ _ _ _) z₄.isList (by decide) hzl (by omega) ?_
        rw [show (0 : Int).toNat = 0 from rfl, hz0]
        refine args_nil ⟨p₄.keep _ _ r2, ?_⟩
        refine wpAny_call (sd_call (s := Shared.mk _ _ _ _ _) G p₄.keep p₄.sz r2 r3 r4 (by omega) l₄ nH0 (fun v hv => (kd₄ v hv).itm (ni₃ v (w3 v hv))) (by rw [w2, List.length_set]; exact at2) (by rw [w2, List.length_set]; omega) hh (by omega) hfr ((hfs.chg c₃ nf).chg c₄ nf) (fun us2 s₅ g₅ e₅ l₅ k₅ => ?_) (fun us2 s₅ h₁ e g₅ e₅ _ _ _ => ?_))
        · rw [at6] at e₅
          cases e₅
          dsimp only
          refine wpAny_execs_nil ?_
          dsimp only
          refine wpAny_execs_nil ?_
          exact hok s₅ (g₂'.trans ((Go.trans ⟨_, _, rfl⟩ g₃).trans ((Go.trans ⟨_, _, rfl⟩ g₄).trans (Go.trans ⟨_, _, rfl⟩ g₅)))) l₅
            (c₂'.trans ((c₃.trans c₄).mono (fun b m => by simp at m ⊢; exact .inl m) |>.trans fun b o n e => k₅ b o (fun q => n (by rw [q]; simp)) e))
        · rw [at6] at e₅; cases e₅
      · rw [at5] at e₄; cases e₄
    · have hfl : filt (st + 1) (vs.length - (st + 1)) (fun k => decide (nth vs k = nth vs ((k - 1) / 2))) = [] := filt_nil fun k k1 k2 => by simpa using at1 k (by omega) (by omega)
      rw [hfl]
      simp only [List.map_nil, decide_true, Bool.not_true, Bool.false_eq_true, if_false]
      refine wpAny_execs_cons ?_
      refine wpAny_If ?_
      refine wpAny_isTrue_Compare1 ?_
      refine Subscript_ ?_
      refine ldc b1 ?_
      refine Fm.ld p₂ l2 ?_
      refine getAt l₂ (by omega) (by omega) (by omega) ?_
      rw [Int.toNat_natCast]
      refine ldc b2 ?_
      refine isV (kd₂ _ (nth_mem hst)).at kX₂.at ?_
      refine wpAny_truthy_bool ?_
      rw [decide_eq_true at2]
      simp only [if_true]
      refine wpAny_execs_cons ?_
      refine wpAny_Expr ?_
      refine Call_ ?_
      refine globX G p₂.keep q1 ?_
      refine callWith_def q3 ?_
      refine args_cons ?_
      refine ldc b1 ?_
      refine args_cons ?_
      refine Fm.ld p₂ l2 ?_
      refine args_nil ⟨p₂.keep _ _ q2, ?_⟩
      refine wpAny_call (su_call G p₂.keep p₂.sz q2 q3 q4 hroom l₂ nH0 (fun v hv => (kd₂ v hv).itm (nIH v hv)) hst (by omega) hh (by omega) hfr hfs (fun us s₃ g₃ e₃ l₃ k₃ => ?_) (fun us s₃ h₁ fs e g₃ e₃ _ _ _ _ _ => ?_))
      · rw [at3] at e₃
        cases e₃
        dsimp only
        refine wpAny_execs_nil ?_
        dsimp only
        refine wpAny_execs_nil ?_
        dsimp only
        refine wpAny_execs_nil ?_
        exact hok s₃ (g₂'.trans g₃) l₃ (c₂'.trans fun b o n e => k₃ b o (fun q => n (by rw [q]; simp)) e)
      · rw [at3] at e₃; cases e₃
    · have hfl : filt (st + 1) (vs.length - (st + 1)) (fun k => decide (nth vs k = nth vs ((k - 1) / 2))) = [] := filt_nil fun k k1 k2 => by simpa using at1 k (by omega) (by omega)
      rw [hfl]
      simp only [List.map_nil, decide_true, Bool.not_true, Bool.false_eq_true, if_false]
      refine wpAny_execs_cons ?_
      refine wpAny_If ?_
      refine wpAny_isTrue_Compare1 ?_
      refine Subscript_ ?_
      refine ldc b1 ?_
      refine Fm.ld p₂ l2 ?_
      refine getAt l₂ (by omega) (by omega) (by omega) ?_
      rw [Int.toNat_natCast]
      refine ldc b2 ?_
      refine isV (kd₂ _ (nth_mem hst)).at kX₂.at ?_
      refine wpAny_truthy_bool ?_
      rw [decide_eq_false at2]
      simp only [Bool.false_eq_true, if_false]
      refine wpAny_execs_cons ?_
      refine wpAny_Expr ?_
      refine Call_ ?_
      refine globX G p₂.keep r1 ?_
      refine callWith_def r3 ?_
      refine args_cons ?_
      refine ldc b1 ?_
      refine args_cons ?_
      refine Fm.ld p₂ l2 ?_
      refine args_cons ?_
      refine Subscript_ ?_
      refine lc_range (fun k => decide (nth vs k = X)) ?_ hh
      refine Call_ ?_
      refine bltX G p₂.keep PyProof.Rows.boot_range ?_
      refine PyProof.Rows.callWith_type1 ?_
      refine args_cons ?_
      refine Call_ ?_
      refine bltX G p₂.keep boot_len ?_
      refine PyProof.Rows.callWith_builtin1 ?_
      refine args_cons ?_
      refine ldc b1 ?_
      refine args_nil ?_
      refine Calls.call_len_list l₂ (by rw [List.size_toArray]; omega) ?_
      rw [List.size_toArray]
      refine args_nil ?_
      refine rng1 vs.length rfl fun s₃ r tr ur vr g₃ hr c₃ => ?_
      have c₃' : Ch [] s₂.heap s₃.heap := c₃
      have g₃' : Go s₂ s₃ := Go.trans ⟨_, _, rfl⟩ g₃
      clear c₃ g₃
      refine ⟨r, 0, vs.length, _, _, _, rfl, hr, by omega, ?_, ?_⟩
      · intro C k t s₄ m₄ E' hC hk1 hk2 hns hm hkp
        have c₄ : Ch [] s₂.heap s₄.heap := fun b o n e => hkp b o (c₃' b o n e)
        refine wpAny_isTrue_Compare1 ?_
        refine Subscript_ ?_
        refine ldcE (c₄.isCell (nl _) b1) ?_
        refine ldE hns hm ?_
        refine getAt (c₄.isList (nl _) l₂) (by omega) (by omega) (by omega) ?_
        rw [Int.toNat_natCast]
        refine ldcE (c₄.isCell (nl _) b2) ?_
        refine isV ((kd₂ _ (nth_mem (by omega))).ch c₄ (fun _ m => nomatch m)).at (kX₂.ch c₄ (fun _ m => nomatch m)).at ?_
        exact wpAny_truthy_bool ⟨rfl, ⟨_, _, rfl, fun _ _ e => e⟩⟩
      · intro D3 s₄ zs g₄ hD3 y₄ i₄ c₄
        have hf3 : filt 0 vs.length (fun k => decide (nth vs k = X)) = i :: filt (0 + i + 1) (vs.length - i - 1) (fun k => decide (nth vs k = X)) := by
          have := filt_first (a := 0) (n := vs.length) (i := i) (pz := fun k => decide (nth vs k = X)) at3 (fun k k1 k2 => by simpa using at5 k (by omega)) (by simpa using at4)
          rw [Nat.zero_add] at this ⊢
          exact this
        rw [hf3, List.map_cons] at i₄
        obtain ⟨ti, hz0, hzl⟩ := IntsAre.head i₄
        have c₄' : Ch [] s₂.heap s₄.heap := c₃'.trans c₄
        have p₄ := p₂.ch c₄' (nl _) (fun _ m => nomatch m)
        have hzs : zs.length ≤ vs.length := by
          have := i₄.length
          rw [← List.map_cons, ← hf3, List.length_map] at this
          rw [this]; exact filt_length_le _ _ _
        refine wpAny_Constant_int ?_
        refine getTmp (s := Shared.mk _ _ _ _ _) y₄.isList (by decide) hzl (by omega) ?_
        rw [show (0 : Int).toNat = 0 from rfl, hz0]
        refine args_nil ⟨p₄.keep _ _ r2, ?_⟩
        refine wpAny_call (sd_call (s := Shared.mk _ _ _ _ _) G p₄.keep p₄.sz r2 r3 r4 (by omega) (c₄'.isList (nl _) l₂) nH0 (fun v hv => ((kd₂ v hv).ch c₄' (fun _ m => nomatch m)).itm (nIH v hv)) at3 (by omega) hh (by omega) hfr (hfs.chg c₄' (fun _ m => nomatch m)) (fun us s₅ g₅ e₅ l₅ k₅ => ?_) (fun us s₅ h₁ e g₅ e₅ _ _ _ => ?_))
        · rw [at6] at e₅
          cases e₅
          dsimp only
          refine wpAny_execs_nil ?_
          dsimp only
          refine wpAny_execs_nil ?_
          dsimp only
          refine wpAny_execs_nil ?_
          exact hok s₅ (g₂'.trans (g₃'.trans (g₄.trans (Go.trans ⟨_, _, rfl⟩ g₅)))) l₅ (c₂'.trans (c₄'.nil.trans fun b o n e => k₅ b o (fun q => n (by rw [q]; simp)) e))
        · rw [at6] at e₅; cases e₅

theorem tk_call {R : Result → Shared → Prop} {o : Obj} {pm doc : Value} {st : Nat} {t1 : Tok} {X : Value} (G : Gd h₀ mg mb) (k₀ : ∀ b o, h₀.get? b = some o → s.heap.get? b = some o) (hsz : h₀.objs.size ≤ s.heap.objs.size)
    (ho : h₀.get? f = some o) (hdat : o.data = .func (Calls.docDef "_law_take_up" tkParams tkBody tkScope pm cd doc)) (hcd : h₀.CodeRec cd "_law_take_up")
    (hroom : A.depth + 2 < recursionLimit) (hl : s.heap.IsList H vs.toArray) (nH0 : h₀.get? H = none) (hI : ∀ v ∈ vs, Kd s.heap key v) (hX : Kd s.heap key X) (nIH : ∀ v ∈ vs, v ≠ .ref H) (nXH : X ≠ .ref H) (hst : st < vs.length) (hn : vs.length < 2 ^ 19)
    (hh : A.handled = none) (hu : A.units + 103 < cLine) (hfr : A.frames = some outer) (hf : Frs s.heap outer) (alt : Alt (ltK key) vs st X W)
    (hok : ∀ s', Go s s' → s'.heap.IsList H W.toArray → Ch [H] s.heap s'.heap → R (.ok (.ret .none)) s') :
    codeAny (model pw w) A (.call (.ref f) ⟨[.ref H, .int st t1, X], []⟩) R s := by
  refine codeAny_call_function (fd := Calls.docDef "_law_take_up" tkParams tkBody tkScope pm cd doc) (body := tkBody) (by omega) (k₀ _ _ ho) hdat rfl rfl rfl (hcd.keeps k₀) ?_
  have hb : bindArgs (Calls.docDef "_law_take_up" tkParams tkBody tkScope pm cd doc) ⟨[.ref H, .int st t1, X], []⟩ = pure ([("row", .ref H), ("start", .int st t1), ("new", X)] : List (Str × Value)) := rfl
  rw [hb]
  refine wpAny_pure ?_
  refine wpAny_newFunctionEnv_cells rfl (kindsX rfl _) fun env' he s' x => ?_
  have hE : env' = tkEnv s.heap.objs.size f cd := he
  subst hE
  obtain ⟨h₁, tk, rfl, kp⟩ := x.done
  have hc1 := x.cell "row" (s.heap.objs.size + 1) rfl
  have hc2 := x.cell "new" (s.heap.objs.size + 1 + 1) rfl
  have hns := x.toInCall.ns
  have nl : ∀ b : Addr, b ∉ ([] : List Addr) := fun _ m => nomatch m
  have c₁ : Ch [] s.heap h₁ := fun b o _ e => kp b o e
  have p : Fm h₀ s.heap.objs.size [("start", .int st t1)] h₁ := ⟨_, ⟨hns, fun b o e => kp b o (k₀ b o e), hsz⟩, Lk.add Lk.nil rfl⟩
  refine ⟨(G.lim.keeps k₀).keeps kp, codeAny_func ?_⟩
  have hfr' : (A.deeper (tkEnv s.heap.objs.size f cd)).frames = some (tkEnv s.heap.objs.size f cd :: outer) := Around.frames_deeper hfr
  have nL : ∀ b o, s.heap.get? b = some o → b ≠ s.heap.objs.size := fun b o e => Nat.ne_of_lt (Heap.lt_size e)
  refine tk_body (s := { s with heap := h₁, toks := tk }) G p rfl hc1 hc2 (c₁.isList (nl _) hl) nH0 (sizeOf_list hl) (fun v hv => (hI v hv).ch c₁ (fun _ m => nomatch m)) (hX.ch c₁ (fun _ m => nomatch m)) nIH nXH (fun v hv => (hI v hv).ne (Nat.le_refl _)) (hX.ne (Nat.le_refl _)) hst hn hh (by show A.units + 3 + 100 < cLine; omega) (by show A.depth + 1 + 1 < recursionLimit; omega) hfr'
    (hf.chg c₁ (fun _ m => nomatch m)) (fun m => ?_) alt (fun s' g l c => ?_)
  · obtain ⟨o, _, _, e, _⟩ := hf.mem m
    exact Nat.lt_irrefl _ (Heap.lt_size e)
  · refine hok s' (Go.trans ⟨_, _, rfl⟩ g) l (fun b o n e => c b o (fun m => ?_) (kp b o e))
    rcases List.mem_cons.mp m with q | q
    · exact n (by rw [q]; simp)
    · exact nL b o e (List.mem_singleton.mp q)
end
end Mine
end PartW3
section PartW4
set_option maxHeartbeats 400000
namespace Mine
section
variable {prog : Program} {w : World} {A : Around} {E : Value → Shared → Prop}
theorem bltE {env : Env} {s : Shared} {h₀ : Heap} {mg mb : Str → Option Value} {x : Str} {pos : Pos} {v : Value} {Q : Value → Shared → Prop} (G : Gd h₀ mg mb) (k : ∀ b o, h₀.get? b = some o → s.heap.get? b = some o) (hb : bootBuiltins x = some v) (h : Q v s)
    (hin : x ∈ (["len", "range", "reversed", "abs", "sorted", "set", "list", "sum", "min", "max", "TypeError"] : List Str) := by decide)
    (hk : env.scope.kind = .function := by rfl) (hx : env.kindOf x = some .globalImplicit := by rfl) (hg : env.globals = mainGlobals := by rfl) (hbn : env.builtins = builtinsNs := by rfl) (hn : x ≠ "__name__" := by decide)
    (hd : (x == ("__debug__" : Str)) = false := by decide) : wpAny (model prog w) A (eval (.Name x pos) env) Q E s :=
  Calls.Name_function_global hk hx (Calls.loadGlobal_builtin (env := env) (by rw [hg]; exact G.g.keeps k) (G.no x hin) (by rw [hbn]; exact G.b.keeps k) ((G.bt x hn).trans hb) h) hd

/-- y = [elt for x in xs], each elt a new list -/
theorem as_lists {s : Shared} {elt iter : Expr} {x y : Str} {px py : Pos} {scope cs : Scope} {cl0 cl : List (Str × Addr)} {pos spos : Pos} {cn : Str} {L f : Addr} {cd : Value} {h₀ : Heap} {Q : Flow → Shared → Prop} (Gv : Value → Array Value → Prop)
    (h : wpAny (model prog w) A (eval iter (envX cn cs L f cd cl0)) (fun xv s₁ => ∃ l items bs, xv = .ref l ∧ s₁.heap.IsList l items ∧ items.size ≤ 2 ^ 20 ∧ Fm h₀ L bs s₁.heap ∧
      (∀ C v s₃ m₃ E', s₁.heap.objs.size ≤ C → v ∈ items.toList → s₃.heap.Ns C m₃ → m₃ x = some v → (∀ b o, s₁.heap.get? b = some o → s₃.heap.get? b = some o) →
        wpAny (model prog w) A (eval elt (compEnvC scope cl C (envX cn cs L f cd cl0))) (fun y s₄ => (∃ T its, y = .ref T ∧ s₃.heap.get? T = none ∧ s₄.heap.IsList T its ∧ Gv v its) ∧ Keeps s₃ s₄) E' s₃) ∧
      (∀ D s' ys, Go s₁ s' → s₁.heap.get? D = none → s'.heap.PlainList D (List.toArray ys) → Paired (LstIs s₁.heap Gv s'.heap) items.toList ys → ys.Pairwise (· ≠ ·) → (∀ y ∈ ys, y ≠ .ref D) →
        Fm h₀ L ((y, .ref D) :: bs) s'.heap → Ch [L] s₁.heap s'.heap → Q .next s')) E s)
    (hh : A.handled = none)
    (hsw : swapsWith (.ListComp elt [⟨.Name x px, iter, [], 0⟩] scope pos) (some (.Name y py)) spos.line (envX cn cs L f cd cl0) = pure true := by rfl)
    (hclos : closureFor scope (envX cn cs L f cd cl0) = pure cl := by rfl) (hcell : ∀ y ∈ scope.names, y.2 ≠ .cell := by decide) (hkind : scope.kind = .function := by rfl)
    (hnames : ∀ y ∈ scope.names, y.2 = .local → scope.names.lookup y.1 = some .local := by decide) (hx : scope.names.lookup x = some .local := by rfl)
    (hy : (envX cn cs L f cd cl0).kindOf y = some .local := by rfl) (hck : cs.kind = .function := by rfl)
    (hs : ∀ x, foldedSetIterable iter (envX cn cs L f cd cl0) x = pure x := by intro _; rfl) :
    wpAny (model prog w) A (exec (.Assign [.Name y py] (.ListComp elt [⟨.Name x px, iter, [], 0⟩] scope pos) spos) (envX cn cs L f cd cl0)) Q E s := by
  rw [exec_Assign_Name_used _ _ _ _ hsw]
  refine wpAny_bind (wpAny_standAt (wpAny_bind ?_))
  show wpAny _ A (do let _ ← comprehension (.ListComp elt [⟨.Name x px, iter, [], 0⟩] scope pos) scope (envX cn cs L f cd cl0) _ (newList []) false (eval iter (envX cn cs L f cd cl0)) (some (assign (.Name y py) (envX cn cs L f cd cl0)))) _ _ s
  refine wpAny_bind (wpAny_mono (wpAny_comprehension_free (use := some (assign (.Name y py) (envX cn cs L f cd cl0))) (Q := fun _ s' => Q .next s') rfl hs hclos hkind hnames
    (wpAny_mono h (fun xv s₁ h₁ => ?_) fun _ _ e => e)) (fun _ s' hq => wpAny_pure (wpAny_pure hq)) fun _ _ e => e)
  obtain ⟨l, items, bs, rfl, hl, hz, p, T, k⟩ := h₁
  refine wpAny_pyIter_list hl ?_
  have hlI : l ≠ s₁.heap.objs.size := Nat.ne_of_lt (sizeOf_list hl)
  have c₂ : Ch [] s₁.heap (s₁.heap.push { cls := .type "list_iterator", data := .fields #[.ref l, .int 0 0] }) := Ch.push
  have hk₂ : ∀ b o, s₁.heap.get? b = some o → (s₁.heap.push { cls := .type "list_iterator", data := .fields #[.ref l, .int 0 0] }).get? b = some o := fun b o e => c₂ b o (fun m => nomatch m) e
  have hz₂ : (s₁.heap.push { cls := .type "list_iterator", data := .fields #[.ref l, .int 0 0] }).objs.size = s₁.heap.objs.size + 1 := Heap.size_push ..
  have hit : (s₁.heap.push { cls := .type "list_iterator", data := .fields #[.ref l, .int 0 0] }).IsListIter s₁.heap.objs.size l 0 := ⟨_, Heap.get?_push_size _ rfl, rfl, rfl⟩
  generalize s₁.heap.push { cls := .type "list_iterator", data := .fields #[.ref l, .int 0 0] } = h₂ at *
  obtain ⟨m, F, lk⟩ := p.ch c₂ (fun m => nomatch m) (fun _ m => nomatch m)
  have hnI : ∀ b o, s₁.heap.get? b = some o → b ∉ [s₁.heap.objs.size] := fun b o e m => by
    rw [List.mem_singleton.mp m] at e
    exact Nat.lt_irrefl _ (Heap.lt_size e)
  refine comp_block_walkCO (s₂ := { s₁ with heap := h₂ }) (RR := fun acc C => compPost (model prog w) A E (some (assign (.Name y py) (envX cn cs L f cd cl0))) (fun _ s' => Q .next s') acc C) (Walks.list (prog := prog) (w := w) hh s₁.heap.objs.size l hlI items) (by rw [sizeLine_eq]; omega) (fun _ => true) Gv
    ?_ hcell hkind hx ⟨hit, c₂.isList (fun m => nomatch m) hl⟩ ?_ ⟨?_, ?_⟩ ?_
  · rintro i h ⟨⟨o, e, _⟩, _⟩ b hb
    rw [List.mem_singleton.mp hb]
    exact ⟨o, e⟩
  · intro b hb
    show b < h₂.objs.size
    rw [hz₂]
    rcases List.mem_cons.mp hb with q | q
    · rw [q]; exact Nat.lt_succ_self _
    · rw [List.mem_singleton.mp q]; exact Nat.lt_succ_of_lt (sizeOf_list hl)
  · intro C i v s₃ m₃ E' hC hv hns hm hkp _
    exact wpAny_tests_nil ⟨rfl, ⟨_, _, rfl, fun _ _ e => e⟩⟩
  · intro C i v s₃ m₃ E' hC hv _ hns hm hkp _
    refine T C v s₃ m₃ E' (Nat.le_trans (Nat.le_succ _) (by have q : h₂.objs.size ≤ C := hC; rw [hz₂] at q; exact q)) (by
      have := Array.mem_of_getElem? hv
      simpa using this) hns hm fun b o e => hkp b o (hnI b o e) (hk₂ b o e)
  · intro D C h' tk m' ys vs hD hC hDC hnC hlD hplD hlen hP hF hnd hkp
    have hvs : vs = items.toList := by
      apply List.ext_getElem?
      intro j
      by_cases hj : j < vs.length
      · have := hP j vs[j] (List.getElem?_eq_getElem hj)
        rw [List.getElem?_eq_getElem hj, Array.getElem?_toList, this]
      · rw [List.getElem?_eq_none (by omega), List.getElem?_eq_none (by rw [Array.length_toList]; omega)]
    have hft : vs.filter (fun _ => true) = vs := List.filter_eq_self.mpr fun _ _ => rfl
    rw [hft, hvs] at hF
    have hLn : h₂.get? L ≠ none := by obtain ⟨oL, _, _, ho, _⟩ := F.ns; rw [ho]; simp
    have hLC : L ≠ C := fun q => hLn (q ▸ hC)
    have hLD : L ≠ D := fun q => hLn (q ▸ hD)
    show wpAny _ A (assign (.Name y py) (envX cn cs L f cd cl0) (.ref D)) _ _ _
    have hLI : L ∉ [s₁.heap.objs.size] := not_mem_one (Nat.ne_of_lt p.lt)
    refine wpAny_assign_Name (wpAny_storeName_local hy (F.ns.at' fun o e => hkp _ o hLI e) (fun h₃ hn₃ hs₃ => ?_) (by show (cs.kind == .class || (cs.kind == .module && L != mainGlobals)) = false; rw [hck]; rfl))
    refine ⟨m', hnC.sameBut hs₃ (Ne.symm hLC), fun h₄ hs₄ => ?_⟩
    have up : ∀ b o, b ≠ L → s₁.heap.get? b = some o → h₄.get? b = some o := fun b o n e => by
      have e2 := hk₂ b o e
      exact hs₄.extBut b o (fun q => by rw [q, hC] at e2; cases e2) (hs₃.extBut b o n (hkp b o (hnI b o e) e2))
    have hDn : s₁.heap.get? D = none := by
      cases q : s₁.heap.get? D with
      | none => rfl
      | some o => rw [hk₂ D o q] at hD; cases hD
    refine k D _ ys.toList ⟨_, _, rfl⟩ hDn ?_ ?_ hnd ?_ ⟨_, ⟨hn₃.sameBut hs₄ hLC, fun b o e => up b o (fun q => by rw [q, base_none p.ge] at e; cases e) (p.keep b o e), p.ge⟩, lk.put y _⟩ (fun b o n e => up b o (fun q => n (by rw [q]; simp)) e)
    · exact by simpa using ((hplD.extBut hs₃.extBut (Ne.symm hLD)).extBut hs₄.extBut hDC)
    · refine hF.mono fun _ _ hy => ?_
      obtain ⟨T', its, rfl, h1, hTC, _, _, hlT, hG⟩ := hy
      have hTL : T' ≠ L := fun q => hLn (q ▸ h1)
      refine ⟨T', its, rfl, ?_, (hlT.extBut hs₃.extBut hTL).extBut hs₄.extBut hTC, hG⟩
      cases q : s₁.heap.get? T' with
      | none => rfl
      | some o => rw [hk₂ T' o q] at h1; cases h1
    · intro y hy e
      obtain ⟨_, T', _, e', _, _, _, hTD, _, _⟩ := Paired.right hF y hy
      rw [e] at e'; cases e'; exact hTD rfl
end
end Mine
end PartW4
section PartW5
set_option maxHeartbeats 400000
namespace Mine
def lwParams : Arguments := match pw.main.body with | _ :: _ :: _ :: _ :: _ :: _ :: _ :: _ :: .FunctionDef _ p _ _ _ _ _ _ _ _ :: _ => p | _ => default
def lwBody : List Stmt := match pw.main.body with | _ :: _ :: _ :: _ :: _ :: _ :: _ :: _ :: .FunctionDef _ _ b _ _ _ _ _ _ _ :: _ => b | _ => []
def lwScope : Scope := match pw.main.body with | _ :: _ :: _ :: _ :: _ :: _ :: _ :: _ :: .FunctionDef _ _ _ _ _ _ sc _ _ _ :: _ => sc | _ => default
abbrev lwEnv (L f : Addr) (cd : Value) : Env := envX "law" lwScope L f cd [("row", L + 1 + 1 + 1), ("whole", L + 1 + 1), ("script", L + 1)]
def lwS0 : Stmt := match lwBody with | a :: _ => a | _ => .Pass default
def lwS2 : Stmt := match lwBody with | _ :: _ :: a :: _ => a | _ => .Pass default

theorem add_two {prog : Program} {w : World} {A : Around} {E : Value → Shared → Prop} {s : Shared} {l b : Addr} {vs ws : List Value} {Q : Value → Shared → Prop} (hl : s.heap.IsList l vs.toArray) (hb : s.heap.IsList b ws.toArray) (hsz : vs.length + ws.length ≤ 2 ^ 20)
    (h : ∀ s' D, Go s s' → D = s.heap.objs.size → s'.heap.PlainList D (vs ++ ws).toArray → Ch [] s.heap s'.heap → Q (.ref D) s') : wpAny (model prog w) A (binaryOp .Add (.ref l) (.ref b)) Q E s := by
  obtain ⟨⟨cls, dd, data, sl⟩, ho, hc, n, hd⟩ := id hl
  obtain ⟨⟨cls2, dd2, data2, sl2⟩, ho2, hc2, n2, hd2⟩ := id hb
  simp only at hc hd hc2 hd2
  subst hc hd hc2 hd2
  refine concat_meets ⟨_, ho, rfl⟩ ⟨_, ho2, rfl⟩ noFill_list_add seq_list_add PySem.F.slot_list_add PySem.F.entry_list_add (PySem.F.args_list_add_2 _ _) (list_addW l b vs.toArray ws.toArray n n2 dd dd2 sl sl2 (by rw [sizeLine_eq]; simp; omega)) ⟨ho, ho2, ?_⟩
  exact h _ _ ⟨_, _, rfl⟩ rfl ⟨0, by simpa using Heap.get?_push_size s.heap (o := { cls := .type "list", data := .seq (vs.toArray ++ ws.toArray) }) rfl⟩ Ch.push

theorem min30 {prog : Program} {w : World} {A : Around} {E : Value → Shared → Prop} {s : Shared} {n : Nat} {t u : Tok} {Q : Value → Shared → Prop} (hh : A.handled = none)
    (h : ∀ (N : Nat) tN s', N ≤ 30 → N ≤ n → Go s s' → Ch [] s.heap s'.heap → Q (.int (N : Int) tN) s') : wpAny (model prog w) A (call (.builtin "min") [.int 30 t, .int (n : Int) u]) Q E s := by
  refine min_two_ints hh fun h' tk hk => ?_
  by_cases q : ((n : Nat) : Int) < 30
  · rw [if_pos q]; exact h n u _ (by omega) (by omega) ⟨_, _, rfl⟩ (fun b o _ e => hk b o e)
  · rw [if_neg q]; exact h 30 t _ (by omega) (by omega) ⟨_, _, rfl⟩ (fun b o _ e => hk b o e)
theorem max0 {prog : Program} {w : World} {A : Around} {E : Value → Shared → Prop} {s : Shared} {x : Int} {t u : Tok} {Q : Value → Shared → Prop} (hh : A.handled = none)
    (h : ∀ tN s', Go s s' → Ch [] s.heap s'.heap → Q (.int ((x.toNat : Nat) : Int) tN) s') : wpAny (model prog w) A (call (.builtin "max") [.int 0 t, .int x u]) Q E s := by
  refine max_two_ints hh fun h' tk hk => ?_
  by_cases q : x > 0
  · rw [if_pos q]; have := h u { s with heap := h', toks := tk } ⟨_, _, rfl⟩ (fun b o _ e => hk b o e)
    rw [show ((x.toNat : Nat) : Int) = x by omega] at this; exact this
  · rw [if_neg q]; have := h t { s with heap := h', toks := tk } ⟨_, _, rfl⟩ (fun b o _ e => hk b o e)
    rw [show ((x.toNat : Nat) : Int) = 0 by omega] at this; exact this

theorem paired_ints : ∀ {l r : List Value}, Paired (fun (_ y : Value) => ∃ n t, y = .int n t) l r → ∃ ns, IntsAre r ns ∧ ns.length = l.length
  | _, _, .nil => ⟨[], .nil, rfl⟩
  | _, _, .cons ⟨n, t, e⟩ q => by
    obtain ⟨ns, i, h⟩ := paired_ints q
    subst e
    exact ⟨n :: ns, .cons n t i, by simp [h]⟩

section
variable {h₀ : Heap} {mg mb : Str → Option Value} {H L : Addr} {vs W : List Value} {bs : List (Str × Value)} {w : World} {A : Around} {E : Value → Shared → Prop} {s : Shared} {f : Addr} {cd : Value} {key : Value → Option Int} {outer : List Env}

theorem nums_st {S : Addr} {sv : List Value} {sn : List Int} {Q : Flow → Shared → Prop} (G : Gd h₀ mg mb) (p : Fm h₀ L bs s.heap) (e1 : s.heap.IsCell (L + 1) (some (.ref S))) (hS : s.heap.IsList S sv.toArray) (iS : IntsAre sv sn) (hlen : sv.length ≤ 63) (hh : A.handled = none)
    (hok : ∀ D s' ys ns, Go s s' → s.heap.get? D = none → s'.heap.PlainList D (List.toArray ys) → IntsAre ys ns → 6 ≤ ys.length → ys.length ≤ 36 → Fm h₀ L (("numbers", .ref D) :: bs) s'.heap → Ch [L] s.heap s'.heap → Q .next s') :
    wpAny (model pw w) A (exec lwS0 (lwEnv L f cd)) Q E s := by
  have nl : ∀ b : Addr, b ∉ ([] : List Addr) := fun _ m => nomatch m
  unfold lwS0 lwBody
  refine wpAny_Assign_Name ?_
  refine wpAny_BinOp ?_
  refine wpAny_ListComp_free (fun _ => true) (fun _ y => ∃ n t, y = .int n t) (cl := [("script", L + 1)]) rfl (by decide) rfl (by decide) rfl ?_ (by intro _; rfl)
  refine Call_ ?_
  refine bltX G p.keep PyProof.Rows.boot_range ?_
  refine PyProof.Rows.callWith_type1 ?_
  refine args_cons ?_
  refine Call_ ?_
  refine bltX G p.keep boot_min ?_
  refine PyProof.Rows.callWith_builtin1 ?_
  refine args_cons ?_
  refine wpAny_Constant_int ?_
  refine args_cons ?_
  refine Call_ ?_
  refine bltX (s := Shared.mk _ _ _ _ _) G p.keep boot_len ?_
  refine PyProof.Rows.callWith_builtin1 ?_
  refine args_cons ?_
  refine ldc (s := Shared.mk _ _ _ _ _) e1 ?_
  refine args_nil ?_
  refine Calls.call_len_list (s := Shared.mk _ _ _ _ _) hS (by rw [List.size_toArray]; omega) ?_
  rw [List.size_toArray]
  refine args_nil ?_
  refine min30 hh fun N tN s₁ hN _ g₁ c₁ => ?_
  refine args_nil ?_
  refine rng1 N rfl fun s₂ r tr ur vr g₂ hr c₂ => ?_
  have c₂' : Ch [] s.heap s₂.heap := fun b o n e => c₂ b o n (c₁ b o n e)
  have g₂' : Go s s₂ := Go.trans ⟨_, _, rfl⟩ (g₁.trans g₂)
  clear c₂ g₂ c₁ g₁
  refine range_iter hr (by omega) fun s₃ g₃ c₃ hz₃ hit => ?_
  have c₃' : Ch [] s.heap s₃.heap := c₂'.trans c₃
  refine ⟨_, _, _, N, _, _, rfl, walks_range hh _ 0 N, by rw [sizeLine_eq]; omega, ⟨Nat.zero_le _, hit⟩, ?_, ⟨?_, ?_⟩, ?_⟩
  · intro b m; rw [List.mem_singleton.mp m, hz₃]; exact Nat.lt_succ_self _
  · intro C i v s₄ m₄ E' hC hv hns hm hkp _
    exact wpAny_tests_nil ⟨rfl, ⟨_, _, rfl, fun _ _ e => e⟩⟩
  · rintro C i v s₄ m₄ E' hC ⟨hi, t, rfl⟩ _ hns hm hkp _
    have c₄ : Ch [] s.heap s₄.heap := fun b o n e => hkp b o (fun m => by
      have e2 := c₂' b o n e
      rw [List.mem_singleton.mp m] at e2
      exact Nat.lt_irrefl _ (Heap.lt_size e2)) (c₃' b o n e)
    have k₄ : ∀ b o, h₀.get? b = some o → s₄.heap.get? b = some o := fun b o e => c₄ b o (nl _) (p.keep b o e)
    refine Call_ ?_
    refine bltE G k₄ boot_sum ?_
    refine PyProof.Rows.callWith_builtin1 ?_
    refine args_cons ?_
    refine wpAny_Subscript_Slice_step slot_list_getitem.lookup ?_
    refine ldcE (c₄.isCell (nl _) e1) ?_
    refine wpAny_Slice ?_
    rw [evalPart_some, evalPart_none, evalPart_some]
    refine ldE hns hm ?_
    refine wpAny_pure ?_
    refine wpAny_Constant_int ?_
    have hSl := (c₄.isList (nl _) hS)
    refine ⟨(hSl.push _).typeIs, ?_⟩
    refine wpAny_getItem_list_slice (s := Shared.mk _ _ _ _ _) (hSl.push _) ⟨_, Heap.get?_push_size _ rfl, rfl, rfl⟩ (.int _ _) .none (.int _ _) (by decide) ?_ (by rw [List.size_toArray, sizeLine_eq]; omega)
    refine args_nil ?_
    obtain ⟨xs, hxs⟩ := (IntsAre.pick iS (some ((0 + i : Nat) : Int)) none (some 30)).allInts.items
    refine sum_intListG (xs := xs) (s := Shared.mk _ _ _ _ _) hh ⟨_, Heap.get?_push_size _ rfl, rfl, 0, by rw [← hxs]⟩ fun h' tk t' hk => ?_
    refine ⟨⟨_, _, rfl⟩, ⟨_, _, rfl, fun b o e => hk b o (Heap.get?_push_of_some _ (Heap.get?_push_of_some _ e))⟩⟩
  · intro D h' tk ys vs hD hlD hpl hlen2 hP hF hkp
    have hft : vs.filter (fun _ => true) = vs := List.filter_eq_self.mpr fun _ _ => rfl
    rw [hft] at hF
    obtain ⟨ns, hns, hnl⟩ := paired_ints hF
    have c₄ : Ch [] s.heap h' := fun b o n e => hkp b o (fun m => by
      have e2 := c₂' b o n e
      rw [List.mem_singleton.mp m] at e2
      exact Nat.lt_irrefl _ (Heap.lt_size e2)) (c₃' b o n e)
    refine List_ ?_
    refine args_cons ?_
    refine wpAny_Constant_int ?_
    refine args_cons ?_
    refine wpAny_Constant_int ?_
    refine args_cons ?_
    refine wpAny_Constant_int ?_
    refine args_cons ?_
    refine wpAny_Constant_int ?_
    refine args_cons ?_
    refine wpAny_Constant_int ?_
    refine args_cons ?_
    refine wpAny_Constant_int ?_
    refine args_nil ?_
    refine newL (by rw [sizeLine_eq]; simp) fun s₅ D2 g₅ hD2 y₅ c₅ => ?_
    dsimp only at c₅ y₅ g₅
    have hyl : ys.toList.length = N := by rw [hns.length, hnl, hlen2]
    refine add_two (vs := ys.toList) (c₅.isList (nl _) (by simpa using hpl.isList)) y₅.isList (by rw [hyl]; simp; omega) fun s₆ D3 g₆ hD3 y₆ c₆ => ?_
    have c₆' : Ch [] s.heap s₆.heap := (c₄.trans c₅).trans c₆
    refine Fm.st (p.ch c₆' (nl _) (fun _ m => nomatch m)) fun s₇ g₇ p₇ c₇ => ?_
    have hDn : s.heap.get? D3 = none := by
      cases q : s.heap.get? D3 with
      | none => rfl
      | some o =>
        have := (c₄.trans c₅) D3 o (nl _) q
        rw [hD3] at this
        exact absurd (Heap.lt_size this) (Nat.lt_irrefl _)
    have hDL : D3 ≠ L := fun q => by
      obtain ⟨o, _, _, e, _⟩ := p.frm
      rw [q, e] at hDn; cases hDn
    have i6 : IntsAre [Value.int 8 tk, .int 5 (tk + 1), .int 3 (tk + 1 + 1), .int 24 (tk + 1 + 1 + 1), .int 2 (tk + 1 + 1 + 1 + 1), .int 12 (tk + 1 + 1 + 1 + 1 + 1)] [8, 5, 3, 24, 2, 12] :=
      .cons _ _ (.cons _ _ (.cons _ _ (.cons _ _ (.cons _ _ (.cons _ _ .nil)))))
    refine hok D3 s₇ _ _ (g₂'.trans (g₃.trans (Go.trans ⟨_, _, rfl⟩ (g₅.trans (g₆.trans g₇))))) hDn (c₇.plain (not_mem_one hDL) y₆) (hns.append i6) (by simp) (by rw [List.length_append, hyl]; simp; omega) p₇ (c₆'.nil.trans c₇)
end
end Mine
end PartW5
section PartW6
set_option maxHeartbeats 400000
namespace Mine
theorem Ch.skip {X Y : List Addr} {h h' h'' : Heap} (a : Ch X h h') (c : Ch Y h' h'') (n : ∀ b ∈ Y, b ∈ X ∨ h.get? b = none) : Ch X h h'' := fun b o nb e =>
  c b o (fun m => by rcases n b m with q | q
                     · exact nb q
                     · rw [q] at e; cases e) (a b o nb e)
theorem Ch.skip0 {X : List Addr} {h h' h'' : Heap} (a : Ch X h h') (c : Ch [] h' h'') : Ch X h h'' := a.skip c fun _ m => nomatch m
theorem Ch.fresh {X : List Addr} {h h' : Heap} (a : Ch X h h') {D : Addr} (hD : h'.get? D = none) (n : D ∉ X) : h.get? D = none := by
  cases q : h.get? D with
  | none => rfl
  | some o => rw [a D o n q] at hD; cases hD
theorem IntsAre.nth' : ∀ {ys : List Value} {ns : List Int}, IntsAre ys ns → ∀ i, i < ys.length → ∃ n t, nth ys i = .int n t
  | _, _, .nil, i, h => absurd h (by simp)
  | _, _, .cons n t r, 0, _ => ⟨n, t, rfl⟩
  | _, _, .cons n t r, i + 1, h => by
    obtain ⟨m, u, e⟩ := IntsAre.nth' r i (by simpa using h)
    exact ⟨m, u, by rw [← e]; simp [nth]⟩
theorem at_skip {bs : List (Str × Value)} {x y : Str} {u v : Value} (n : x ≠ y) (h : At bs x v) : At ((y, u) :: bs) x v := by
  show List.lookup x ((y, u) :: bs) = some v
  rw [List.lookup_cons, beq_false_of_ne n]
  exact h

def tnBody : List Stmt := match lwBody with | _ :: _ :: _ :: _ :: .For _ _ b _ _ :: _ => b | _ => []
def tnLift : Stmt := match tnBody with | _ :: a :: _ => a | _ => .Pass default

section
variable {h₀ : Heap} {mg mb : Str → Option Value} {H L : Addr} {vs W : List Value} {bs : List (Str × Value)} {w : World} {A : Around} {E : Value → Shared → Prop} {s : Shared} {f : Addr} {cd : Value} {key : Value → Option Int} {outer : List Env}

theorem heap_st {N : Addr} {ys : List Value} {ns : List Int} {Q : Flow → Shared → Prop} (p : Fm h₀ L bs s.heap) (l1 : At bs "numbers" (.ref N)) (hN : s.heap.IsList N ys.toArray) (iN : IntsAre ys ns) (hlen : ys.length ≤ 36) (hh : A.handled = none)
    (hok : ∀ D s' vs key, Go s s' → s.heap.get? D = none → s'.heap.PlainList D (List.toArray vs) → vs.length = ys.length → (∀ v ∈ vs, Kd s'.heap key v) → key .none = none → Inj vs → (∀ y ∈ vs, y ≠ .ref D) → Fm h₀ L (("heap", .ref D) :: bs) s'.heap → Ch [L] s.heap s'.heap →
      (∀ v ∈ vs, ∀ b o, v = .ref b → s.heap.get? b = some o → False) → Q .next s') :
    wpAny (model pw w) A (exec lwS2 (lwEnv L f cd)) Q E s := by
  have nl : ∀ b : Addr, b ∉ ([] : List Addr) := fun _ m => nomatch m
  unfold lwS2 lwBody
  refine as_lists (h₀ := h₀) (fun _ its => ∃ n t, its = #[.int n t]) ?_ hh
  refine Fm.ld p l1 ?_
  refine ⟨N, _, bs, rfl, hN, by rw [List.size_toArray]; omega, p, ?_, ?_⟩
  · intro C v s₃ m₃ E' hC hv hns hm hkp
    obtain ⟨n, t, rfl⟩ : ∃ n t, v = .int n t := iN.allInts v (by simpa using hv)
    refine List_ ?_
    refine args_cons ?_
    refine IfExp_ ?_
    refine wpAny_isTrue_Compare1 ?_
    refine wpAny_BinOp ?_
    refine ldE hns hm ?_
    refine wpAny_Constant_int ?_
    refine mod_int (by decide) ?_
    refine wpAny_Constant_int ?_
    refine eq_int ?_
    refine wpAny_truthy_bool ?_
    split
    · refine wpAny_BinOp ?_
      refine ldE (s := Shared.mk _ _ _ _ _) hns hm ?_
      refine wpAny_Constant_int ?_
      refine floordiv_int (by decide) ?_
      refine args_nil ?_
      refine newL (by rw [sizeLine_eq]; simp) fun s₄ D g₄ hD y₄ c₄ => ?_
      refine ⟨⟨D, _, rfl, by rw [hD]; exact Heap.get?_none_of_le (Nat.le_refl _), y₄.isList, _, _, rfl⟩, ?_⟩
      obtain ⟨h', tk, rfl⟩ := g₄
      exact ⟨_, _, rfl, fun b o e => c₄ b o (nl _) e⟩
    · refine wpAny_BinOp ?_
      refine wpAny_BinOp ?_
      refine ldE (s := Shared.mk _ _ _ _ _) hns hm ?_
      refine wpAny_Constant_int ?_
      refine floordiv_int (by decide) ?_
      refine wpAny_Constant_int ?_
      refine mod_int (by decide) ?_
      refine args_nil ?_
      refine newL (by rw [sizeLine_eq]; simp) fun s₄ D g₄ hD y₄ c₄ => ?_
      refine ⟨⟨D, _, rfl, by rw [hD]; exact Heap.get?_none_of_le (Nat.le_refl _), y₄.isList, _, _, rfl⟩, ?_⟩
      obtain ⟨h', tk, rfl⟩ := g₄
      exact ⟨_, _, rfl, fun b o e => c₄ b o (nl _) e⟩
  · intro D s' zs g hD hpl hF hpw hne p' c
    obtain ⟨key, hkey, hk0⟩ : ∃ key : Value → Option Int, (∀ a x t, s'.heap.IsList a #[.int x t] → key (.ref a) = some x) ∧ key .none = none := by
      classical
      refine ⟨fun v => if q : ∃ x a t, v = .ref a ∧ s'.heap.IsList a #[.int x t] then some q.choose else none, fun a x t hl => ?_, ?_⟩
      · have q : ∃ x a' t, Value.ref a = .ref a' ∧ s'.heap.IsList a' #[.int x t] := ⟨x, a, t, rfl, hl⟩
        dsimp only
        rw [dif_pos q]
        have uq : ∀ x', (∃ a' t', Value.ref a = .ref a' ∧ s'.heap.IsList a' #[.int x' t']) → x' = x := by
          rintro x' ⟨a', t', e, hl'⟩
          cases e
          obtain ⟨o, e1, _, n1, d1⟩ := hl
          obtain ⟨o', e2, _, n2, d2⟩ := hl'
          rw [e1] at e2; cases e2
          rw [d1] at d2
          injection d2 with d3
          have := congrArg (fun z => z[0]?) d3
          simp at this
          exact this.1.symm
        exact congrArg some (uq _ q.choose_spec)
      · dsimp only
        rw [dif_neg]
        rintro ⟨x, a, t, e, _⟩
        cases e
    have hz : ∀ v ∈ zs, ∃ T, v = .ref T ∧ s.heap.get? T = none ∧ ∃ n t, s'.heap.IsList T #[.int n t] := fun v hv => by
      obtain ⟨_, T, its, e, h1, h2, n, t, rfl⟩ := Paired.right hF v hv
      exact ⟨T, e, h1, n, t, h2⟩
    refine hok D s' zs key g hD hpl ?_ (fun v hv => ?_) hk0 ?_ hne p' c ?_
    · have := hF.length; simpa using this.symm
    · obtain ⟨T, rfl, _, n, t, hl⟩ := hz v hv
      exact ⟨T, n, t, rfl, hkey T n t hl, hl⟩
    · intro i j hi hj e
      rw [List.pairwise_iff_getElem] at hpw
      have ei : nth zs i = zs[i] := by simp [nth, hi]
      have ej : nth zs j = zs[j] := by simp [nth, hj]
      rcases Nat.lt_trichotomy i j with q | q | q
      · exact absurd (ei.symm.trans (e.trans ej)) (hpw i j hi hj q)
      · exact q
      · exact absurd (ej.symm.trans (e.symm.trans ei)) (hpw j i hj hi q)
    · intro v hv b o e hb
      obtain ⟨T, e', h1, _⟩ := hz v hv
      rw [e] at e'; cases e'
      rw [h1] at hb; cases hb

theorem lift_st {N : Addr} {ys : List Value} {ns : List Int} {odd : Nat} {t0 t1 : Tok} {Q : Flow → Shared → Prop} (G : Gd h₀ mg mb) (p : Fm h₀ L bs s.heap) (l1 : At bs "numbers" (.ref N)) (l2 : At bs "odd" (.int odd t0)) (l3 : At bs "start" (.int odd t1)) (hN : s.heap.IsList N ys.toArray) (iN : IntsAre ys ns) (hlen : ys.length ≤ 36) (hodd : odd < ys.length) (hh : A.handled = none)
    (hok : ∀ s' st t bs', Go s s' → st ≤ odd → Fm h₀ L bs' s'.heap → At bs' "start" (.int (st : Nat) t) → (∀ (x : Str) v, x ≠ "start" → x ≠ "lift" → At bs x v → At bs' x v) → Ch [L] s.heap s'.heap → Q .next s') :
    wpAny (model pw w) A (exec tnLift (lwEnv L f cd)) Q E s := by
  have nl : ∀ b : Addr, b ∉ ([] : List Addr) := fun _ m => nomatch m
  unfold tnLift tnBody lwBody
  obtain ⟨n, tn, hn⟩ := IntsAre.nth' iN odd hodd
  refine wpAny_For ?_
  refine Call_ ?_
  refine bltX G p.keep PyProof.Rows.boot_range ?_
  refine PyProof.Rows.callWith_type1 ?_
  refine args_cons ?_
  refine wpAny_BinOp ?_
  refine Subscript_ ?_
  refine Fm.ld p l1 ?_
  refine Fm.ld p l2 ?_
  refine getAt hN (by omega) (by omega) (by omega) ?_
  rw [Int.toNat_natCast, hn]
  refine wpAny_Constant_int ?_
  refine mod_int (by decide) ?_
  refine args_nil ?_
  have hm0 : 0 ≤ n.fmod 5 := Int.fmod_nonneg_of_pos _ (by decide)
  have hm1 : n.fmod 5 < 5 := Int.fmod_lt_of_pos _ (by decide)
  refine rng1 (n.fmod 5).toNat (by omega) fun s₁ r tr ur vr g₁ hr c₁ => ?_
  have c₁' : Ch [] s.heap s₁.heap := c₁
  have g₁' : Go s s₁ := Go.trans ⟨_, _, rfl⟩ g₁
  clear c₁ g₁
  refine range_iter hr (by omega) fun s₂ g₂ c₂ hz₂ hit => ?_
  have p₂ := p.ch (c₁'.trans c₂) (nl _) (fun _ m => nomatch m)
  have hIL : L ≠ s₁.heap.objs.size := Nat.ne_of_lt ((p.ch c₁' (nl _) (fun _ m => nomatch m)).lt)
  refine for_rule (walks_range hh s₁.heap.objs.size 0 (n.fmod 5).toNat) (fun i s' => ∃ st t bs', Go s s' ∧ st ≤ odd ∧ Fm h₀ L bs' s'.heap ∧ At bs' "start" (.int ((st : Nat) : Int) t) ∧ (∀ (x : Str) v, x ≠ "start" → x ≠ "lift" → At bs x v → At bs' x v) ∧
    i ≤ (n.fmod 5).toNat ∧ IsRangeIter s'.heap s₁.heap.objs.size (((0 : Nat) : Int) + (i : Nat) * 1) (((n.fmod 5).toNat : Int) - (i : Nat)) 1 ∧ Ch [L] s.heap s'.heap) ?_ ?_ ?_ ?_
  · rintro i s' ⟨_, _, _, _, _, _, _, _, h1, h2, _⟩
    exact ⟨h1, h2⟩
  · rintro i v s₃ h' tk ⟨st, t, bs', g₃, hst, p₃, a₃, k₃, hi3, _, c₃⟩ hi ⟨_, t', rfl⟩ hS hkp
    have c₄ : Ch [s₁.heap.objs.size] s₃.heap h' := hkp
    have hI0 : h₀.get? s₁.heap.objs.size = none := base_none (p.ch c₁' (nl _) (fun _ m => nomatch m)).sz
    have p₄ := p₃.ch c₄ (not_mem_one hIL) (fun b m => by rw [List.mem_singleton.mp m]; exact hI0)
    have hsI : s.heap.get? s₁.heap.objs.size = none := by
      cases q : s.heap.get? s₁.heap.objs.size with
      | none => rfl
      | some o => exact absurd (Heap.lt_size (c₁' _ o (nl _) q)) (Nat.lt_irrefl _)
    have c₄' : Ch [L] s.heap h' := c₃.skip c₄ fun b m => .inr (by rw [List.mem_singleton.mp m]; exact hsI)
    refine Fm.st (s := { s₃ with heap := h', toks := tk }) p₄ fun s₅ g₅ p₅ c₅ => ?_
    refine wpAny_execs_cons ?_
    refine wpAny_Assign_Name ?_
    refine Call_ ?_
    refine bltX G p₅.keep boot_max ?_
    refine PyProof.Rows.callWith_builtin1 ?_
    refine args_cons ?_
    refine wpAny_Constant_int ?_
    refine args_cons ?_
    refine wpAny_BinOp ?_
    refine wpAny_BinOp ?_
    refine Fm.ld (s := Shared.mk _ _ _ _ _) p₅ (at_skip (by decide) a₃) ?_
    refine wpAny_Constant_int ?_
    refine sub_int ?_
    refine wpAny_Constant_int ?_
    refine floordiv_int (by decide) ?_
    refine args_nil ?_
    refine max0 hh fun tN s₆ g₆ c₆ => ?_
    have c₆' : Ch [] s₅.heap s₆.heap := c₆
    refine Fm.st (p₅.ch c₆' (nl _) (fun _ m => nomatch m)) fun s₇ g₇ p₇ c₇ => ?_
    dsimp only
    refine wpAny_execs_nil ?_
    dsimp only
    have nI : s₁.heap.objs.size ∉ [L] := not_mem_one (Ne.symm hIL)
    refine ⟨_, _, _, g₃.trans (Go.trans ⟨_, _, rfl⟩ (g₅.trans (Go.trans ⟨_, _, rfl⟩ (g₆.trans g₇)))), ?_, p₇, rfl, fun x v n1 n2 h => at_skip n1 (at_skip n2 (k₃ x v n1 n2 h)), hS.1, c₇ _ _ nI (c₆' _ _ (nl _) (c₅ _ _ nI hS.2)), ((c₄'.trans c₅).trans c₆'.nil).trans c₇⟩
    rw [Int.fdiv_eq_ediv_of_nonneg _ (by omega)]
    omega
  · rintro s₃ h' tk ⟨st, t, bs', g₃, hst, p₃, a₃, k₃, hi3, _, c₃⟩ hkp
    have c₄ : Ch [s₁.heap.objs.size] s₃.heap h' := hkp
    have hI0 : h₀.get? s₁.heap.objs.size = none := base_none (p.ch c₁' (nl _) (fun _ m => nomatch m)).sz
    have p₄ := p₃.ch c₄ (not_mem_one hIL) (fun b m => by rw [List.mem_singleton.mp m]; exact hI0)
    have hsI : s.heap.get? s₁.heap.objs.size = none := by
      cases q : s.heap.get? s₁.heap.objs.size with
      | none => rfl
      | some o => exact absurd (Heap.lt_size (c₁' _ o (nl _) q)) (Nat.lt_irrefl _)
    refine wpAny_execs_nil ?_
    exact hok _ st t bs' (g₃.trans ⟨_, _, rfl⟩) hst p₄ a₃ k₃ (c₃.skip c₄ fun b m => .inr (by rw [List.mem_singleton.mp m]; exact hsI))
  · exact ⟨odd, t1, bs, g₁'.trans g₂, Nat.le_refl _, p₂, l3, fun _ _ _ _ h => h, Nat.zero_le _, hit, (c₁'.trans c₂).nil⟩
end
end Mine
end PartW6
section PartW7
set_option maxHeartbeats 400000
namespace Mine
theorem ls_nc {h : Heap} {a b : Addr} {items : Array Value} {v : Option Value} (l : h.IsList a items) (c : h.IsCell b v) : a ≠ b := fun q => by
  obtain ⟨o, e, _, n, d⟩ := l
  obtain ⟨o', e', d'⟩ := c
  rw [q, e'] at e; cases e
  rw [d] at d'; cases d'
theorem ls_nf {h₀ h : Heap} {a L : Addr} {items : Array Value} {bs : List (Str × Value)} (l : h.IsList a items) (p : Fm h₀ L bs h) : a ≠ L := fun q => by
  obtain ⟨o, e, _, n, d⟩ := l
  obtain ⟨o', _, _, e', d'⟩ := p.frm
  rw [q, e'] at e; cases e
  rw [d] at d'; cases d'
theorem ls_nn {h : Heap} {a b : Addr} {items : Array Value} (l : h.IsList a items) (c : h.get? b = none) : a ≠ b := fun q => by
  obtain ⟨o, e, _⟩ := l
  rw [q, c] at e; cases e
theorem Kd.nc {h : Heap} {key : Value → Option Int} {v : Value} {b : Addr} {x : Option Value} (k : Kd h key v) (c : h.IsCell b x) : v ≠ .ref b := by
  obtain ⟨a, _, _, rfl, _, l⟩ := k
  intro e; cases e; exact ls_nc l c rfl
theorem Kd.nf {h₀ h : Heap} {key : Value → Option Int} {v : Value} {L : Addr} {bs : List (Str × Value)} (k : Kd h key v) (c : Fm h₀ L bs h) : v ≠ .ref L := by
  obtain ⟨a, _, _, rfl, _, l⟩ := k
  intro e; cases e; exact ls_nf l c rfl
theorem Kd.nn {h : Heap} {key : Value → Option Int} {v : Value} {b : Addr} (k : Kd h key v) (c : h.get? b = none) : v ≠ .ref b := by
  obtain ⟨a, _, _, rfl, _, l⟩ := k
  intro e; cases e; exact ls_nn l c rfl
theorem get_none {h : Heap} {D : Addr} (q : h.objs.size ≤ D) : h.get? D = none := Heap.get?_none_of_le q
theorem inj_set {vs : List Value} {i : Nat} {v : Value} (h : Inj vs) (n : ∀ u ∈ vs, u ≠ v) (hi : i < vs.length) : Inj (vs.set i v) := by
  intro a b ha hb e
  rw [List.length_set] at ha hb
  rw [nth_set hi, nth_set hi] at e
  by_cases qa : a = i
  · by_cases qb : b = i
    · omega
    · rw [if_pos qa, if_neg qb] at e
      exact absurd e.symm (n _ (nth_mem hb))
  · by_cases qb : b = i
    · rw [if_neg qa, if_pos qb] at e
      exact absurd e (n _ (nth_mem ha))
    · rw [if_neg qa, if_neg qb] at e
      exact h a b ha hb e

abbrev fX (L : Addr) : List Addr := [L, L + 1 + 1, L + 1 + 1 + 1]
theorem mem_fX {L b : Addr} {P : Prop} (h : b ∈ fX L) (h1 : b = L → P) (h2 : b = L + 1 + 1 → P) (h3 : b = L + 1 + 1 + 1 → P) : P := by
  rcases List.mem_cons.mp h with q | q
  · exact h1 q
  · rcases List.mem_cons.mp q with q | q
    · exact h2 q
    · exact h3 (List.mem_singleton.mp q)
theorem fresh0 {h₀ h h' : Heap} {L D : Addr} {bs : List (Str × Value)} {v2 v3 : Option Value} (C : Ch (fX L) h h') (p : Fm h₀ L bs h') (e2 : h'.IsCell (L + 1 + 1) v2) (e3 : h'.IsCell (L + 1 + 1 + 1) v3) (z : h'.get? D = none) : h.get? D = none := by
  cases q : h.get? D with
  | none => rfl
  | some o =>
    by_cases m : D ∈ fX L
    · exfalso
      refine mem_fX m (fun q => ?_) (fun q => ?_) (fun q => ?_)
      · obtain ⟨o, _, _, e, _⟩ := p.frm; rw [← q, z] at e; cases e
      · obtain ⟨o, e, _⟩ := e2; rw [← q, z] at e; cases e
      · obtain ⟨o, e, _⟩ := e3; rw [← q, z] at e; cases e
    · rw [C D o m q] at z; cases z
def tnA : List Stmt := match tnBody with | a :: b :: c :: d :: e :: f :: g :: _ => [a, b, c, d, e, f, g] | _ => []
def tnB : List Stmt := match tnBody with | _ :: _ :: _ :: _ :: _ :: _ :: _ :: r => r | _ => []

section
variable {h₀ : Heap} {mg mb : Str → Option Value} {H L : Addr} {vs W : List Value} {bs : List (Str × Value)} {w : World} {A : Around} {E : Value → Shared → Prop} {s : Shared} {f : Addr} {cd : Value} {key : Value → Option Int} {outer : List Env}

theorem turnA {rest : List Stmt} {N : Addr} {ys : List Value} {ns : List Int} {odd : Nat} {t0 : Tok} {v2 v3 : Option Value} {Q : Flow → Shared → Prop} (G : Gd h₀ mg mb) (p : Fm h₀ L bs s.heap) (l1 : At bs "numbers" (.ref N)) (l2 : At bs "odd" (.int odd t0)) (l3 : At bs "heap" (.ref H))
    (e2 : s.heap.IsCell (L + 1 + 1) v2) (e3 : s.heap.IsCell (L + 1 + 1 + 1) v3)
    (hN : s.heap.IsList N ys.toArray) (iN : IntsAre ys ns) (hy : ys.length = vs.length) (hlen : vs.length ≤ 36) (hodd : odd < vs.length) (hH : s.heap.IsList H vs.toArray) (kd : ∀ v ∈ vs, Kd s.heap key v) (hk0 : key .none = none) (inj : Inj vs) (hp : Hp key 0 vs) (hh : A.handled = none)
    (hok : ∀ s' bs' st t ws key' Dw Dr, Go s s' → st ≤ odd → Fm h₀ L bs' s'.heap → At bs' "start" (.int (st : Nat) t) → At bs' "new" (nth ws st) → At bs' "hidden" (nth ws odd) → (∀ (x : Str) v, x ∈ (["numbers", "heap", "size", "odd"] : List Str) → At bs x v → At bs' x v) →
      Ch (fX L) s.heap s'.heap → s'.heap.IsCell (L + 1 + 1) (some (.ref Dw)) → s'.heap.IsCell (L + 1 + 1 + 1) (some (.ref Dr)) → s'.heap.IsList Dw (List.toArray ws) → s'.heap.IsList Dr (ws.set odd .none).toArray → Dw ≠ Dr → s.heap.get? Dw = none → s.heap.get? Dr = none →
      ws.length = vs.length → (∀ v ∈ ws, Kd s'.heap key' v) → (∀ v ∈ ws, v ≠ .ref Dw) → (∀ v ∈ ws, v ≠ .ref Dr) → key' .none = none → Inj ws →
      (∀ k, 0 < k → k < ws.length → (k - 1) / 2 ≠ st → k ≠ st → ltK key' (nth ws k) (nth ws ((k - 1) / 2)) = some false) → wpAny (model pw w) A (execs rest (lwEnv L f cd)) Q E s') :
    wpAny (model pw w) A (execs (tnA ++ rest) (lwEnv L f cd)) Q E s := by
  have nl : ∀ b : Addr, b ∉ ([] : List Addr) := fun _ m => nomatch m
  have n0 : ∀ b ∈ ([] : List Addr), h₀.get? b = none := fun _ m => nomatch m
  have nL2 : L + 1 + 1 ≠ L := Nat.ne_of_gt (Nat.lt_succ_of_lt (Nat.lt_succ_self _))
  have nL3 : L + 1 + 1 + 1 ≠ L := Nat.ne_of_gt (Nat.lt_succ_of_lt (Nat.lt_succ_of_lt (Nat.lt_succ_self _)))
  have n32 : L + 1 + 1 + 1 ≠ L + 1 + 1 := Nat.ne_of_gt (Nat.lt_succ_self _)
  have hc2 : h₀.get? (L + 1 + 1) = none := base_none (Nat.le_trans p.ge (Nat.le_trans (Nat.le_succ _) (Nat.le_succ _)))
  have hc3 : h₀.get? (L + 1 + 1 + 1) = none := base_none (Nat.le_trans p.ge (Nat.le_trans (Nat.le_succ _) (Nat.le_trans (Nat.le_succ _) (Nat.le_succ _))))
  have hX : ∀ {a items}, s.heap.IsList a items → a ∉ fX L := fun l m => mem_fX m (ls_nf l p) (ls_nc l e2) (ls_nc l e3)
  have kX : ∀ v ∈ vs, ∀ b ∈ fX L, v ≠ .ref b := fun v hv b m => mem_fX m (fun q => by rw [q]; exact (kd v hv).nf p) (fun q => by rw [q]; exact (kd v hv).nc e2) (fun q => by rw [q]; exact (kd v hv).nc e3)
  obtain ⟨n, tn, hn⟩ := IntsAre.nth' iN odd (by omega)
  unfold tnA
  -- start = odd
  refine wpAny_execs_cons ?_
  refine wpAny_Assign_Name ?_
  refine Fm.ld p l2 ?_
  refine Fm.st p fun s₁ g₁ p₁ c₁ => ?_
  dsimp only
  -- for lift
  refine wpAny_execs_cons ?_
  refine lift_st G p₁ l1 l2 rfl (c₁.isList (not_mem_one (ls_nf hN p)) hN) iN (by omega) (by omega) hh fun s₂ st t bs₂ g₂ hst p₂ a₂ k₂ c₂ => ?_
  dsimp only
  have q1 : At bs₂ "numbers" (.ref N) := k₂ _ _ (by decide) (by decide) (at_skip (by decide) l1)
  have q2 : At bs₂ "odd" (.int odd t0) := k₂ _ _ (by decide) (by decide) (at_skip (by decide) l2)
  have q3 : At bs₂ "heap" (.ref H) := k₂ _ _ (by decide) (by decide) (at_skip (by decide) l3)
  have q4 : ∀ (x : Str) v, x ∈ (["numbers", "heap", "size", "odd"] : List Str) → At bs x v → At bs₂ x v := fun x v m h => k₂ x v (by rintro rfl; revert m; decide) (by rintro rfl; revert m; decide) (at_skip (by rintro rfl; revert m; decide) h)
  have cc : Ch [L] s.heap s₂.heap := c₁.trans c₂
  have C₂ : Ch (fX L) s.heap s₂.heap := cc.mono fun b m => by rw [List.mem_singleton.mp m]; simp
  have E2 := cc.isCell (not_mem_one nL2) e2
  have E3 := cc.isCell (not_mem_one nL3) e3
  have g₂' : Go s s₂ := g₁.trans g₂
  clear cc c₁ c₂ g₁ g₂ k₂ p₁
  -- whole = heap[:]
  refine wpAny_execs_cons ?_
  refine wpAny_Assign_Name ?_
  refine copyAll ?_
  refine Fm.ld p₂ q3 ?_
  refine ⟨H, vs, rfl, C₂.isList (hX hH) hH, by rw [sizeLine_eq]; omega, fun s₃ Dw g₃ hDw y₃ c₃ => ?_⟩
  have z₃ : s₂.heap.get? Dw = none := get_none (by rw [hDw]; exact Nat.le_succ _)
  have w0 : s.heap.get? Dw = none := fresh0 C₂ p₂ E2 E3 z₃
  have C₃ := C₂.skip0 c₃
  have p₃ := p₂.ch c₃ (nl _) n0
  refine stc (c₃.isCell (nl _) E2) fun s₄ g₄ E2' c₄ => ?_
  dsimp only
  have C₄ : Ch (fX L) s.heap s₄.heap := C₃.skip c₄ fun b m => .inl (by rw [List.mem_singleton.mp m]; simp)
  have p₄ := p₃.ch c₄ (not_mem_one (Ne.symm nL2)) (fun b m => by rw [List.mem_singleton.mp m]; exact hc2)
  have y₄ := c₄.plain (not_mem_one (ls_nc y₃.isList (c₃.isCell (nl _) E2))) y₃
  have E3' := c₄.isCell (not_mem_one n32) (c₃.isCell (nl _) E3)
  have g₄' : Go s s₄ := (g₂'.trans g₃).trans g₄
  clear g₂' g₃ g₄ c₄ c₃ p₃ p₂ C₃ C₂ E2 E3 z₃ y₃ hDw
  have w0' : h₀.get? Dw = none := by
    cases q : h₀.get? Dw with
    | none => rfl
    | some o => rw [p.keep _ _ q] at w0; cases w0
  -- whole[start] = [numbers[odd] // 5]
  refine wpAny_execs_cons ?_
  refine wpAny_Assign_Subscript ?_
  refine List_ ?_
  refine args_cons ?_
  refine wpAny_BinOp ?_
  refine Subscript_ ?_
  refine Fm.ld p₄ q1 ?_
  refine Fm.ld p₄ q2 ?_
  refine getAt (C₄.isList (hX hN) hN) (by omega) (by omega) (by omega) ?_
  rw [Int.toNat_natCast, hn]
  refine wpAny_Constant_int ?_
  refine floordiv_int (by decide) ?_
  refine args_nil ?_
  refine newL (by rw [sizeLine_eq]; simp) fun s₅ Dx g₅ hDx y₅ c₅ => ?_
  have c₅' : Ch [] s₄.heap s₅.heap := c₅
  have hDx' : Dx = s₄.heap.objs.size := hDx
  have g₅' : Go s₄ s₅ := Go.trans ⟨_, _, rfl⟩ g₅
  clear c₅ hDx g₅
  have z₅ : s₄.heap.get? Dx = none := get_none (Nat.le_of_eq hDx'.symm)
  have x0 : s.heap.get? Dx = none := fresh0 C₄ p₄ E2' E3' z₅
  have xw : Dx ≠ Dw := fun q => by obtain ⟨n, e⟩ := y₄; rw [← q, z₅] at e; cases e
  have p₅ := p₄.ch c₅' (nl _) n0
  have C₅ := C₄.skip0 c₅'
  refine ldc (c₅'.isCell (nl _) E2') ?_
  refine Fm.ld p₅ a₂ ?_
  refine setAt (c₅'.isList (nl _) y₄.isList) (by omega) (by omega) (by omega) fun s₆ g₆ y₆ c₆ => ?_
  dsimp only
  rw [Int.toNat_natCast] at y₆
  have C₆ : Ch (fX L) s.heap s₆.heap := C₅.skip c₆ fun b m => .inr (by rw [List.mem_singleton.mp m]; exact w0)
  have ndw : Dw ∉ fX L := fun m => mem_fX m (ls_nf y₄.isList p₄) (ls_nc y₄.isList E2') (ls_nc y₄.isList E3')
  have ndL : L ∉ [Dw] := not_mem_one (Ne.symm (ls_nf y₄.isList p₄))
  have nd2 : L + 1 + 1 ∉ [Dw] := not_mem_one (Ne.symm (ls_nc y₄.isList E2'))
  have nd3 : L + 1 + 1 + 1 ∉ [Dw] := not_mem_one (Ne.symm (ls_nc y₄.isList E3'))
  have p₆ := p₅.ch c₆ ndL (fun b m => by rw [List.mem_singleton.mp m]; exact w0')
  have E2₆ := c₆.isCell nd2 (c₅'.isCell (nl _) E2')
  have E3₆ := c₆.isCell nd3 (c₅'.isCell (nl _) E3')
  have x₆ := c₆.plain (not_mem_one xw) y₅
  have g₆' : Go s s₆ := (g₄'.trans g₅').trans g₆
  have nxX : ∀ b ∈ fX L, Dx ≠ b := fun b m q => by
    refine mem_fX m (fun e => ?_) (fun e => ?_) (fun e => ?_)
    · exact ls_nf x₆.isList p₆ (q.trans e)
    · exact ls_nc x₆.isList E2₆ (q.trans e)
    · exact ls_nc x₆.isList E3₆ (q.trans e)
  clear g₄' g₅' g₆ c₆ c₅' p₅ p₄ C₅ C₄ E2' E3' y₄ y₅ z₅ hDx'
  -- row = whole[:]
  refine wpAny_execs_cons ?_
  refine wpAny_Assign_Name ?_
  refine copyAll ?_
  refine ldc E2₆ ?_
  refine ⟨Dw, _, rfl, y₆, by rw [List.length_set, sizeLine_eq]; omega, fun s₇ Dr g₇ hDr y₇ c₇ => ?_⟩
  have z₇ : s₆.heap.get? Dr = none := get_none (by rw [hDr]; exact Nat.le_succ _)
  have r0 : s.heap.get? Dr = none := fresh0 C₆ p₆ E2₆ E3₆ z₇
  have r0' : h₀.get? Dr = none := by
    cases q : h₀.get? Dr with
    | none => rfl
    | some o => rw [p.keep _ _ q] at r0; cases r0
  have wr : Dw ≠ Dr := ls_nn y₆ z₇
  have xr : Dx ≠ Dr := ls_nn x₆.isList z₇
  have C₇ := C₆.skip0 c₇
  have p₇ := p₆.ch c₇ (nl _) n0
  refine stc (c₇.isCell (nl _) E3₆) fun s₈ g₈ E3₈ c₈ => ?_
  dsimp only
  have C₈ : Ch (fX L) s.heap s₈.heap := C₇.skip c₈ fun b m => .inl (by rw [List.mem_singleton.mp m]; simp)
  have p₈ := p₇.ch c₈ (not_mem_one (Ne.symm nL3)) (fun b m => by rw [List.mem_singleton.mp m]; exact hc3)
  have E3₇ := c₇.isCell (nl _) E3₆
  have y₈ := c₈.plain (not_mem_one (ls_nc y₇.isList E3₇)) y₇
  have w₈ := c₈.isList (not_mem_one (ls_nc y₆ E3₆)) (c₇.isList (nl _) y₆)
  have x₈ := c₈.plain (not_mem_one (nxX _ (by simp))) (c₇.plain (nl _) x₆)
  have E2₈ := c₈.isCell (not_mem_one (Ne.symm n32)) (c₇.isCell (nl _) E2₆)
  have g₈' : Go s s₈ := (g₆'.trans g₇).trans g₈
  clear g₆' g₇ g₈ c₇ c₈ p₇ p₆ C₇ C₆ E3₇ E3₆ E2₆ y₇ y₆ x₆ z₇ hDr
  have hwl : (vs.set st (Value.ref Dx)).length = vs.length := List.length_set ..
  -- new, hidden = row[start], row[odd]
  refine wpAny_execs_cons ?_
  refine Assign_Tuple_swapped (names := ["new", "hidden"]) ?_
  refine Tuple_ ?_
  refine args_cons ?_
  refine Subscript_ ?_
  refine ldc E3₈ ?_
  refine Fm.ld p₈ a₂ ?_
  refine getAt y₈.isList (by omega) (by omega) (by omega) ?_
  refine args_cons ?_
  refine Subscript_ ?_
  refine ldc E3₈ ?_
  refine Fm.ld p₈ q2 ?_
  refine getAt y₈.isList (by omega) (by omega) (by omega) ?_
  refine args_nil ?_
  rw [Int.toNat_natCast, Int.toNat_natCast]
  refine wpAny_newTuple ?_ (by rw [sizeLine_eq]; simp)
  refine unpackItems_tuple (items := [nth (vs.set st (Value.ref Dx)) st, nth (vs.set st (Value.ref Dx)) odd].toArray) hh ⟨_, Heap.get?_push_size _ rfl, rfl, 0, rfl⟩ fun h₉ hx₉ => ?_
  have c₉ : Ch [] s₈.heap h₉ := fun b o _ e => hx₉ b o (Nat.ne_of_lt (by rw [Heap.size_push]; exact Nat.lt_succ_of_lt (Heap.lt_size e))) (Heap.get?_push_of_some _ e)
  have p₉ := p₈.ch c₉ (nl _) n0
  show wpAny _ _ (do holding _ (bindName _ _ _); holding _ (bindName _ _ _); pure ()) _ _ _
  refine wpAny_bind (wpAny_holding (bindName_ ?_))
  refine Fm.st (s := Shared.mk _ _ _ _ _) p₉ fun s₁₀ g₁₀ p₁₀ c₁₀ => ?_
  refine wpAny_bind (wpAny_holding (bindName_ ?_))
  refine Fm.st p₁₀ fun s₁₁ g₁₁ p₁₁ c₁₁ => ?_
  refine wpAny_pure ?_
  dsimp only
  have cL : Ch [L] s₈.heap s₁₁.heap := (c₉.nil.trans c₁₀).trans c₁₁
  have C₁₁ : Ch (fX L) s.heap s₁₁.heap := C₈.skip cL fun b m => .inl (by rw [List.mem_singleton.mp m]; simp)
  have y₁₁ := cL.isList (not_mem_one (ls_nf y₈.isList p₈)) y₈.isList
  have w₁₁ := cL.isList (not_mem_one (ls_nf w₈ p₈)) w₈
  have x₁₁ := cL.isList (not_mem_one (ls_nf x₈.isList p₈)) x₈.isList
  have E2₁₁ := cL.isCell (not_mem_one nL2) E2₈
  have E3₁₁ := cL.isCell (not_mem_one nL3) E3₈
  have g₁₁' : Go s s₁₁ := g₈'.trans (Go.trans ⟨_, _, rfl⟩ (g₁₀.trans g₁₁))
  -- row[odd] = None
  refine wpAny_execs_cons ?_
  refine wpAny_Assign_Subscript ?_
  refine Constant_none ?_
  refine ldc E3₁₁ ?_
  refine Fm.ld p₁₁ (at_skip (by decide) (at_skip (by decide) q2)) ?_
  refine setAt y₁₁ (by omega) (by omega) (by omega) fun s₁₂ g₁₂ y₁₂ c₁₂ => ?_
  dsimp only
  rw [Int.toNat_natCast] at y₁₂
  have C₁₂ : Ch (fX L) s.heap s₁₂.heap := C₁₁.skip c₁₂ fun b m => .inr (by rw [List.mem_singleton.mp m]; exact r0)
  have p₁₂ := p₁₁.ch c₁₂ (not_mem_one (Ne.symm (ls_nf y₁₁ p₁₁))) (fun b m => by rw [List.mem_singleton.mp m]; exact r0')
  have E2₁₂ := c₁₂.isCell (not_mem_one (Ne.symm (ls_nc y₁₁ E2₁₁))) E2₁₁
  have E3₁₂ := c₁₂.isCell (not_mem_one (Ne.symm (ls_nc y₁₁ E3₁₁))) E3₁₁
  have w₁₂ := c₁₂.isList (not_mem_one wr) w₁₁
  have x₁₂ := c₁₂.isList (not_mem_one xr) x₁₁
  have ov : ∀ v ∈ vs, v ≠ .ref Dx := fun v hv => (kd v hv).nn x0
  refine hok s₁₂ _ st t (vs.set st (.ref Dx)) (fun v => if v = .ref Dx then some (n.fdiv 5) else key v) Dw Dr (g₁₁'.trans g₁₂) hst p₁₂ (at_skip (by decide) (at_skip (by decide) a₂)) rfl (at_skip (by decide) rfl)
    (fun x v m h => at_skip (by rintro rfl; revert m; decide) (at_skip (by rintro rfl; revert m; decide) (q4 x v m h))) C₁₂ E2₁₂ E3₁₂ w₁₂ y₁₂ wr w0 r0 hwl (fun v hv => ?_) (fun v hv => ?_) (fun v hv => ?_) ?_ (inj_set inj ov (by omega)) ?_
  · rcases List.mem_or_eq_of_mem_set hv with h | h
    · obtain ⟨a, x, t, e, hk, l⟩ := (kd v h).ch C₁₂ (kX v h)
      exact ⟨a, x, t, e, by dsimp only; rw [if_neg (ov v h)]; exact hk, l⟩
    · exact ⟨Dx, _, _, h, by dsimp only; rw [if_pos h], x₁₂⟩
  · rcases List.mem_or_eq_of_mem_set hv with h | h
    · exact (kd v h).nn w0
    · rw [h]; intro q; cases q; exact xw rfl
  · rcases List.mem_or_eq_of_mem_set hv with h | h
    · exact (kd v h).nn r0
    · rw [h]; intro q; cases q; exact xr rfl
  · rw [if_neg (by intro q; cases q)]
    exact hk0
  · intro k k0 kl k1 k2
    rw [hwl] at kl
    rw [nth_set (by omega), nth_set (by omega), if_neg k2, if_neg k1]
    have := hp k k0 kl (Nat.zero_le _)
    unfold ltK at this ⊢
    dsimp only
    rw [if_neg (ov _ (nth_mem kl)), if_neg (ov _ (nth_mem (by omega)))]
    exact this
end
end Mine
end PartW7
section PartW8
set_option maxHeartbeats 400000
namespace Mine
/-! what stands in a row stood there before -/
def Sub (us vs : List Value) : Prop := us.length = vs.length ∧ ∀ v ∈ us, v ∈ vs
theorem Sub.refl (vs : List Value) : Sub vs vs := ⟨rfl, fun _ h => h⟩
theorem Sub.trans {a b c : List Value} (x : Sub a b) (y : Sub b c) : Sub a c := ⟨x.1.trans y.1, fun v h => y.2 v (x.2 v h)⟩
theorem Sub.set {us vs : List Value} {i : Nat} {v : Value} (x : Sub us vs) (h : v ∈ vs) : Sub (us.set i v) vs := ⟨by rw [List.length_set, x.1], fun u hu => by
  rcases List.mem_or_eq_of_mem_set hu with q | q
  · exact x.2 u q
  · rw [q]; exact h⟩
theorem sdLoop_mem {lt : Cmp} {start : Nat} {X : Value} : ∀ (pos : Nat) (vs : List Value), pos < vs.length → match sdLoop lt start X vs pos with | .error us => Sub us vs | .ok (us, p) => Sub us vs ∧ p < vs.length := by
  intro pos
  induction pos using Nat.strongRecOn with
  | ind pos ih =>
    intro vs hp
    rw [sdLoop]
    by_cases h : start < pos
    · rw [if_pos h]
      cases lt X (nth vs ((pos - 1) / 2)) with
      | none => exact Sub.refl _
      | some r =>
        cases r with
        | false => exact ⟨Sub.refl _, hp⟩
        | true =>
          have hs : Sub (vs.set pos (nth vs ((pos - 1) / 2))) vs := (Sub.refl _).set (nth_mem (by omega))
          have := ih ((pos - 1) / 2) (by omega) (vs.set pos (nth vs ((pos - 1) / 2))) (by rw [List.length_set]; omega)
          dsimp only
          revert this
          cases sdLoop lt start X (vs.set pos (nth vs ((pos - 1) / 2))) ((pos - 1) / 2) with
          | error us => exact fun h => h.trans hs
          | ok r => exact fun h => ⟨h.1.trans hs, by have := h.2; rw [List.length_set] at this; exact this⟩
    · rw [if_neg h]
      exact ⟨Sub.refl _, hp⟩
theorem siftdown_mem {lt : Cmp} {start pos : Nat} {vs : List Value} (hp : pos < vs.length) : match siftdown lt vs start pos with | .error us => Sub us vs | .ok us => Sub us vs := by
  unfold siftdown
  have := sdLoop_mem (lt := lt) (start := start) (X := nth vs pos) pos vs hp
  revert this
  cases sdLoop lt start (nth vs pos) vs pos with
  | error us => exact fun h => h
  | ok r => exact fun h => h.1.set (nth_mem hp)
theorem suLoop_mem {lt : Cmp} : ∀ (n : Nat) (vs : List Value) (pos : Nat), vs.length - pos = n → pos < vs.length → match suLoop lt vs pos with | .error us => Sub us vs | .ok (us, p) => Sub us vs ∧ p < vs.length := by
  intro n
  induction n using Nat.strongRecOn with
  | ind n ih =>
    intro vs pos hn hp
    have go : ∀ c, pos < c → c < vs.length → match suLoop lt (vs.set pos (nth vs c)) c with | .error us => Sub us vs | .ok (us, p) => Sub us vs ∧ p < vs.length := by
      intro c h1 h2
      have hs : Sub (vs.set pos (nth vs c)) vs := (Sub.refl _).set (nth_mem h2)
      have := ih (vs.length - c) (by omega) (vs.set pos (nth vs c)) c (by rw [List.length_set]) (by rw [List.length_set]; omega)
      revert this
      cases suLoop lt (vs.set pos (nth vs c)) c with
      | error us => exact fun h => h.trans hs
      | ok r => exact fun h => ⟨h.1.trans hs, by have := h.2; rw [List.length_set] at this; exact this⟩
    rw [suLoop]
    by_cases h : 2 * pos + 1 < vs.length
    · rw [if_pos h]
      by_cases h' : 2 * pos + 2 < vs.length
      · rw [if_pos h']
        cases lt (nth vs (2 * pos + 1)) (nth vs (2 * pos + 2)) with
        | none => exact Sub.refl _
        | some r =>
          cases r with
          | true => exact go _ (by omega) h
          | false => exact go _ (by omega) h'
      · rw [if_neg h']
        exact go _ (by omega) h
    · rw [if_neg h]
      exact ⟨Sub.refl _, hp⟩
theorem siftup_mem {lt : Cmp} {pos : Nat} {vs : List Value} (hp : pos < vs.length) : match siftup lt vs pos with | .error us => Sub us vs | .ok us => Sub us vs := by
  unfold siftup
  have := suLoop_mem (lt := lt) _ vs pos rfl hp
  revert this
  cases suLoop lt vs pos with
  | error us => exact fun h => h
  | ok r =>
    intro h
    dsimp only
    have hs : Sub (r.1.set r.2 (nth vs pos)) vs := h.1.set (nth_mem hp)
    have := siftdown_mem (lt := lt) (start := pos) (pos := r.2) (vs := r.1.set r.2 (nth vs pos)) (by rw [hs.1]; exact h.2)
    revert this
    cases siftdown lt (r.1.set r.2 (nth vs pos)) pos r.2 with
    | error us => exact fun h => h.trans hs
    | ok us => exact fun h => h.trans hs

/-! the way and the break -/
def Brk (lt : Cmp) (ws : List Value) (st odd : Nat) : Prop := (odd ≠ st ∧ Rc lt ws st ((odd - 1) / 2)) ∨ (odd = st ∧ 2 * st + 1 < ws.length)
theorem way_test {lt : Cmp} {ws : List Value} {st odd m : Nat} (hst : st ≤ odd) (hl : pth lt ws st m < ws.length) (hf : ws.length ≤ 2 * pth lt ws st m + 1) :
    (((wayI lt ws st m).any (· == (((odd : Nat) : Int) - 1).fdiv 2) = true ∨ (odd = st ∧ 1 < (wayI lt ws st m).length)) ↔ Brk lt ws st odd) := by
  have hrc : ∀ k, Rc lt ws st k ↔ ∃ i, i ≤ m ∧ pth lt ws st i = k := by
    intro k
    constructor
    · rintro ⟨i, e, hk⟩
      by_cases q : i ≤ m
      · exact ⟨i, q, e⟩
      · have h1 := pth_le (lt := lt) (ws := ws) (st := st) (i := m + 1) (j := i) (by omega)
        have h2 : pth lt ws st (m + 1) = nx lt ws (pth lt ws st m) := rfl
        have h3 := nx_ge (lt := lt) (ws := ws) (pth lt ws st m)
        omega
    · rintro ⟨i, q, e⟩
      refine ⟨i, e, ?_⟩
      have := pth_le (lt := lt) (ws := ws) (st := st) q
      omega
  have hany : ∀ k : Int, (wayI lt ws st m).any (· == k) = true ↔ ∃ i, i ≤ m ∧ ((pth lt ws st i : Nat) : Int) = k := by
    intro k
    unfold wayI
    rw [List.any_map, List.any_eq_true]
    constructor
    · rintro ⟨i, hi, e⟩
      refine ⟨i, by have := List.mem_range.mp hi; omega, by simpa using e⟩
    · rintro ⟨i, hi, e⟩
      exact ⟨i, List.mem_range.mpr (by omega), by simpa using e⟩
  have hlen : (wayI lt ws st m).length = m + 1 := by unfold wayI; simp
  rw [hany, hlen]
  have hge : ∀ i, st ≤ pth lt ws st i := fun i => pth_le (lt := lt) (ws := ws) (st := st) (i := 0) (Nat.zero_le i)
  have hm : (1 < m + 1) ↔ 2 * st + 1 < ws.length := by
    constructor
    · intro q
      have h1 := pth_le (lt := lt) (ws := ws) (st := st) (i := 1) (j := m) (by omega)
      have h2 : pth lt ws st 1 = nx lt ws st := rfl
      have h3 := nx_ge (lt := lt) (ws := ws) st
      omega
    · intro q
      rcases Nat.eq_zero_or_pos m with e | e
      · subst e
        have h2 : pth lt ws st 0 = st := rfl
        omega
      · omega
  have hdiv : 0 < odd → (((odd : Nat) : Int) - 1).fdiv 2 = (((odd - 1) / 2 : Nat) : Int) := fun h => by
    rw [Int.fdiv_eq_ediv_of_nonneg _ (by omega)]; omega
  unfold Brk
  by_cases q : odd = st
  · constructor
    · rintro (⟨i, hi, e⟩ | ⟨_, h⟩)
      · have := hge i
        rw [Int.fdiv_eq_ediv_of_nonneg _ (by omega)] at e
        omega
      · exact .inr ⟨q, hm.mp h⟩
    · rintro (⟨h, _⟩ | ⟨_, h⟩)
      · exact absurd q h
      · exact .inr ⟨q, hm.mpr h⟩
  · constructor
    · rintro (⟨i, hi, e⟩ | ⟨h, _⟩)
      · refine .inl ⟨q, (hrc _).mpr ⟨i, hi, ?_⟩⟩
        rw [hdiv (by omega)] at e
        exact_mod_cast e
      · exact absurd h q
    · rintro (⟨_, h⟩ | ⟨h, _⟩)
      · obtain ⟨i, hi, e⟩ := (hrc _).mp h
        refine .inl ⟨i, hi, ?_⟩
        rw [hdiv (by omega), e]
      · exact absurd h q
end Mine
end PartW8
section PartW9
set_option maxHeartbeats 400000
namespace Mine
def tnIf1 : Stmt := match tnB with | _ :: _ :: _ :: a :: _ => a | _ => .Pass default
def tnC : List Stmt := match tnB with | _ :: _ :: _ :: _ :: r => r | _ => []
section
variable {h₀ : Heap} {mg mb : Str → Option Value} {H L : Addr} {vs W : List Value} {bs : List (Str × Value)} {w : World} {A : Around} {E : Value → Shared → Prop} {s : Shared} {f : Addr} {cd : Value} {key : Value → Option Int} {outer : List Env}

theorem if1_st {Dy : Addr} {yw : List Value} {ws : List Value} {odd st m : Nat} {t0 t1 : Tok} {brk : Bool} {Q : Flow → Shared → Prop} (G : Gd h₀ mg mb) (p : Fm h₀ L bs s.heap) (l1 : At bs "broken" (.bool brk)) (l2 : At bs "odd" (.int odd t0)) (l3 : At bs "start" (.int st t1)) (l4 : At bs "way" (.ref Dy))
    (hY : s.heap.IsList Dy yw.toArray) (iY : IntsAre yw (wayI (ltK key) ws st m)) (hlen : yw.length ≤ 2 ^ 20) (hb : brk = true ↔ ((wayI (ltK key) ws st m).any (· == (((odd : Nat) : Int) - 1).fdiv 2) = true ∨ (odd = st ∧ 1 < (wayI (ltK key) ws st m).length)))
    (hok : ∀ s', Go s s' → s'.heap = s.heap → Q .next s') :
    wpAny (model pw w) A (exec tnIf1 (lwEnv L f cd)) Q E s := by
  unfold tnIf1 tnB tnBody lwBody
  have fin : ∀ (s' : Shared) (b : Bool), Go s s' → s'.heap = s.heap → b = brk →
      wpAny (model pw w) A (compareOp .NotEq (.bool brk) (.bool b)) (fun v s₁ => wpAny (model pw w) A (truthy v) (fun b s₂ => if b = true then wpAny (model pw w) A (execs [.Return (some (.Constant (.bool false) 0 ⟨73, 19, 73, 24⟩)) ⟨73, 12, 73, 24⟩] (lwEnv L f cd)) Q E s₂ else wpAny (model pw w) A (execs [] (lwEnv L f cd)) Q E s₂) E s₁) E s' := by
    rintro s' b g e rfl
    refine ne_bool ?_
    refine wpAny_truthy_bool ?_
    rw [show (b != b) = false by cases b <;> rfl]
    simp only [Bool.false_eq_true, if_false]
    exact wpAny_execs_nil (hok s' g e)
  refine wpAny_If ?_
  refine wpAny_isTrue_Compare1 ?_
  refine Fm.ld p l1 ?_
  refine BoolOp_or ?_
  refine wpAny_Compare1 ?_
  refine wpAny_BinOp ?_
  refine wpAny_BinOp ?_
  refine Fm.ld p l2 ?_
  refine wpAny_Constant_int ?_
  refine sub_int ?_
  refine wpAny_Constant_int ?_
  refine floordiv_int (by decide) ?_
  refine Fm.ld (s := Shared.mk _ _ _ _ _) p l4 ?_
  refine in_list_ints (s := Shared.mk _ _ _ _ _) hY iY ?_
  refine wpAny_truthy_bool ?_
  cases h1 : (wayI (ltK key) ws st m).any (· == (((odd : Nat) : Int) - 1).fdiv 2) with
  | true =>
    simp only [if_true]
    have : brk = true := hb.mpr (.inl h1)
    exact fin _ true ⟨_, _, rfl⟩ rfl this.symm
  | false =>
    simp only [Bool.false_eq_true, if_false]
    refine BoolOp_one ?_
    refine BoolOp_and ?_
    refine wpAny_Compare1 ?_
    refine Fm.ld (s := Shared.mk _ _ _ _ _) p l2 ?_
    refine Fm.ld (s := Shared.mk _ _ _ _ _) p l3 ?_
    refine eq_int ?_
    refine wpAny_truthy_bool ?_
    by_cases h2 : odd = st
    · rw [show (((odd : Nat) : Int) == ((st : Nat) : Int)) = true by rw [h2]; simp]
      simp only [if_true]
      refine BoolOp_one ?_
      refine wpAny_Compare1 ?_
      refine Call_ ?_
      refine bltX (s := Shared.mk _ _ _ _ _) G p.keep boot_len ?_
      refine PyProof.Rows.callWith_builtin1 ?_
      refine args_cons ?_
      refine Fm.ld (s := Shared.mk _ _ _ _ _) p l4 ?_
      refine args_nil ?_
      refine Calls.call_len_list (s := Shared.mk _ _ _ _ _) hY (by rw [List.size_toArray]; omega) ?_
      rw [List.size_toArray]
      refine wpAny_Constant_int ?_
      refine gt_int ?_
      refine fin _ _ ⟨_, _, rfl⟩ rfl ?_
      have hl := iY.length
      rw [h1] at hb
      cases brk with
      | true =>
        rcases hb.mp rfl with q | q
        · cases q
        · exact decide_eq_true (by omega)
      | false =>
        refine decide_eq_false fun q => ?_
        have := hb.mpr (.inr ⟨h2, by omega⟩)
        cases this
    · rw [show (((odd : Nat) : Int) == ((st : Nat) : Int)) = false by simp; omega]
      simp only [Bool.false_eq_true, if_false]
      refine fin _ _ ⟨_, _, rfl⟩ rfl ?_
      cases brk with
      | false => rfl
      | true =>
        rcases hb.mp rfl with q | q
        · rw [h1] at q; cases q
        · exact absurd q.1 h2

theorem turnC {Dw Dr : Addr} {us : List Value} {st pz : Nat} {t1 tz : Tok} {brk : Bool} {X Hd : Value} {Q : Flow → Shared → Prop} (G : Gd h₀ mg mb) (dt : IsDef h₀ mg "_law_take_up" tkParams tkBody tkScope) (p : Fm h₀ L bs s.heap) (l1 : At bs "broken" (.bool brk)) (l3 : At bs "start" (.int st t1)) (l4 : At bs "size" (.int us.length tz)) (l5 : At bs "new" X) (l6 : At bs "hidden" Hd)
    (e2 : s.heap.IsCell (L + 1 + 1) (some (.ref Dw))) (e3 : s.heap.IsCell (L + 1 + 1 + 1) (some (.ref Dr))) (lw : s.heap.IsList Dw W.toArray) (lr : s.heap.IsList Dr us.toArray) (wr : Dw ≠ Dr) (nr0 : h₀.get? Dr = none)
    (hus : us.length ≤ 36) (hW : W.length = us.length) (hst : st < us.length) (hpz : pz < us.length) (hpn : nth us pz = .none) (hoth : ∀ k, k < us.length → k ≠ pz → nth us k ≠ .none)
    (kW : ∀ v ∈ W, Kd s.heap key v) (kU : ∀ v ∈ us.set pz Hd, Kd s.heap key v) (nU : ∀ v ∈ us.set pz Hd, v ≠ .ref Dr) (kX : Kd s.heap key X) (nX : X ≠ .ref Dr) (nW : ∀ v ∈ W, v ≠ .ref Dr)
    (hfin : if brk = true then Alt (ltK key) (us.set pz Hd) st X W else us.set pz Hd = W)
    (hh : A.handled = none) (hu : A.units + 200 < cLine) (hroom : A.depth + 2 < recursionLimit) (hfr : A.frames = some (lwEnv L f cd :: outer)) (hf : Frs s.heap outer) (hof : outer.filterMap (·.frame) = [])
    (hok : ∀ s' bs', Go s s' → Fm h₀ L bs' s'.heap → (∀ (x : Str) v, x ∈ (["numbers", "heap", "size", "odd"] : List Str) → At bs x v → At bs' x v) → Ch [L, Dr] s.heap s'.heap → Q .next s') :
    wpAny (model pw w) A (execs tnC (lwEnv L f cd)) Q E s := by
  have nl : ∀ b : Addr, b ∉ ([] : List Addr) := fun _ m => nomatch m
  have n0 : ∀ b ∈ ([] : List Addr), h₀.get? b = none := fun _ m => nomatch m
  have nL2 : L + 1 + 1 ≠ L := Nat.ne_of_gt (Nat.lt_succ_of_lt (Nat.lt_succ_self _))
  have nL3 : L + 1 + 1 + 1 ≠ L := Nat.ne_of_gt (Nat.lt_succ_of_lt (Nat.lt_succ_of_lt (Nat.lt_succ_self _)))
  have itm : ∀ k, k < us.length → k ≠ pz → Kd s.heap key (nth us k) := fun k h1 h2 => by
    have := kU (nth (us.set pz Hd) k) (nth_mem (by rw [List.length_set]; exact h1))
    rw [nth_set hpz, if_neg h2] at this
    exact this
  unfold tnC tnB tnBody lwBody
  -- stands
  refine wpAny_execs_cons ?_
  refine as_range (h₀ := h₀) (fun k => decide (nth us k = .none)) ?_ hh
  refine Call_ ?_
  refine bltX G p.keep PyProof.Rows.boot_range ?_
  refine PyProof.Rows.callWith_type1 ?_
  refine args_cons ?_
  refine Fm.ld p l4 ?_
  refine args_nil ?_
  refine rng1 us.length rfl fun s₁ r tr ur vr g₁ hr c₁ => ?_
  refine ⟨r, 0, us.length, _, _, _, _, rfl, hr, by omega, p.ch c₁ (nl _) n0, ?_, ?_⟩
  · intro C k t s₃ m₃ E' hC hk1 hk2 hns hm hkp
    have c₃ : Ch [] s.heap s₃.heap := fun b o n e => hkp b o (c₁ b o n e)
    refine wpAny_isTrue_Compare1 ?_
    refine Subscript_ ?_
    refine ldcE (c₃.isCell (nl _) e3) ?_
    refine ldE hns hm ?_
    refine getAt (c₃.isList (nl _) lr) (by omega) (by omega) (by omega) ?_
    rw [Int.toNat_natCast]
    refine Constant_none ?_
    refine isV ?_ (.inl rfl) ?_
    · by_cases q : k = pz
      · rw [q, hpn]; exact .inl rfl
      · exact ((itm k (by omega) q).ch c₃ (fun _ m => nomatch m)).at
    · exact wpAny_truthy_bool ⟨rfl, ⟨_, _, rfl, fun _ _ e => e⟩⟩
  · intro D s₂ ys g₂ hD y₂ i₂ p₂ c₂
    have c₂' : Ch [L] s.heap s₂.heap := c₁.nil.trans c₂
    have g₂' : Go s s₂ := g₁.trans g₂
    have hDs : s.heap.get? D = none := by
      cases q : s.heap.get? D with
      | none => rfl
      | some o => rw [c₁ D o (nl _) q] at hD; cases hD
    have hDr : D ≠ Dr := Ne.symm (ls_nn lr hDs)
    have hfl : filt 0 us.length (fun k => decide (nth us k = .none)) = [pz] := by
      have := filt_one (a := 0) (n := us.length) (i := pz) (pz := fun k => decide (nth us k = .none)) hpz (fun k _ k2 k3 => by simpa using hoth k (by omega) (by omega)) (by simpa using hpn)
      rw [Nat.zero_add] at this
      exact this
    rw [hfl] at i₂
    obtain ⟨tp, hz0, hzl⟩ := IntsAre.head (n := ((pz : Nat) : Int)) (ns := []) i₂
    have hy1 : ys.length = 1 := by rw [i₂.length]; rfl
    have lw₂ := c₂'.isList (not_mem_one (ls_nf lw p)) lw
    have lr₂ := c₂'.isList (not_mem_one (ls_nf lr p)) lr
    have e2₂ := c₂'.isCell (not_mem_one nL2) e2
    have e3₂ := c₂'.isCell (not_mem_one nL3) e3
    dsimp only
    clear c₁ c₂ g₁ g₂ hr hD
    -- len(stands) != 1
    refine wpAny_execs_cons ?_
    refine wpAny_If ?_
    refine wpAny_isTrue_Compare1 ?_
    refine Call_ ?_
    refine bltX G p₂.keep boot_len ?_
    refine PyProof.Rows.callWith_builtin1 ?_
    refine args_cons ?_
    refine Fm.ld p₂ rfl ?_
    refine args_nil ?_
    refine Calls.call_len_list y₂.isList (by rw [List.size_toArray]; omega) ?_
    rw [List.size_toArray, hy1]
    refine wpAny_Constant_int ?_
    refine ne_int ?_
    refine wpAny_truthy_bool ?_
    rw [show ((((1 : Nat) : Int)) != 1) = false from rfl]
    simp only [Bool.false_eq_true, if_false]
    refine wpAny_execs_nil ?_
    dsimp only
    -- row[stands[0]] = hidden
    refine wpAny_execs_cons ?_
    refine wpAny_Assign_Subscript ?_
    refine Fm.ld (s := Shared.mk _ _ _ _ _) p₂ l6 ?_
    refine ldc (s := Shared.mk _ _ _ _ _) e3₂ ?_
    refine Subscript_ ?_
    refine Fm.ld (s := Shared.mk _ _ _ _ _) p₂ rfl ?_
    refine wpAny_Constant_int ?_
    refine getAt (s := Shared.mk _ _ _ _ _) y₂.isList (by decide) hzl (by omega) ?_
    rw [show (0 : Int).toNat = 0 from rfl, hz0]
    refine setAt (s := Shared.mk _ _ _ _ _) lr₂ (by omega) (by omega) (by omega) fun s₃ g₃ lr₃ c₃ => ?_
    rw [Int.toNat_natCast] at lr₃
    dsimp only
    have c₃' : Ch [Dr] s₂.heap s₃.heap := c₃
    have g₃' : Go s s₃ := g₂'.trans (Go.trans ⟨_, _, rfl⟩ g₃)
    have nDL : L ∉ [Dr] := not_mem_one (Ne.symm (ls_nf lr p))
    have nD2 : L + 1 + 1 ∉ [Dr] := not_mem_one (Ne.symm (ls_nc lr e2))
    have nD3 : L + 1 + 1 + 1 ∉ [Dr] := not_mem_one (Ne.symm (ls_nc lr e3))
    have zr : ∀ b ∈ [Dr], h₀.get? b = none := fun b m => by rw [List.mem_singleton.mp m]; exact nr0
    have p₃ := p₂.ch c₃' nDL zr
    have lw₃ := c₃'.isList (not_mem_one wr) lw₂
    have e2₃ := c₃'.isCell nD2 e2₂
    have e3₃ := c₃'.isCell nD3 e3₂
    have C₃ : Ch [L, Dr] s.heap s₃.heap := (c₂'.mono (Y := [L, Dr]) fun b m => by rw [List.mem_singleton.mp m]; simp).skip c₃' fun b m => .inl (by rw [List.mem_singleton.mp m]; simp)
    have kch : ∀ {v}, Kd s.heap key v → v ≠ .ref Dr → Kd s₃.heap key v := fun k n => k.ch C₃ fun b m => by
      rcases List.mem_cons.mp m with q | q
      · rw [q]; exact k.nf p
      · rw [List.mem_singleton.mp q]; exact n
    have kU₃ : ∀ v ∈ us.set pz Hd, Kd s₃.heap key v := fun v hv => kch (kU v hv) (nU v hv)
    have kW₃ : ∀ v ∈ W, Kd s₃.heap key v := fun v hv => kch (kW v hv) (nW v hv)
    clear c₃ c₃' g₃ g₂' lr₂ lw₂ e2₂ e3₂ y₂ c₂' p₂
    -- the last two statements
    have last : ∀ s₄, Go s s₄ → Fm h₀ L (("stands", .ref D) :: bs) s₄.heap → s₄.heap.IsList Dr W.toArray → s₄.heap.IsList Dw W.toArray → s₄.heap.IsCell (L + 1 + 1) (some (.ref Dw)) → s₄.heap.IsCell (L + 1 + 1 + 1) (some (.ref Dr)) → (∀ v ∈ W, Kd s₄.heap key v) → Ch [L, Dr] s.heap s₄.heap →
        wpAny (model pw w) A (execs (match tnC with | _ :: _ :: _ :: _ :: r => r | _ => []) (lwEnv L f cd)) Q E s₄ := by
      intro s₄ g₄ p₄ lr₄ lw₄ e2₄ e3₄ k₄ C₄
      unfold tnC tnB tnBody lwBody
      refine wpAny_execs_cons ?_
      refine wpAny_If ?_
      refine wpAny_isTrue_Compare1 ?_
      refine lc_range (fun k => !decide (nth W k = nth W k)) ?_ hh
      refine Call_ ?_
      refine bltX G p₄.keep PyProof.Rows.boot_range ?_
      refine PyProof.Rows.callWith_type1 ?_
      refine args_cons ?_
      refine Fm.ld p₄ l4 ?_
      refine args_nil ?_
      refine rng1 us.length rfl fun s₅ r tr ur vr g₅ hr c₅ => ?_
      refine ⟨r, 0, us.length, _, _, _, rfl, hr, by omega, ?_, ?_⟩
      · intro C k t s₆ m₆ E' hC hk1 hk2 hns hm hkp
        have c₆ : Ch [] s₄.heap s₆.heap := fun b o n e => hkp b o (c₅ b o n e)
        refine wpAny_isTrue_Compare1 ?_
        refine Subscript_ ?_
        refine ldcE (c₆.isCell (nl _) e3₄) ?_
        refine ldE hns hm ?_
        refine getAt (c₆.isList (nl _) lr₄) (by omega) (by omega) (by omega) ?_
        refine Subscript_ ?_
        refine ldcE (c₆.isCell (nl _) e2₄) ?_
        refine ldE hns hm ?_
        refine getAt (c₆.isList (nl _) lw₄) (by omega) (by omega) (by omega) ?_
        rw [Int.toNat_natCast]
        have ki := ((k₄ _ (nth_mem (vs := W) (i := k) (by omega))).ch c₆ (fun _ m => nomatch m)).at
        refine isNotV ki ki ?_
        exact wpAny_truthy_bool ⟨rfl, ⟨_, _, rfl, fun _ _ e => e⟩⟩
      · intro D3 s₆ zs g₆ hD3 y₆ i₆ c₆
        have hf3 : filt 0 us.length (fun k => !decide (nth W k = nth W k)) = [] := filt_nil fun k _ _ => by simp
        rw [hf3] at i₆
        refine List_ ?_
        refine args_nil ?_
        refine newL (by simp) fun s₇ D4 g₇ hD4 y₇ c₇ => ?_
        refine ke_ne_ints (c₇.plain (nl _) y₆).isList y₇.isList i₆ .nil (by omega) ?_
        refine wpAny_truthy_bool ?_
        simp only [List.map_nil, decide_true, Bool.not_true, Bool.false_eq_true, if_false]
        refine wpAny_execs_nil ?_
        dsimp only
        refine wpAny_execs_nil ?_
        have cc : Ch [] s₄.heap s₇.heap := (c₅.trans c₆).trans c₇
        exact hok s₇ _ (g₄.trans (g₅.trans (g₆.trans g₇))) (p₄.ch cc (nl _) n0) (fun x v m h => at_skip (by rintro rfl; revert m; decide) h) (C₄.skip0 cc)
    -- if broken
    refine wpAny_execs_cons ?_
    refine wpAny_If ?_
    refine wpAny_isTrue_value ?_
    refine Fm.ld p₃ l1 ?_
    refine wpAny_truthy_bool ?_
    cases brk with
    | false =>
      simp only [Bool.false_eq_true, if_false] at hfin ⊢
      refine wpAny_execs_nil ?_
      dsimp only
      exact last s₃ g₃' p₃ (by rw [← hfin]; exact lr₃) lw₃ e2₃ e3₃ kW₃ C₃
    | true =>
      simp only [if_true] at hfin ⊢
      obtain ⟨f', o', pm', cd', doc', q1, q2, q3, q4⟩ := dt
      refine wpAny_execs_cons ?_
      refine wpAny_Expr ?_
      refine Call_ ?_
      refine globX G p₃.keep q1 ?_
      refine callWith_def q3 ?_
      refine args_cons ?_
      refine ldc e3₃ ?_
      refine args_cons ?_
      refine Fm.ld p₃ l3 ?_
      refine args_cons ?_
      refine Fm.ld p₃ l5 ?_
      refine args_nil ⟨p₃.keep _ _ q2, ?_⟩
      have hfs : Frs s₃.heap (lwEnv L f cd :: outer) := by
        obtain ⟨oL, es, ep, hL, hLd⟩ := p₃.frm
        exact ⟨rfl, ⟨L, oL, es, ep, rfl, hL, hLd⟩, hf.chg C₃ fun b _ q => by rw [hof] at q; cases q⟩
      refine wpAny_call (tk_call (key := key) G p₃.keep p₃.sz q2 q3 q4 hroom lr₃ nr0 kU₃ (kch kX nX) nU nX (by rw [List.length_set]; exact hst) (by rw [List.length_set]; omega) hh (by omega) hfr hfs hfin fun s₄ g₄ l₄ c₄ => ?_)
      dsimp only
      refine wpAny_execs_nil ?_
      dsimp only
      exact last s₄ (g₃'.trans g₄) (p₃.ch c₄ nDL zr) l₄ (c₄.isList (not_mem_one wr) lw₃) (c₄.isCell nD2 e2₃) (c₄.isCell nD3 e3₃) (fun v hv => (kW₃ v hv).ch c₄ fun b m => by rw [List.mem_singleton.mp m]; exact nW v hv) (C₃.skip c₄ fun b m => .inl (by rw [List.mem_singleton.mp m]; simp))
end
end Mine
end PartW9
section PartW10
set_option maxHeartbeats 400000
namespace Mine
theorem Fm.slots {h₀ h h' : Heap} {L : Addr} {bs : List (Str × Value)} (f : Fm h₀ L bs h) {X : List Addr} (c : Ch X h h') (z : ∀ b ∈ X, h₀.get? b = none) (hL : ∀ o, h.get? L = some o → ∃ sl, h'.get? L = some { o with slots := sl }) : Fm h₀ L bs h' := by
  obtain ⟨m, F, l⟩ := f
  refine ⟨m, ⟨?_, fun b o e => c b o (fun q => by rw [z b q] at e; cases e) (F.keep b o e), F.above⟩, l⟩
  obtain ⟨oL, es, ep, e, d, r⟩ := F.ns
  obtain ⟨sl, e'⟩ := hL oL e
  exact ⟨_, es, ep, e', d, r⟩
section
variable {h₀ : Heap} {mg mb : Str → Option Value} {H L : Addr} {vs W : List Value} {bs : List (Str × Value)} {w : World} {A : Around} {E : Value → Shared → Prop} {s : Shared} {f : Addr} {cd : Value} {key : Value → Option Int} {outer : List Env}

theorem turnB {Dw Dr : Addr} {ws : List Value} {st odd : Nat} {t0 t1 tz : Tok} {Q : Flow → Shared → Prop} (G : Gd h₀ mg mb) (dw : IsDef h₀ mg "_law_way" wyParams wyBody wyScope) (db : IsDef h₀ mg "_law_breaks_off" bkParams bkBody bkScope) (dt : IsDef h₀ mg "_law_take_up" tkParams tkBody tkScope)
    (p : Fm h₀ L bs s.heap) (l2 : At bs "odd" (.int odd t0)) (l3 : At bs "start" (.int st t1)) (l4 : At bs "size" (.int ws.length tz)) (l5 : At bs "new" (nth ws st)) (l6 : At bs "hidden" (nth ws odd))
    (e2 : s.heap.IsCell (L + 1 + 1) (some (.ref Dw))) (e3 : s.heap.IsCell (L + 1 + 1 + 1) (some (.ref Dr))) (lw : s.heap.IsList Dw ws.toArray) (lr : s.heap.IsList Dr (ws.set odd .none).toArray) (wr : Dw ≠ Dr) (nw0 : h₀.get? Dw = none) (nr0 : h₀.get? Dr = none)
    (hlen : ws.length ≤ 36) (hst : st ≤ odd) (hodd : odd < ws.length) (kd : ∀ v ∈ ws, Kd s.heap key v) (nW : ∀ v ∈ ws, v ≠ .ref Dw) (nR : ∀ v ∈ ws, v ≠ .ref Dr) (hk0 : key .none = none) (inj : Inj ws)
    (hord : ∀ k, 0 < k → k < ws.length → (k - 1) / 2 ≠ st → k ≠ st → ltK key (nth ws k) (nth ws ((k - 1) / 2)) = some false)
    (hh : A.handled = none) (hu : A.units + 200 < cLine) (hroom : A.depth + 2 < recursionLimit) (hfr : A.frames = some (lwEnv L f cd :: outer)) (hf : Frs s.heap outer) (hof : outer.filterMap (·.frame) = [])
    (hok : ∀ s' bs', Go s s' → Fm h₀ L bs' s'.heap → (∀ (x : Str) v, x ∈ (["numbers", "heap", "size", "odd"] : List Str) → At bs x v → At bs' x v) → Ch [L, Dw, Dr] s.heap s'.heap → Q .next s') :
    wpAny (model pw w) A (execs tnB (lwEnv L f cd)) Q E s := by
  have nl : ∀ b : Addr, b ∉ ([] : List Addr) := fun _ m => nomatch m
  have n0 : ∀ b ∈ ([] : List Addr), h₀.get? b = none := fun _ m => nomatch m
  have nL2 : L + 1 + 1 ≠ L := Nat.ne_of_gt (Nat.lt_succ_of_lt (Nat.lt_succ_self _))
  have nL3 : L + 1 + 1 + 1 ≠ L := Nat.ne_of_gt (Nat.lt_succ_of_lt (Nat.lt_succ_of_lt (Nat.lt_succ_self _)))
  have hak : AllK key ws := fun v hv => (kd v hv).key
  obtain ⟨W, qs, hW, hWF, _⟩ := whole_spec hak (st := st) (by omega)
  have hWm : Sub W ws := by
    have := siftup_mem (lt := ltK key) (pos := st) (vs := ws) (by omega)
    rw [hW] at this; exact this
  unfold tnB tnBody lwBody
  -- way
  obtain ⟨f1, o1, pm1, cd1, doc1, a1, a2, a3, a4⟩ := dw
  refine wpAny_execs_cons ?_
  refine wpAny_Assign_Name ?_
  refine Call_ ?_
  refine globX G p.keep a1 ?_
  refine callWith_def a3 ?_
  refine args_cons ?_
  refine ldc e2 ?_
  refine args_cons ?_
  refine Fm.ld p l3 ?_
  refine args_nil ⟨p.keep _ _ a2, ?_⟩
  refine wpAny_call (wy_call (key := key) G p.keep p.sz a2 a3 a4 (by omega) lw kd (by omega) (by omega) hh (by omega) fun Dy m yw s₁ g₁ hDy y₁ i₁ m1 m2 c₁ => ?_)
  dsimp only
  have p₁ := p.ch c₁ (nl _) n0
  have zy : s.heap.get? Dy = none := get_none hDy
  refine Fm.st p₁ fun s₂ g₂ p₂ c₂ => ?_
  have c₂' : Ch [L] s.heap s₂.heap := c₁.nil.trans c₂
  have lw₂ := c₂'.isList (not_mem_one (ls_nf lw p)) lw
  have lr₂ := c₂'.isList (not_mem_one (ls_nf lr p)) lr
  have e2₂ := c₂'.isCell (not_mem_one nL2) e2
  have e3₂ := c₂'.isCell (not_mem_one nL3) e3
  have y₂ := c₂.isList (not_mem_one (ls_nf y₁.isList p₁)) y₁.isList
  have kd₂ : ∀ v ∈ ws, Kd s₂.heap key v := fun v hv => (kd v hv).ch c₂' fun b m => by rw [List.mem_singleton.mp m]; exact (kd v hv).nf p
  have hf₂ : Frs s₂.heap outer := hf.chg c₂' fun b _ q => by rw [hof] at q; cases q
  have hfs₂ : Frs s₂.heap (lwEnv L f cd :: outer) := by
    obtain ⟨oL, es, ep, hL, hLd⟩ := p₂.frm
    exact ⟨rfl, ⟨L, oL, es, ep, rfl, hL, hLd⟩, hf₂⟩
  have g₂' : Go s s₂ := g₁.trans g₂
  have nyw : Dy ≠ Dw := Ne.symm (ls_nn lw zy)
  have nyr : Dy ≠ Dr := Ne.symm (ls_nn lr zy)
  have hyl : yw.length = m + 1 := by rw [i₁.length]; unfold wayI; simp
  have hym : m < 2 ^ 20 - 1 := by
    have : ∀ i, i ≤ pth (ltK key) ws st i := by
      intro i
      induction i with
      | zero => exact Nat.zero_le _
      | succ i ih => have := pth_lt (lt := ltK key) (ws := ws) (st := st) (i := i) (j := i + 1) (by omega); omega
    have := this m
    omega
  clear c₁ c₂ g₁ g₂ p₁ y₁
  -- _siftup(whole, start)
  obtain ⟨f2, o2, pm2, cd2, doc2, b1, b2, b3, b4⟩ := G.su
  refine wpAny_execs_cons ?_
  refine wpAny_Expr ?_
  refine Call_ ?_
  refine globX G p₂.keep b1 ?_
  refine callWith_def b3 ?_
  refine args_cons ?_
  refine ldc e2₂ ?_
  refine args_cons ?_
  refine Fm.ld p₂ l3 ?_
  refine args_nil ⟨p₂.keep _ _ b2, ?_⟩
  refine wpAny_call (su_call G p₂.keep p₂.sz b2 b3 b4 (by omega) lw₂ nw0 (fun v hv => (kd₂ v hv).itm (nW v hv)) (by omega) (by omega) hh (by omega) hfr hfs₂ (fun us s₃ g₃ q₃ lw₃ k₃ => ?_) (fun us s₃ h₁ fs e g₃ q₃ _ _ _ _ _ => ?_))
  rotate_left
  · rw [hW] at q₃; cases q₃
  rw [hW] at q₃
  cases q₃
  dsimp only
  have c₃ : Ch [Dw] s₂.heap s₃.heap := fun b o n e => k₃ b o (fun q => n (by rw [q]; simp)) e
  have zw : ∀ b ∈ [Dw], h₀.get? b = none := fun b m => by rw [List.mem_singleton.mp m]; exact nw0
  have p₃ := p₂.ch c₃ (not_mem_one (Ne.symm (ls_nf lw p))) zw
  have lr₃ := c₃.isList (not_mem_one (Ne.symm wr)) lr₂
  have e2₃ := c₃.isCell (not_mem_one (Ne.symm (ls_nc lw e2))) e2₂
  have e3₃ := c₃.isCell (not_mem_one (Ne.symm (ls_nc lw e3))) e3₂
  have y₃ := c₃.isList (not_mem_one nyw) y₂
  have kd₃ : ∀ v ∈ ws, Kd s₃.heap key v := fun v hv => (kd₂ v hv).ch c₃ fun b m => by rw [List.mem_singleton.mp m]; exact nW v hv
  have C₃ : Ch [L, Dw, Dr] s.heap s₃.heap := (c₂'.mono (Y := [L, Dw, Dr]) fun b m => by rw [List.mem_singleton.mp m]; simp).skip c₃ fun b m => .inl (by rw [List.mem_singleton.mp m]; simp)
  have hf₃ : Frs s₃.heap outer := hf₂.chg c₃ fun b _ q => by rw [hof] at q; cases q
  have hfs₃ : Frs s₃.heap (lwEnv L f cd :: outer) := by
    obtain ⟨oL, es, ep, hL, hLd⟩ := p₃.frm
    exact ⟨rfl, ⟨L, oL, es, ep, rfl, hL, hLd⟩, hf₃⟩
  have g₃' : Go s s₃ := g₂'.trans g₃
  clear c₃ k₃ g₃ g₂' lr₂ e2₂ e3₂ y₂ kd₂ p₂ lw₂ hfs₂ hf₂ c₂'
  -- what comes behind the call that may break off
  have hX : nth ws st ∈ ws := nth_mem (by omega)
  have hHd : nth ws odd ∈ ws := nth_mem hodd
  have rs := row_spec (odd := odd) hak hk0 (by omega) hodd inj hord hW
  have hfrm : (lwEnv L f cd :: outer).filterMap (·.frame) = [L] := by rw [List.filterMap_cons, hof]
  have hsub : ∀ us, (siftup (ltK key) (ws.set odd .none) st = .ok us ∨ siftup (ltK key) (ws.set odd .none) st = .error us) → Sub us (ws.set odd .none) := by
    intro us h
    have := siftup_mem (lt := ltK key) (pos := st) (vs := ws.set odd .none) (by rw [List.length_set]; omega)
    rcases h with h | h
    · rw [h] at this; exact this
    · rw [h] at this; exact this
  have rest : ∀ (brk : Bool) us pz s₄, Go s s₄ → Fm h₀ L (("way", .ref Dy) :: bs) s₄.heap → Ch [L, Dr] s₃.heap s₄.heap → s₄.heap.IsList Dr (List.toArray us) → Sub us (ws.set odd .none) → (brk = true ↔ Brk (ltK key) ws st odd) → us.length = ws.length → pz < ws.length → nth us pz = .none → (∀ k, k < ws.length → k ≠ pz → nth us k ≠ .none) →
      (if brk = true then Alt (ltK key) (us.set pz (nth ws odd)) st (nth ws st) W else us.set pz (nth ws odd) = W) →
      wpAny (model pw w) A (storeName (lwEnv L f cd) "broken" (.bool brk)) (fun _ s₅ => wpAny (model pw w) A (execs (match tnB with | _ :: _ :: _ :: r => r | _ => []) (lwEnv L f cd)) Q E s₅) E s₄ := by
    intro brk us pz s₄ g₄ p₄ c₄ l₄ hs hb hul hpz hpn hoth hfin
    refine Fm.st p₄ fun s₅ g₅ p₅ c₅ => ?_
    have c₅' : Ch [L, Dr] s₃.heap s₅.heap := c₄.skip c₅ fun b m => .inl (by rw [List.mem_singleton.mp m]; simp)
    have nX2 : ∀ {a items}, s₃.heap.IsList a items → a ≠ Dr → a ∉ [L, Dr] := fun l n m => by
      rcases List.mem_cons.mp m with q | q
      · exact ls_nf l p₃ q
      · exact n (List.mem_singleton.mp q)
    have nC2 : ∀ {a v}, s₃.heap.IsCell a v → a ≠ L → a ∉ [L, Dr] := fun c n m => by
      rcases List.mem_cons.mp m with q | q
      · exact n q
      · exact ls_nc lr₃ c (List.mem_singleton.mp q).symm
    have y₅ := c₅'.isList (nX2 y₃ nyr) y₃
    have lw₅ := c₅'.isList (nX2 lw₃ wr) lw₃
    have e2₅ := c₅'.isCell (nC2 e2₃ nL2) e2₃
    have e3₅ := c₅'.isCell (nC2 e3₃ nL3) e3₃
    have lr₅ := c₅.isList (not_mem_one (ls_nf l₄ p₄)) l₄
    have kd₅ : ∀ v ∈ ws, Kd s₅.heap key v := fun v hv => (kd₃ v hv).ch c₅' fun b m => by
      rcases List.mem_cons.mp m with q | q
      · rw [q]; exact (kd₃ v hv).nf p₃
      · rw [List.mem_singleton.mp q]; exact nR v hv
    have mem : ∀ v ∈ us.set pz (nth ws odd), v ∈ ws := fun v hv => by
      obtain ⟨k, hk, rfl⟩ : ∃ k, k < ws.length ∧ nth (us.set pz (nth ws odd)) k = v := by
        obtain ⟨k, hk, e⟩ := List.mem_iff_getElem.mp hv
        rw [List.length_set, hul] at hk
        exact ⟨k, hk, by rw [← e]; simp [nth, hul, hk]⟩
      rw [nth_set (by omega)]
      by_cases q : k = pz
      · rw [if_pos q]; exact hHd
      · rw [if_neg q]
        have := hs.2 _ (nth_mem (vs := us) (i := k) (by omega))
        rcases List.mem_or_eq_of_mem_set this with h | h
        · exact h
        · exact absurd h (hoth k hk q)
    unfold tnB tnBody lwBody
    refine wpAny_execs_cons ?_
    refine if1_st (key := key) (ws := ws) (m := m) G p₅ rfl (at_skip (by decide) (at_skip (by decide) l2)) (at_skip (by decide) (at_skip (by decide) l3)) (at_skip (by decide) rfl) y₅ i₁ (by omega) (hb.trans (way_test hst m1 m2).symm) fun s₆ g₆ h₆ => ?_
    dsimp only
    have l4' : At bs "size" (.int us.length tz) := by rw [hul]; exact l4
    have c₆ : Ch [] s₅.heap s₆.heap := fun b o _ e => by rw [h₆]; exact e
    refine turnC (key := key) (us := us) (W := W) (pz := pz) (brk := brk) G dt (p₅.ch c₆ (nl _) n0) rfl (at_skip (by decide) (at_skip (by decide) l3)) (at_skip (by decide) (at_skip (by decide) l4')) (at_skip (by decide) (at_skip (by decide) l5)) (at_skip (by decide) (at_skip (by decide) l6)) (c₆.isCell (nl _) e2₅) (c₆.isCell (nl _) e3₅) (c₆.isList (nl _) lw₅) (c₆.isList (nl _) lr₅) wr nr0
      (by omega) (by rw [hWm.1, hul]) (by omega) (by omega) hpn (fun k h1 h2 => hoth k (by omega) h2) (fun v hv => (kd₅ v (hWm.2 v hv)).ch c₆ (fun _ m => nomatch m)) (fun v hv => (kd₅ v (mem v hv)).ch c₆ (fun _ m => nomatch m)) (fun v hv => nR v (mem v hv)) ((kd₅ _ hX).ch c₆ (fun _ m => nomatch m)) (nR _ hX) (fun v hv => nR v (hWm.2 v hv)) hfin hh hu hroom hfr
      ((hf₃.chg c₅' fun b _ q => by rw [hof] at q; cases q).chg c₆ fun b m => nomatch m) hof fun s₇ bs₇ g₇ p₇ k₇ c₇ => ?_
    refine hok s₇ bs₇ (g₄.trans (g₅.trans (g₆.trans g₇))) p₇ (fun x v m h => k₇ x v m (at_skip (by rintro rfl; revert m; decide) (at_skip (by rintro rfl; revert m; decide) h))) ?_
    exact ((C₃.skip c₅' fun b m => .inl (by rcases List.mem_cons.mp m with q | q
                                            · rw [q]; simp
                                            · rw [List.mem_singleton.mp q]; simp)).skip0 c₆).skip c₇ fun b m => .inl (by
      rcases List.mem_cons.mp m with q | q
      · rw [q]; simp
      · rw [List.mem_singleton.mp q]; simp)
  -- broken = _law_breaks_off(row, start)
  obtain ⟨f3, o3, pm3, cd3, doc3, d1, d2, d3, d4⟩ := db
  refine wpAny_execs_cons ?_
  refine wpAny_Assign_Name ?_
  refine Call_ ?_
  refine globX G p₃.keep d1 ?_
  refine callWith_def d3 ?_
  refine args_cons ?_
  refine ldc e3₃ ?_
  refine args_cons ?_
  refine Fm.ld p₃ l3 ?_
  refine args_nil ⟨p₃.keep _ _ d2, ?_⟩
  have itm : ∀ v ∈ ws.set odd .none, Itm s₃.heap Dr key v := fun v hv => by
    rcases List.mem_or_eq_of_mem_set hv with h | h
    · exact (kd₃ v h).itm (nR v h)
    · rw [h]; exact .inl ⟨rfl, hk0⟩
  have zfr : ∀ b ∈ (lwEnv L f cd :: outer).filterMap (·.frame), h₀.get? b = none := fun b m => by
    rw [hfrm] at m; rw [List.mem_singleton.mp m]; exact base_none p.ge
  refine wpAny_call (bk_call G p₃.keep p₃.sz d2 d3 d4 hroom lr₃ nr0 itm (by rw [List.length_set]; omega) (by rw [List.length_set]; omega) hh (by omega) hfr hfs₃ zfr (fun us s₄ g₄ q₄ l₄ c₄ => ?_) (fun us s₄ g₄ q₄ l₄ c₄ sl₄ => ?_))
  · dsimp only
    rcases rs with ⟨us', pz, h1, h2, h3, h4, h5, h6, h7⟩ | ⟨us', pz, h1, _⟩
    · rw [q₄] at h1; cases h1
      exact rest false us pz s₄ (g₃'.trans g₄) (p₃.ch c₄ (not_mem_one (Ne.symm (ls_nf lr p))) (fun b m => by rw [List.mem_singleton.mp m]; exact nr0)) (c₄.mono fun b m => by rw [List.mem_singleton.mp m]; simp) l₄ (hsub us (.inl q₄)) ⟨fun q => (by cases q), fun q => absurd q h2⟩ h3 h4 h5 h6 (by simpa using h7)
    · rw [q₄] at h1; cases h1
  · dsimp only
    rcases rs with ⟨us', pz, h1, _⟩ | ⟨us', pz, h1, h2, h3, h4, h5, h6, h7⟩
    · rw [q₄] at h1; cases h1
    · rw [q₄] at h1; cases h1
      rw [hfrm] at c₄
      refine rest true us pz s₄ (g₃'.trans g₄) (p₃.slots c₄ (fun b m => ?_) fun o e => sl₄ L o (Ne.symm (ls_nf lr p)) e) (c₄.mono fun b m => ?_) l₄ (hsub us (.inr q₄)) ⟨fun _ => h2, fun _ => rfl⟩ h3 h4 h5 h6 (by simpa using h7)
      · rcases List.mem_cons.mp m with q | q
        · rw [q]; exact nr0
        · rw [List.mem_singleton.mp q]; exact base_none p.ge
      · rcases List.mem_cons.mp m with q | q
        · rw [q]; simp
        · rw [List.mem_singleton.mp q]; simp
end
end Mine
end PartW10
section PartW11
set_option maxHeartbeats 400000
namespace Mine
section
variable {h₀ : Heap} {mg mb : Str → Option Value} {H L : Addr} {vs W : List Value} {bs : List (Str × Value)} {w : World} {A : Around} {E : Value → Shared → Prop} {s : Shared} {f : Addr} {cd : Value} {key : Value → Option Int} {outer : List Env}

theorem turn {N : Addr} {ys : List Value} {ns : List Int} {odd : Nat} {t0 tz : Tok} {v2 v3 : Option Value} {Q : Flow → Shared → Prop} (G : Gd h₀ mg mb) (dw : IsDef h₀ mg "_law_way" wyParams wyBody wyScope) (db : IsDef h₀ mg "_law_breaks_off" bkParams bkBody bkScope) (dt : IsDef h₀ mg "_law_take_up" tkParams tkBody tkScope)
    (p : Fm h₀ L bs s.heap) (l1 : At bs "numbers" (.ref N)) (l2 : At bs "odd" (.int odd t0)) (l3 : At bs "heap" (.ref H)) (l4 : At bs "size" (.int vs.length tz))
    (e2 : s.heap.IsCell (L + 1 + 1) v2) (e3 : s.heap.IsCell (L + 1 + 1 + 1) v3)
    (hN : s.heap.IsList N ys.toArray) (iN : IntsAre ys ns) (hy : ys.length = vs.length) (hlen : vs.length ≤ 36) (hodd : odd < vs.length) (hH : s.heap.IsList H vs.toArray) (kd : ∀ v ∈ vs, Kd s.heap key v) (hk0 : key .none = none) (inj : Inj vs) (hp : Hp key 0 vs)
    (hh : A.handled = none) (hu : A.units + 200 < cLine) (hroom : A.depth + 2 < recursionLimit) (hfr : A.frames = some (lwEnv L f cd :: outer)) (hf : Frs s.heap outer) (hof : outer.filterMap (·.frame) = [])
    (hok : ∀ s' bs', Go s s' → Fm h₀ L bs' s'.heap → (∀ (x : Str) v, x ∈ (["numbers", "heap", "size", "odd"] : List Str) → At bs x v → At bs' x v) → (∃ v, s'.heap.IsCell (L + 1 + 1) v) → (∃ v, s'.heap.IsCell (L + 1 + 1 + 1) v) → Ch (fX L) s.heap s'.heap → Q .next s') :
    wpAny (model pw w) A (execs tnBody (lwEnv L f cd)) Q E s := by
  have nL2 : L + 1 + 1 ≠ L := Nat.ne_of_gt (Nat.lt_succ_of_lt (Nat.lt_succ_self _))
  have nL3 : L + 1 + 1 + 1 ≠ L := Nat.ne_of_gt (Nat.lt_succ_of_lt (Nat.lt_succ_of_lt (Nat.lt_succ_self _)))
  show wpAny (model pw w) A (execs (tnA ++ tnB) (lwEnv L f cd)) Q E s
  refine turnA (rest := tnB) (key := key) G p l1 l2 l3 e2 e3 hN iN hy hlen hodd hH kd hk0 inj hp hh fun s₁ bs₁ st t ws key' Dw Dr g₁ hst p₁ a1 a2 a3 k₁ c₁ E2 E3 lw lr wr w0 r0 hwl kd₁ nW nR hk0' inj' hord => ?_
  have base : ∀ {D}, s.heap.get? D = none → h₀.get? D = none := fun {D} z => by
    cases q : h₀.get? D with
    | none => rfl
    | some o => rw [p.keep _ _ q] at z; cases z
  refine turnB (key := key') G dw db dt p₁ (k₁ _ _ (by decide) l2) a1 (by rw [hwl]; exact k₁ _ _ (by decide) l4) a2 a3 E2 E3 lw lr wr (base w0) (base r0) (by omega) hst (by omega) kd₁ nW nR hk0' inj' hord hh hu hroom hfr (hf.chg c₁ fun b _ q => by rw [hof] at q; cases q) hof fun s₂ bs₂ g₂ p₂ k₂ c₂ => ?_
  have nc : ∀ {a v}, s₁.heap.IsCell a v → a ≠ L → a ∉ [L, Dw, Dr] := fun c n m => by
    rcases List.mem_cons.mp m with q | q
    · exact n q
    · rcases List.mem_cons.mp q with q | q
      · exact ls_nc lw c q.symm
      · exact ls_nc lr c (List.mem_singleton.mp q).symm
  refine hok s₂ bs₂ (g₁.trans g₂) p₂ (fun x v m h => k₂ x v m (k₁ x v m h)) ⟨_, c₂.isCell (nc E2 nL2) E2⟩ ⟨_, c₂.isCell (nc E3 nL3) E3⟩ (c₁.skip c₂ fun b m => ?_)
  rcases List.mem_cons.mp m with q | q
  · rw [q]; exact .inl (by simp)
  · rcases List.mem_cons.mp q with q | q
    · rw [q]; exact .inr w0
    · rw [List.mem_singleton.mp q]; exact .inr r0

theorem lw_body {S : Addr} {sv : List Value} {sn : List Int} {v2 v3 : Option Value} {Q : Flow → Shared → Prop} (G : Gd h₀ mg mb) (dw : IsDef h₀ mg "_law_way" wyParams wyBody wyScope) (db : IsDef h₀ mg "_law_breaks_off" bkParams bkBody bkScope) (dt : IsDef h₀ mg "_law_take_up" tkParams tkBody tkScope)
    (p : Fm h₀ L bs s.heap) (e1 : s.heap.IsCell (L + 1) (some (.ref S))) (e2 : s.heap.IsCell (L + 1 + 1) v2) (e3 : s.heap.IsCell (L + 1 + 1 + 1) v3) (hS : s.heap.IsList S sv.toArray) (iS : IntsAre sv sn) (hlen : sv.length ≤ 63)
    (hh : A.handled = none) (hu : A.units + 200 < cLine) (hroom : A.depth + 2 < recursionLimit) (hfr : A.frames = some (lwEnv L f cd :: outer)) (hf : Frs s.heap outer) (hof : outer.filterMap (·.frame) = [])
    (hok : ∀ s', Go s s' → (∀ b o, h₀.get? b = some o → s'.heap.get? b = some o) → Q (.ret (.bool true)) s') :
    wpAny (model pw w) A (execs lwBody (lwEnv L f cd)) Q E s := by
  have nl : ∀ b : Addr, b ∉ ([] : List Addr) := fun _ m => nomatch m
  have n0 : ∀ b ∈ ([] : List Addr), h₀.get? b = none := fun _ m => nomatch m
  have nL2 : L + 1 + 1 ≠ L := Nat.ne_of_gt (Nat.lt_succ_of_lt (Nat.lt_succ_self _))
  have nL3 : L + 1 + 1 + 1 ≠ L := Nat.ne_of_gt (Nat.lt_succ_of_lt (Nat.lt_succ_of_lt (Nat.lt_succ_self _)))
  have hc2 : h₀.get? (L + 1 + 1) = none := base_none (Nat.le_trans p.ge (Nat.le_trans (Nat.le_succ _) (Nat.le_succ _)))
  have hc3 : h₀.get? (L + 1 + 1 + 1) = none := base_none (Nat.le_trans p.ge (Nat.le_trans (Nat.le_succ _) (Nat.le_trans (Nat.le_succ _) (Nat.le_succ _))))
  unfold lwBody
  -- numbers
  refine wpAny_execs_cons ?_
  refine nums_st G p e1 hS iS hlen hh fun N s₁ ys ns g₁ hN y₁ iN hy6 hy36 p₁ c₁ => ?_
  dsimp only
  -- size
  refine wpAny_execs_cons ?_
  refine wpAny_Assign_Name ?_
  refine Call_ ?_
  refine bltX G p₁.keep boot_len ?_
  refine PyProof.Rows.callWith_builtin1 ?_
  refine args_cons ?_
  refine Fm.ld p₁ rfl ?_
  refine args_nil ?_
  refine Calls.call_len_list y₁.isList (by rw [List.size_toArray]; omega) ?_
  rw [List.size_toArray]
  refine Fm.st (s := Shared.mk _ _ _ _ _) p₁ fun s₂ g₂ p₂ c₂ => ?_
  dsimp only
  have c₂' : Ch [L] s₁.heap s₂.heap := c₂
  have g₂' : Go s s₂ := g₁.trans (Go.trans ⟨_, _, rfl⟩ g₂)
  have y₂ := c₂'.isList (not_mem_one (ls_nf y₁.isList p₁)) y₁.isList
  have C₂ : Ch [L] s.heap s₂.heap := c₁.trans c₂'
  clear c₁ c₂ c₂' g₁ g₂ y₁
  -- heap
  refine wpAny_execs_cons ?_
  refine heap_st p₂ (at_skip (by decide) rfl) y₂ iN hy36 hh fun H s₃ vs key g₃ hH y₃ hvl kd₃ hk0 inj₃ nH p₃ c₃ nov => ?_
  dsimp only
  have C₃ : Ch [L] s.heap s₃.heap := C₂.trans c₃
  have yN₃ := c₃.isList (not_mem_one (ls_nf y₂ p₂)) y₂
  have nH0 : h₀.get? H = none := by
    cases q : h₀.get? H with
    | none => rfl
    | some o => rw [p₂.keep _ _ q] at hH; cases hH
  have hNH : N ≠ H := ls_nn y₂ hH
  have hf₃ : Frs s₃.heap outer := hf.chg C₃ fun b _ q => by rw [hof] at q; cases q
  have hfs₃ : Frs s₃.heap (lwEnv L f cd :: outer) := by
    obtain ⟨oL, es, ep, hL, hLd⟩ := p₃.frm
    exact ⟨rfl, ⟨L, oL, es, ep, rfl, hL, hLd⟩, hf₃⟩
  have hak : AllK key vs := fun v hv => (kd₃ v hv).key
  -- heapify(heap)
  obtain ⟨f1, o1, pm1, cd1, doc1, a1, a2, a3, a4⟩ := G.hy
  refine wpAny_execs_cons ?_
  refine wpAny_Expr ?_
  refine Call_ ?_
  refine globX G p₃.keep a1 ?_
  refine callWith_def a3 ?_
  refine args_cons ?_
  refine Fm.ld p₃ rfl ?_
  refine args_nil ⟨p₃.keep _ _ a2, ?_⟩
  refine wpAny_call (hy_call (key := key) G p₃.keep p₃.sz a2 a3 a4 hroom y₃.isList nH0 (fun v hv => (kd₃ v hv).itm (nH v hv)) hak (by omega) hh (by omega) hfr hfs₃ fun s₄ g₄ l₄ k₄ => ?_)
  dsimp only
  have c₄ : Ch [H] s₃.heap s₄.heap := fun b o n e => k₄ b o (fun q => n (by rw [q]; simp)) e
  obtain ⟨z1, z2, z3, z4⟩ := hfy_all hak inj₃
  have nHL : L ∉ [H] := not_mem_one (Ne.symm (ls_nf y₃.isList p₃))
  have p₄ := p₃.ch c₄ nHL fun b m => by rw [List.mem_singleton.mp m]; exact nH0
  have e2₃ := C₃.isCell (not_mem_one nL2) e2
  have e3₃ := C₃.isCell (not_mem_one nL3) e3
  have e2₄ := c₄.isCell (not_mem_one (Ne.symm (ls_nc y₃.isList e2₃))) e2₃
  have e3₄ := c₄.isCell (not_mem_one (Ne.symm (ls_nc y₃.isList e3₃))) e3₃
  have yN₄ := c₄.isList (not_mem_one hNH) yN₃
  have kd₄ : ∀ v ∈ hfy (ltK key) vs, Kd s₄.heap key v := fun v hv => (kd₃ v (z2 v hv)).ch c₄ fun b m => by rw [List.mem_singleton.mp m]; exact nH v (z2 v hv)
  have hf₄ : Frs s₄.heap outer := hf₃.chg c₄ fun b _ q => by rw [hof] at q; cases q
  have g₄' : Go s s₄ := (g₂'.trans g₃).trans g₄
  generalize hfy (ltK key) vs = hv at *
  clear hfs₃ hf₃ C₃ C₂ c₃ c₄ k₄ p₂ yN₃ y₂ y₃ p₁ g₂' g₃ g₄ kd₃ e2₃ e3₃
  -- for odd in range(size)
  refine wpAny_execs_cons ?_
  refine wpAny_For ?_
  refine Call_ ?_
  refine bltX G p₄.keep PyProof.Rows.boot_range ?_
  refine PyProof.Rows.callWith_type1 ?_
  refine args_cons ?_
  refine Fm.ld p₄ (at_skip (by decide) rfl) ?_
  refine args_nil ?_
  refine rng1 ys.length rfl fun s₅ r tr ur vr g₅ hr c₅ => ?_
  refine range_iter hr (by omega) fun s₆ g₆ c₆ hz₆ hit => ?_
  have c₆' : Ch [] s₄.heap s₆.heap := c₅.trans c₆
  have p₅ := p₄.ch c₅ (nl _) n0
  have hIL : L ≠ s₅.heap.objs.size := Nat.ne_of_lt p₅.lt
  have hI4 : s₄.heap.get? s₅.heap.objs.size = none := by
    cases q : s₄.heap.get? s₅.heap.objs.size with
    | none => rfl
    | some o => exact absurd (Heap.lt_size (c₅ _ o (nl _) q)) (Nat.lt_irrefl _)
  have hI0 : h₀.get? s₅.heap.objs.size = none := base_none p₅.sz
  generalize s₅.heap.objs.size = I at *
  have hI2 : L + 1 + 1 ≠ I := fun q => by obtain ⟨o, e, _⟩ := e2₄; rw [q, hI4] at e; cases e
  have hI3 : L + 1 + 1 + 1 ≠ I := fun q => by obtain ⟨o, e, _⟩ := e3₄; rw [q, hI4] at e; cases e
  have nX : ∀ {a items}, s₄.heap.IsList a items → a ∉ fX L := fun l m => mem_fX m (ls_nf l p₄) (ls_nc l e2₄) (ls_nc l e3₄)
  have kX : ∀ v ∈ hv, ∀ b ∈ fX L, v ≠ .ref b := fun v hv b m => mem_fX m (fun q => by rw [q]; exact (kd₄ v hv).nf p₄) (fun q => by rw [q]; exact (kd₄ v hv).nc e2₄) (fun q => by rw [q]; exact (kd₄ v hv).nc e3₄)
  have nIX : I ∉ fX L := fun m => mem_fX m (Ne.symm hIL) (Ne.symm hI2) (Ne.symm hI3)
  have zI : ∀ b ∈ [I], h₀.get? b = none := fun b m => by rw [List.mem_singleton.mp m]; exact hI0
  refine for_rule (walks_range hh I 0 ys.length) (fun i s' => ∃ bs' t, Go s s' ∧ Fm h₀ L bs' s'.heap ∧ At bs' "numbers" (.ref N) ∧ At bs' "heap" (.ref H) ∧ At bs' "size" (.int ((ys.length : Nat) : Int) t) ∧ (∃ v, s'.heap.IsCell (L + 1 + 1) v) ∧ (∃ v, s'.heap.IsCell (L + 1 + 1 + 1) v) ∧
    i ≤ ys.length ∧ IsRangeIter s'.heap I (((0 : Nat) : Int) + (i : Nat) * 1) ((ys.length : Int) - (i : Nat)) 1 ∧ Ch (fX L) s₄.heap s'.heap) ?_ ?_ ?_ ?_
  · rintro i s' ⟨_, _, _, _, _, _, _, _, _, h1, h2, _⟩
    exact ⟨h1, h2⟩
  · rintro i v s₇ h' tk ⟨bs₇, t₇, g₇, p₇, b1, b2, b3, ⟨u2, E2⟩, ⟨u3, E3⟩, hi7, _, C₇⟩ hi ⟨_, t', rfl⟩ hS' hkp
    have c₈ : Ch [I] s₇.heap h' := hkp
    have p₈ := p₇.ch c₈ (not_mem_one hIL) zI
    refine Fm.st (s := { s₇ with heap := h', toks := tk }) p₈ fun s₉ g₉ p₉ c₉ => ?_
    have c₉' : Ch [L] h' s₉.heap := c₉
    have C₉ : Ch (fX L) s₄.heap s₉.heap := (C₇.skip c₈ fun b m => .inr (by rw [List.mem_singleton.mp m]; exact hI4)).skip c₉' fun b m => .inl (by rw [List.mem_singleton.mp m]; simp)
    have hit₉ := c₉' I _ (not_mem_one (Ne.symm hIL)) hS'.2
    refine turn (vs := hv) (key := key) (odd := 0 + i) G dw db dt p₉ (at_skip (by decide) b1) rfl (at_skip (by decide) b2) (by rw [show hv.length = ys.length by omega]; exact at_skip (by decide) b3) (c₉'.isCell (not_mem_one nL2) (c₈.isCell (not_mem_one hI2) E2)) (c₉'.isCell (not_mem_one nL3) (c₈.isCell (not_mem_one hI3) E3))
      (C₉.isList (nX yN₄) yN₄) iN (by omega) (by omega) (by omega) (C₉.isList (nX l₄) l₄) (fun v hv => (kd₄ v hv).ch C₉ (kX v hv)) hk0 z4 z3 hh hu hroom hfr (hf₄.chg C₉ fun b _ q => by rw [hof] at q; cases q) hof fun s₁₀ bs₁₀ g₁₀ p₁₀ k₁₀ E2' E3' c₁₀ => ?_
    dsimp only
    exact ⟨bs₁₀, t₇, g₇.trans (Go.trans ⟨_, _, rfl⟩ (g₉.trans g₁₀)), p₁₀, k₁₀ _ _ (by decide) (at_skip (by decide) b1), k₁₀ _ _ (by decide) (at_skip (by decide) b2), k₁₀ _ _ (by decide) (at_skip (by decide) b3), E2', E3', hS'.1, c₁₀ I _ nIX hit₉, C₉.trans c₁₀⟩
  · rintro s₇ h' tk ⟨bs₇, t₇, g₇, p₇, b1, b2, b3, ⟨u2, E2⟩, ⟨u3, E3⟩, hi7, _, C₇⟩ hkp
    have c₈ : Ch [I] s₇.heap h' := hkp
    have p₈ := p₇.ch c₈ (not_mem_one hIL) zI
    refine wpAny_execs_nil ?_
    dsimp only
    refine wpAny_execs_cons ?_
    refine wpAny_Return_some ?_
    refine Constant_bool ?_
    dsimp only
    exact hok _ (g₇.trans ⟨_, _, rfl⟩) p₈.keep
  · exact ⟨_, _, g₄'.trans (g₅.trans g₆), p₄.ch c₆' (nl _) n0, at_skip (by decide) (at_skip (by decide) rfl), rfl, at_skip (by decide) rfl, ⟨_, c₆'.isCell (nl _) e2₄⟩, ⟨_, c₆'.isCell (nl _) e3₄⟩, Nat.zero_le _, hit, c₆'.nil⟩
end
end Mine
end PartW11
section PartW12
set_option maxHeartbeats 400000
namespace Mine
theorem isDef_of {p : Program} {loose : List Str} {mean : ExcName → Option Value} {mg mb : Str → Option Value} {h : Heap} {x : Str} {a : Arguments} {b : List Stmt} {sc : Scope} {ps : Pos} (T : Top p loose mean mg mb h) (hf : (recsOf p).find? (fun e => e.name == x) = some ⟨x, a, b, sc, ps⟩) : IsDef h mg x a b sc := by
  obtain ⟨f, o, pm, code, doc, h1, h2, h3, h4⟩ := T.fn _ (List.mem_of_find?_eq_some hf)
  exact ⟨f, o, pm, code, doc, h1, h2, h3, h4⟩
def psAt (n : Nat) : Pos := match pw.main.body[n]? with | some (.FunctionDef _ _ _ _ _ _ _ _ _ ps) => ps | _ => default

section
variable {h₀ : Heap} {mg mb : Str → Option Value} {w : World} {A : Around} {s : Shared} {f : Addr} {cd : Value}
theorem lw_call {R : Result → Shared → Prop} {o : Obj} {pm doc : Value} {S : Addr} {sv : List Value} {sn : List Int} (G : Gd s.heap mg mb) (dw : IsDef s.heap mg "_law_way" wyParams wyBody wyScope) (db : IsDef s.heap mg "_law_breaks_off" bkParams bkBody bkScope) (dt : IsDef s.heap mg "_law_take_up" tkParams tkBody tkScope)
    (ho : s.heap.get? f = some o) (hdat : o.data = .func (Calls.docDef "law" lwParams lwBody lwScope pm cd doc)) (hcd : s.heap.CodeRec cd "law")
    (hroom : A.depth + 3 < recursionLimit) (hS : s.heap.IsList S sv.toArray) (iS : IntsAre sv sn) (hlen : sv.length ≤ 63)
    (hh : A.handled = none) (hu : A.units + 203 < cLine) (hfr : A.frames = some [])
    (hok : ∀ s', Go s s' → (∀ b o, s.heap.get? b = some o → s'.heap.get? b = some o) → R (.ok (.ret (.bool true))) s') :
    codeAny (model pw w) A (.call (.ref f) ⟨[.ref S], []⟩) R s := by
  refine codeAny_call_function (fd := Calls.docDef "law" lwParams lwBody lwScope pm cd doc) (body := lwBody) (by omega) ho hdat rfl rfl rfl hcd ?_
  have hb : bindArgs (Calls.docDef "law" lwParams lwBody lwScope pm cd doc) ⟨[.ref S], []⟩ = pure ([("script", .ref S)] : List (Str × Value)) := rfl
  rw [hb]
  refine wpAny_pure ?_
  refine wpAny_newFunctionEnv_cells rfl (kindsX rfl _) fun env' he s' x => ?_
  have hE : env' = lwEnv s.heap.objs.size f cd := he
  subst hE
  obtain ⟨h₁, tk, rfl, kp⟩ := x.done
  have hc1 := x.cell "script" (s.heap.objs.size + 1) rfl
  have hc2 := x.cell "whole" (s.heap.objs.size + 1 + 1) rfl
  have hc3 := x.cell "row" (s.heap.objs.size + 1 + 1 + 1) rfl
  have hns := x.toInCall.ns
  have c₁ : Ch [] s.heap h₁ := fun b o _ e => kp b o e
  have p : Fm s.heap s.heap.objs.size [] h₁ := ⟨_, ⟨hns, fun b o e => kp b o e, Nat.le_refl _⟩, Lk.nil⟩
  refine ⟨G.lim.keeps kp, codeAny_func ?_⟩
  have hfr' : (A.deeper (lwEnv s.heap.objs.size f cd)).frames = some (lwEnv s.heap.objs.size f cd :: []) := Around.frames_deeper hfr
  refine lw_body (s := { s with heap := h₁, toks := tk }) (outer := []) G dw db dt p hc1 hc2 hc3 (c₁.isList (fun m => nomatch m) hS) iS hlen hh (by show A.units + 3 + 200 < cLine; omega) (by show A.depth + 1 + 2 < recursionLimit; omega) hfr' trivial rfl (fun s' g k => ?_)
  exact hok s' (Go.trans ⟨_, _, rfl⟩ g) k
end
end Mine
end PartW12
open Mine in
set_option maxRecDepth 100000 in
set_option maxHeartbeats 8000000 in
theorem PySem.Challenge.cw_dp0037_02_holds : PySem.Challenge.rw_dp0037_02.Holds := by
  w_on
  o_law
  k_head
  (case hw => w_witness2)
  k_fill
  intro w s₀ s₁ mg mb G Y fa o pm cd doc dV kV ho hd hcd hD hmg hg args vals as hpre hlay hrd hwl hlo
  refine Ground.open G ?_
  intro T B D TE TW
  clear hmg
  wrow_args hpre hlay hrd hwl hlo
  rename_i xs hs0 hlay0 hL1 hr1 hl2 b4 b3 S sv b0 hL ra w1 r0 hI hr hcond hcond2
  refine enter_call ?_
  refine codeAny_mono ?_ (fun _ _ g => GoodW.toG g)
  have he := Dflts.none hD rfl; subst he; have he := Dflts.noKw hD; subst he
  have hd' := fd_plain hd
  have Gd0 : Gd s₁.heap mg mb := by
    refine ⟨T.g, T.b, T.nolimit, T.builtins, ?_, ?_, ?_, ?_⟩
    · intro x hx
      refine T.free x ?_ ?_ ?_ ?_ ?_ <;> (revert x; decide +kernel)
    · exact isDef_of (ps := psAt 2) T (by kernel_rfl)
    · exact isDef_of (ps := psAt 3) T (by kernel_rfl)
    · exact isDef_of (ps := psAt 1) T (by kernel_rfl)
  refine lw_call Gd0 (isDef_of (ps := psAt 5) T (by kernel_rfl)) (isDef_of (ps := psAt 6) T (by kernel_rfl)) (isDef_of (ps := psAt 7) T (by kernel_rfl)) ho hd' hcd (by decide +kernel) hL hI ?_ rfl (by decide +kernel) rfl ?_
  · have := hI.length
    omega
  · rintro s' ⟨h', tk, rfl⟩ hk
    refine ⟨.inl ⟨_, _, [], rfl, raisesW_false ?_, readsW_of_reads (.bool true), ?_, unshared_nil⟩, hk, rfl, hg⟩
    · wrow_none_raised
    · wrow_post
