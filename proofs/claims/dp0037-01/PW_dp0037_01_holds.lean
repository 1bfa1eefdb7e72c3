import PyProof.Rows.All
import Wide.All
import OpenK.AllK
import Wide.FinOn
import PySem.Challenge.RW_dp0037_01
open PySem PySem.W PyProof.Rows
set_option Elab.async false
set_option maxRecDepth 100000
section PartM1
namespace Mine
open PySem.AutoSeq1 (wpAny_loadPart')
open PySem.MeetsSeq PySem.MeetsSeq2 PySem.MeetsSeq3 PySem.SeqAt PySem.SeqRoads2

/-- the loop of a comparison by '<' at its second turn: two lists of one item each -/
theorem lt_loop1 (l b : Addr) (v v2 : Value) (n n2 : Nat) (dd dd2 : Option Addr) (sl sl2 : Array (Option Value)) :
    Meets (Builtin.«list.__eq__.loop» ⟨[.ref l, .ref b, rawInt 1, rawInt 0], []⟩)
      (fun _ R s => s.heap.get? l = some { cls := .type "list", dict := dd, data := .seq #[v] n, slots := sl } ∧ s.heap.get? b = some { cls := .type "list", dict := dd2, data := .seq #[v2] n2, slots := sl2 } ∧
        R (.ok (.ret (.bool false))) s) := by
  intro prog w A R s h
  obtain ⟨hp, g, d, tk, os⟩ := s; obtain ⟨hl, hb, h⟩ := h
  wp_walk using wpAny_loadPart' hl, wpAny_loadPart' hb
  exact h

theorem lt_loop0 (l b : Addr) (x y : Int) (t u : Tok) (n n2 : Nat) (dd dd2 : Option Addr) (sl sl2 : Array (Option Value)) :
    Meets (Builtin.«list.__eq__.loop» ⟨[.ref l, .ref b, rawInt 0, rawInt 0], []⟩)
      (fun _ R s => s.heap.get? l = some { cls := .type "list", dict := dd, data := .seq #[.int x t] n, slots := sl } ∧ s.heap.get? b = some { cls := .type "list", dict := dd2, data := .seq #[.int y u] n2, slots := sl2 } ∧
        R (.ok (.ret (.bool (decide (x < y))))) s) := by
  intro prog w A R s h
  obtain ⟨hp, g, d, tk, os⟩ := s; obtain ⟨hl, hb, h⟩ := h
  have q1 : ∃ items : Array Value, items = #[.int x t] := ⟨_, rfl⟩
  have q2 : ∃ items : Array Value, items = #[.int y u] := ⟨_, rfl⟩
  obtain ⟨i1, e1⟩ := q1
  obtain ⟨i2, e2⟩ := q2
  rw [← e1] at hl
  rw [← e2] at hb
  have hi1 : i1[((0 : Nat) : Int).toNat]? = some (.int x t) := by subst e1; rfl
  have hi2 : i2[((0 : Nat) : Int).toNat]? = some (.int y u) := by subst e2; rfl
  show wpAny _ _ (Builtin.«list.__eq__.loop» ⟨[.ref l, .ref b, rawInt ((0 : Nat) : Int), rawInt 0], []⟩) _ _ _
  wp_walk using wpAny_loadPart' hl, wpAny_loadPart' hb
  rw [hi1, hi2]
  refine wpAny_bind (EqGives.int x y t u _ _ _ _ _ _ ?_)
  by_cases e : x = y
  · subst e
    have h1 : (x == x) = true := by simp
    rw [h1]
    wp_walk
    subst e1 e2
    exact ⟨plainId_quiet plain_eq_loop _, codeAny_builtin entry_eq_loop (by
      rw [Around.under_plainId plain_eq_loop _]
      exact lt_loop1 l b _ _ n n2 dd dd2 sl sl2 prog w A R _ ⟨hl, hb, by simpa using h⟩)⟩
  · have h1 : (x == y) = false := by simp [e]
    rw [h1]
    wp_walk using wpAny_loadPart' hl, wpAny_loadPart' hb
    rw [hi1, hi2]
    refine wpAny_bind (wpAny_lt_int (wpAny_pure ?_))
    exact h

theorem list_lt_cells (l b : Addr) (x y : Int) (t u : Tok) (n n2 : Nat) (dd dd2 : Option Addr) (sl sl2 : Array (Option Value)) :
    Meets (Builtin.«list.__lt__» ⟨[.ref l, .ref b], []⟩)
      (fun _ R s => s.heap.get? l = some { cls := .type "list", dict := dd, data := .seq #[.int x t] n, slots := sl } ∧ s.heap.get? b = some { cls := .type "list", dict := dd2, data := .seq #[.int y u] n2, slots := sl2 } ∧
        R (.ok (.ret (.bool (decide (x < y))))) s) := by
  intro prog w A R s h
  obtain ⟨hp, g, d, tk, os⟩ := s; obtain ⟨hl, hb, h⟩ := h
  have f3 := AutoSeq1.sub_list_list
  wp_walk using wpAny_loadPart' hl, wpAny_loadPart' hb
  exact ⟨plainId_quiet plain_eq_loop _, codeAny_builtin entry_eq_loop (by
    rw [Around.under_plainId plain_eq_loop _]
    exact lt_loop0 l b x y t u n n2 dd dd2 sl sl2 prog w A R _ ⟨hl, hb, h⟩)⟩

theorem list_lt_none (l : Addr) (items : Array Value) (n : Nat) (dd : Option Addr) (sl : Array (Option Value)) :
    Meets (Builtin.«list.__lt__» ⟨[.ref l, .none], []⟩) (fun _ R s => s.heap.get? l = some { cls := .type "list", dict := dd, data := .seq items n, slots := sl } ∧ R (.ok (.ret .notImplemented)) s) :=
  .of_wp fun prog w A R s h => by obtain ⟨hp, g, d, tk, os⟩ := s; obtain ⟨hl, h⟩ := h; have f1 := F.sub_NoneType_list; wp_walk using wpAny_loadPart' hl; exact ⟨_, rfl, h⟩
theorem list_gt_none (l : Addr) (items : Array Value) (n : Nat) (dd : Option Addr) (sl : Array (Option Value)) :
    Meets (Builtin.«list.__gt__» ⟨[.ref l, .none], []⟩) (fun _ R s => s.heap.get? l = some { cls := .type "list", dict := dd, data := .seq items n, slots := sl } ∧ R (.ok (.ret .notImplemented)) s) :=
  .of_wp fun prog w A R s h => by obtain ⟨hp, g, d, tk, os⟩ := s; obtain ⟨hl, h⟩ := h; have f1 := F.sub_NoneType_list; wp_walk using wpAny_loadPart' hl; exact ⟨_, rfl, h⟩
theorem none_lt_ref (l : Addr) : Gives (Builtin.«NoneType.__lt__» ⟨[.none, .ref l], []⟩) (.val (Value.notImplemented)) :=
  .of_wp fun M A E s Q h => by obtain ⟨hp, g, d, tk, os⟩ := s; wp_walk; exact ⟨_, rfl, h⟩
theorem none_gt_ref (l : Addr) : Gives (Builtin.«NoneType.__gt__» ⟨[.none, .ref l], []⟩) (.val (Value.notImplemented)) :=
  .of_wp fun M A E s Q h => by obtain ⟨hp, g, d, tk, os⟩ := s; wp_walk; exact ⟨_, rfl, h⟩

section
variable {prog : Program} {w : World} {A : Around} {E : Value → Shared → Prop} {s : Shared}

/-- '<' of two lists of one int each -/
theorem lt_cells {l b : Addr} {x y : Int} {t u : Tok} {Q : Value → Shared → Prop} (hl : s.heap.IsList l #[.int x t]) (hb : s.heap.IsList b #[.int y u]) (hu : A.units < cLine)
    (h : Q (.bool (decide (x < y))) s) : wpAny (model prog w) A (compareOp .Lt (.ref l) (.ref b)) Q E s := by
  obtain ⟨⟨cls, dd, data, sl⟩, ho, hc, n, hd⟩ := id hl
  obtain ⟨⟨cls2, dd2, data2, sl2⟩, ho2, hc2, n2, hd2⟩ := id hb
  simp only at hc hd hc2 hd2
  subst hc hd hc2 hd2
  show wpAny _ _ (richCompare .Lt _ _) Q E s
  exact richCompare_meets_room (op := .Lt) ⟨_, ho, rfl⟩ ⟨_, ho2, rfl⟩ F.slot_list_lt F.entry_list_lt (F.args_list_lt_2 _ _) (list_lt_cells l b x y t u n n2 dd dd2 sl sl2)
    ⟨ho, ho2, show Value.bool (decide (x < y)) ≠ Value.notImplemented ∧ Q (.bool (decide (x < y))) s from ⟨(fun x => nomatch x), h⟩⟩ hu

/-- '<' where both sides decline: a TypeError (the types at this state alone) -/
theorem lt_declined {M : Model} {a b : Value} {Ta Tb ida idb : String} {Q : Value → Shared → Prop} (hh : A.handled = none) (ha : s.TypeIs a Ta) (hb : s.TypeIs b Tb)
    (hne : (Value.type Ta != Value.type Tb) = true) (hsub : isSubtype (.type Tb) (.type Ta) = pure false) (h1 : Slot Ta (cmpInfo .Lt).2.1 ida) (h2 : Slot Tb (cmpInfo .Lt).2.2 idb)
    (hna : (Value.type Ta == Value.type "builtin_function_or_method") = false) (hnb : (Value.type Tb == Value.type "builtin_function_or_method") = false)
    (hc1 : ∀ Q' : Value → Shared → Prop, Q' .notImplemented s → wpAny M A (call (.builtin ida) [a, b]) Q' E s)
    (hc2 : ∀ Q' : Value → Shared → Prop, Q' .notImplemented s → wpAny M A (call (.builtin idb) [b, a]) Q' E s)
    (h : ∀ h' tk e, Heap.NewExc s.heap h' e "TypeError" → E (.ref e) { s with heap := h', toks := tk })
    (hr : A.units < cLine) (hTa : (shownName Ta).length ≤ 1000 := by decide) (hTb : (shownName Tb).length ≤ 1000 := by decide) :
    wpAny M A (richCompare .Lt a b) Q E s := by
  simp only [richCompare, cmpInfo, ha.oneThing_none] at h1 h2 ⊢
  refine wpAny_holding ?_
  refine wpAny_bind (wpAny_cRoomFor hr ?_)
  refine wpAny_bind (wpAny_typeOf ha (wpAny_bind (wpAny_typeOf hb ?_)))
  simp only [hne, if_true]
  refine wpAny_bind (wpAny_of_eq hsub ?_)
  simp only [Bool.false_eq_true, if_false, Bool.not_false, if_true]
  refine wpAny_bind (m := tryCompare a _ b) (wpAny_tryCompare_declines ha h1 (hc1 _ ⟨rfl, ?_⟩))
  refine wpAny_bind (m := tryCompare b _ a) (wpAny_tryCompare_declines hb h2 (hc2 _ ⟨rfl, ?_⟩))
  refine wpAny_bind (wpAny_rule (wpAny_bind (wpAny_typeNameOf' ha hna (wpAny_bind (wpAny_typeNameOf' hb hnb (wpAny_raiseTypeError hh h ?_))))))
  show (Str.ofString _).length ≤ sizeLine
  rw [PySem.ofString_length, sizeLine_eq]
  simp only [String.length_append, toString]
  have e1 : "'".length ≤ 100 := by decide
  have e2 : "<".length ≤ 100 := by decide
  have e3 : "' not supported between instances of '".length ≤ 100 := by decide
  have e4 : "' and '".length ≤ 100 := by decide
  (first | lia | omega)

theorem none_lt_none : Gives (Builtin.«NoneType.__lt__» ⟨[.none, .none], []⟩) (.val (Value.notImplemented)) :=
  .of_wp fun M A E s Q h => by obtain ⟨hp, g, d, tk, os⟩ := s; wp_walk; exact ⟨_, rfl, h⟩
theorem none_gt_none : Gives (Builtin.«NoneType.__gt__» ⟨[.none, .none], []⟩) (.val (Value.notImplemented)) :=
  .of_wp fun M A E s Q h => by obtain ⟨hp, g, d, tk, os⟩ := s; wp_walk; exact ⟨_, rfl, h⟩
theorem lt_none_none {Q : Value → Shared → Prop} (hh : A.handled = none) (hu : A.units < cLine)
    (h : ∀ h' tk e, Heap.NewExc s.heap h' e "TypeError" → E (.ref e) { s with heap := h', toks := tk }) : wpAny (model prog w) A (compareOp .Lt .none .none) Q E s := by
  show wpAny _ _ (richCompare .Lt _ _) Q E s
  have hT : s.TypeIs .none "NoneType" := rfl
  have h1 := F.slot_NoneType_lt
  have h2 := F.slot_NoneType_gt_refl
  simp only [richCompare, cmpInfo, hT.oneThing_none] at h1 h2 ⊢
  refine wpAny_holding ?_
  refine wpAny_bind (wpAny_cRoomFor hu ?_)
  refine wpAny_bind (wpAny_typeOf hT (wpAny_bind (wpAny_typeOf hT ?_)))
  have e0 : (Value.type "NoneType" != Value.type "NoneType") = false := by decide
  simp only [e0, Bool.false_eq_true, if_false]
  refine wpAny_bind (wpAny_pure ?_)
  simp only [Bool.false_eq_true, if_false, Bool.not_false, if_true]
  refine wpAny_bind (m := tryCompare .none _ .none) (wpAny_tryCompare_declines hT h1 (call_gives F.slot_NoneType_lt rfl F.entry_NoneType_lt (F.args_NoneType_lt_2 _ _) none_lt_none ⟨rfl, ?_⟩))
  refine wpAny_bind (m := tryCompare .none _ .none) (wpAny_tryCompare_declines hT h2 (call_gives F.slot_NoneType_gt_refl rfl F.entry_NoneType_gt (F.args_NoneType_gt_2 _ _) none_gt_none ⟨rfl, ?_⟩))
  refine wpAny_bind (wpAny_rule (wpAny_bind (wpAny_typeNameOf' hT (by decide) (wpAny_bind (wpAny_typeNameOf' hT (by decide) (wpAny_raiseTypeError hh h ?_))))))
  show (Str.ofString _).length ≤ sizeLine
  rw [PySem.ofString_length, sizeLine_eq]
  simp only [String.length_append, toString]
  have e1 : "'".length ≤ 100 := by decide
  have e2 : "<".length ≤ 100 := by decide
  have e3 : "' not supported between instances of '".length ≤ 100 := by decide
  have e4 : "' and '".length ≤ 100 := by decide
  have e5 : (shownName "NoneType").length ≤ 1000 := by decide
  (first | lia | omega)

theorem lt_ref_none {l : Addr} {items : Array Value} {Q : Value → Shared → Prop} (hh : A.handled = none) (hl : s.heap.IsList l items) (hu : A.units < cLine)
    (h : ∀ h' tk e, Heap.NewExc s.heap h' e "TypeError" → E (.ref e) { s with heap := h', toks := tk }) : wpAny (model prog w) A (compareOp .Lt (.ref l) .none) Q E s := by
  obtain ⟨⟨cls, dd, data, sl⟩, ho, hc, n, hd⟩ := id hl
  simp only at hc hd
  subst hc hd
  show wpAny _ _ (richCompare .Lt _ _) Q E s
  exact lt_declined (Ta := "list") (Tb := "NoneType") hh ⟨_, ho, rfl⟩ rfl (by decide) F.sub_NoneType_list F.slot_list_lt F.slot_NoneType_gt_refl (by decide) (by decide)
    (fun Q' hq => call_meets F.slot_list_lt ⟨_, ho, rfl⟩ F.entry_list_lt (F.args_list_lt_2 _ _) (list_lt_none l items n dd sl) ⟨ho, hq⟩)
    (fun Q' hq => call_gives F.slot_NoneType_gt_refl rfl F.entry_NoneType_gt (F.args_NoneType_gt_2 _ _) (none_gt_ref l) hq) h hu
theorem lt_none_ref {l : Addr} {items : Array Value} {Q : Value → Shared → Prop} (hh : A.handled = none) (hl : s.heap.IsList l items) (hu : A.units < cLine)
    (h : ∀ h' tk e, Heap.NewExc s.heap h' e "TypeError" → E (.ref e) { s with heap := h', toks := tk }) : wpAny (model prog w) A (compareOp .Lt .none (.ref l)) Q E s := by
  obtain ⟨⟨cls, dd, data, sl⟩, ho, hc, n, hd⟩ := id hl
  simp only at hc hd
  subst hc hd
  show wpAny _ _ (richCompare .Lt _ _) Q E s
  exact lt_declined (Ta := "NoneType") (Tb := "list") hh rfl ⟨_, ho, rfl⟩ (by decide) F.sub_list_NoneType F.slot_NoneType_lt F.slot_list_gt_refl (by decide) (by decide)
    (fun Q' hq => call_gives F.slot_NoneType_lt rfl F.entry_NoneType_lt (F.args_NoneType_lt_2 _ _) (none_lt_ref l) hq)
    (fun Q' hq => call_meets F.slot_list_gt_refl ⟨_, ho, rfl⟩ F.entry_list_gt (F.args_list_gt_2 _ _) (list_gt_none l items n dd sl) ⟨ho, hq⟩) h hu
end
end Mine
end PartM1
section PartM2
namespace Mine
abbrev pw : Program := PySem.Challenge.pw_dp0037_01
def sdBody : List Stmt := match pw.main.body with | _ :: _ :: .FunctionDef _ _ b _ _ _ _ _ _ _ :: _ => b | _ => []
def suBody : List Stmt := match pw.main.body with | _ :: _ :: _ :: .FunctionDef _ _ b _ _ _ _ _ _ _ :: _ => b | _ => []
def hyBody : List Stmt := match pw.main.body with | _ :: .FunctionDef _ _ b _ _ _ _ _ _ _ :: _ => b | _ => []
def sdScope : Scope := match pw.main.body with | _ :: _ :: .FunctionDef _ _ _ _ _ _ sc _ _ _ :: _ => sc | _ => default
def suScope : Scope := match pw.main.body with | _ :: _ :: _ :: .FunctionDef _ _ _ _ _ _ sc _ _ _ :: _ => sc | _ => default
def hyScope : Scope := match pw.main.body with | _ :: .FunctionDef _ _ _ _ _ _ sc _ _ _ :: _ => sc | _ => default

/-! the plain functions -/
abbrev Cmp := Value → Value → Option Bool
def nth (vs : List Value) (i : Nat) : Value := vs.getD i .none
def sdLoop (lt : Cmp) (start : Nat) (x : Value) (vs : List Value) (pos : Nat) : Except (List Value) (List Value × Nat) :=
  if start < pos then
    match lt x (nth vs ((pos - 1) / 2)) with
    | none => .error vs
    | some true => sdLoop lt start x (vs.set pos (nth vs ((pos - 1) / 2))) ((pos - 1) / 2)
    | some false => .ok (vs, pos)
  else .ok (vs, pos)
termination_by pos
decreasing_by (first | lia | omega)
def siftdown (lt : Cmp) (vs : List Value) (start pos : Nat) : Except (List Value) (List Value) :=
  match sdLoop lt start (nth vs pos) vs pos with
  | .error e => .error e
  | .ok (us, p) => .ok (us.set p (nth vs pos))
def suLoop (lt : Cmp) (vs : List Value) (pos : Nat) : Except (List Value) (List Value × Nat) :=
  if 2 * pos + 1 < vs.length then
    if 2 * pos + 2 < vs.length then
      match lt (nth vs (2 * pos + 1)) (nth vs (2 * pos + 2)) with
      | none => .error vs
      | some true => suLoop lt (vs.set pos (nth vs (2 * pos + 1))) (2 * pos + 1)
      | some false => suLoop lt (vs.set pos (nth vs (2 * pos + 2))) (2 * pos + 2)
    else suLoop lt (vs.set pos (nth vs (2 * pos + 1))) (2 * pos + 1)
  else .ok (vs, pos)
termination_by vs.length - pos
decreasing_by all_goals (simp only [List.length_set]; (first | lia | omega))
def siftup (lt : Cmp) (vs : List Value) (pos : Nat) : Except (List Value) (List Value) :=
  match suLoop lt vs pos with
  | .error e => .error e
  | .ok (us, p) => siftdown lt (us.set p (nth vs pos)) pos p

/-! frames by lists of bindings -/
def Lk (m : Str → Option Value) (bs : List (Str × Value)) : Prop := ∀ x v, bs.lookup x = some v → m x = some v
abbrev At (bs : List (Str × Value)) (x : Str) (v : Value) : Prop := bs.lookup x = some v
theorem Lk.put {m : Str → Option Value} {bs : List (Str × Value)} (l : Lk m bs) (x : Str) (v : Value) : Lk (fun y => if y = x then some v else m y) ((x, v) :: bs) := by
  intro y u h
  by_cases e : y = x
  · subst e
    simp only [List.lookup_cons, beq_self_eq_true] at h
    simp only [if_true]
    exact h
  · have : (y == x) = false := by simp [e]
    simp only [List.lookup_cons, this] at h
    simp only [if_neg e]
    exact l y u h
def Go (s s' : Shared) : Prop := ∃ h tk, s' = { s with heap := h, toks := tk }
theorem Go.trans {s₁ s₂ s₃ : Shared} (a : Go s₁ s₂) (b : Go s₂ s₃) : Go s₁ s₃ := by
  obtain ⟨h, t, rfl⟩ := a; obtain ⟨h', t', rfl⟩ := b; exact ⟨h', t', rfl⟩
theorem Go.mk {s : Shared} (h : Heap) (tk : Nat) : Go s { s with heap := h, toks := tk } := ⟨_, _, rfl⟩

/-- the state within a def that turns the list H alone -/
structure B (h₀ hc : Heap) (H L : Addr) (vs : List Value) (bs : List (Str × Value)) (h : Heap) : Prop where
  fr : ∃ m, Fr h₀ L h m ∧ Lk m bs
  ls : h.IsList H vs.toArray
  kp : ∀ b o, b ≠ H → hc.get? b = some o → h.get? b = some o
  nH : h₀.get? H = none
  ne : H ≠ L
  up : hc.objs.size ≤ L

section
variable {h₀ hc : Heap} {H L : Addr} {vs : List Value} {bs : List (Str × Value)} {M : Model} {A : Around} {E : Value → Shared → Prop} {s : Shared} {name : Str} {scope : Scope} {a : Addr} {cd : Value}

theorem B.ld {x : Str} {pos : Pos} {v : Value} {Q : Value → Shared → Prop} (b : B h₀ hc H L vs bs s.heap) (hv : bs.lookup x = some v) (h : Q v s)
    (hk : scope.kind = .function := by rfl) (hl : (envOf name scope L a cd).kindOf x = some .local := by rfl)
    (hd : (x == ("__debug__" : Str)) = false := by decide) : wpAny M A (eval (.Name x pos) (envOf name scope L a cd)) Q E s := by
  obtain ⟨m, F, l⟩ := b.fr
  exact PyProof.Rows.ld F (l x v hv) h hk hl hd
theorem B.stk {x : Str} {v : Value} {Q : Unit → Shared → Prop} (b : B h₀ hc H L vs bs s.heap)
    (h : ∀ s', Go s s' → B h₀ hc H L vs ((x, v) :: bs) s'.heap → (∀ c o, c ≠ L → s.heap.get? c = some o → s'.heap.get? c = some o) → Q () s')
    (hk : scope.kind = .function := by rfl) (hl : (envOf name scope L a cd).kindOf x = some .local := by rfl) :
    wpAny M A (storeName (envOf name scope L a cd) x v) Q E s := by
  obtain ⟨m, F, l⟩ := b.fr
  refine wpAny_storeName_local hl F.ns (fun h' hn hs => h _ (Go.mk _ _) ⟨⟨_, F.set hn hs, l.put x v⟩, ?_, ?_, b.nH, b.ne, b.up⟩ fun c o n e => (hs.2 c n).trans e) (by show (scope.kind == .class || (scope.kind == .module && L != mainGlobals)) = false; rw [hk]; rfl)
  · exact b.ls.at fun o e => (hs.2 H b.ne).trans e
  · intro c o c1 e
    exact (hs.2 c (Nat.ne_of_lt (Nat.lt_of_lt_of_le (Heap.lt_size e) b.up))).trans (b.kp c o c1 e)
theorem B.st {x : Str} {v : Value} {Q : Unit → Shared → Prop} (b : B h₀ hc H L vs bs s.heap)
    (h : ∀ s', Go s s' → B h₀ hc H L vs ((x, v) :: bs) s'.heap → Q () s')
    (hk : scope.kind = .function := by rfl) (hl : (envOf name scope L a cd).kindOf x = some .local := by rfl) :
    wpAny M A (storeName (envOf name scope L a cd) x v) Q E s := B.stk b (fun s' g b' _ => h s' g b') hk hl
theorem Fr.but {h h' : Heap} {m : Str → Option Value} (F : Fr h₀ L h m) (hs : Heap.SameBut H h h') (nH : h₀.get? H = none) (ne : H ≠ L) : Fr h₀ L h' m :=
  ⟨F.ns.sameBut hs (Ne.symm ne), fun b o e => (hs.2 b (fun q => by subst q; rw [nH] at e; cases e)).trans (F.keep b o e), F.above⟩
end

section
variable {h₀ hc : Heap} {H L : Addr} {vs : List Value} {bs : List (Str × Value)} {prog : Program} {w : World} {A : Around} {E : Value → Shared → Prop} {s : Shared}
theorem B.get {value slice : Expr} {k : Int} {u : Tok} {Q : Value → Shared → Prop} (b : B h₀ hc H L vs bs s.heap) (h0 : 0 ≤ k) (h1 : k.toNat < vs.length) (hn : vs.length < 2 ^ 62) (h : Q (nth vs k.toNat) s)
    (hs : subscripted slice false (.ref H) (.int k u) = operate [.ref H, .int k u] (getItem (.ref H) (.int k u)) := by with_unfolding_all rfl) (hg : ∀ r, letTemporaryGo value (.ref H) r = pure () := by intro _; with_unfolding_all rfl) :
    wpAny (model prog w) A (subscriptTail value slice (.ref H) (.int k u)) Q E s :=
  item_listL b.ls h0 (by (first | lia | omega)) (by rw [nth, List.getD_eq_getElem?_getD, List.getElem?_eq_getElem h1]; rfl) h hs hg
theorem B.set {k : Int} {t : Tok} {v : Value} {Q : Unit → Shared → Prop} (b : B h₀ hc H L vs bs s.heap) (h0 : 0 ≤ k) (h1 : k.toNat < vs.length) (hn : vs.length < 2 ^ 62)
    (h : ∀ s', Go s s' → B h₀ hc H L (vs.set k.toNat v) bs s'.heap → Q () s') : wpAny (model prog w) A (setItem (.ref H) (.int k t) v) Q E s := by
  refine wpAny_setItem_list b.ls h0 (by (first | lia | omega)) (by rw [List.size_toArray]; (first | lia | omega)) (fun h' hl hs => h _ (Go.mk _ _) ?_)
  obtain ⟨m, F, l⟩ := b.fr
  refine ⟨⟨m, Fr.but F hs b.nH b.ne, l⟩, ?_, ?_, b.nH, b.ne, b.up⟩
  · show h'.IsList H (vs.set k.toNat v).toArray
    rw [← List.setIfInBounds_toArray]; exact hl
  · intro c o c1 e
    exact (hs.2 c c1).trans (b.kp c o c1 e)

/-- an item of the row: None, or a list of one int, known at the call's heap -/
def Itm (hc : Heap) (H : Addr) (key : Value → Option Int) (v : Value) : Prop :=
  (v = .none ∧ key v = none) ∨ ∃ a x t, v = .ref a ∧ key v = some x ∧ a ≠ H ∧ hc.IsList a #[.int x t]
def ltK (key : Value → Option Int) : Cmp := fun u v => match key u, key v with | some x, some y => some (decide (x < y)) | _, _ => none

theorem B.cell {a : Addr} {items : Array Value} (b : B h₀ hc H L vs bs s.heap) (ha : a ≠ H) (hl : hc.IsList a items) : s.heap.IsList a items := hl.at fun o e => b.kp a o ha e

theorem cmp_items {key : Value → Option Int} {u v : Value} {Q : Value → Shared → Prop} (b : B h₀ hc H L vs bs s.heap) (hu : Itm hc H key u) (hv : Itm hc H key v) (hh : A.handled = none) (hc' : A.units < cLine)
    (hok : ∀ r, ltK key u v = some r → Q (.bool r) s) (hno : ltK key u v = none → ∀ h' tk e, Heap.NewExc s.heap h' e "TypeError" → E (.ref e) { s with heap := h', toks := tk }) :
    wpAny (model prog w) A (compareOp .Lt u v) Q E s := by
  rcases hu with ⟨rfl, ku⟩ | ⟨a, x, t, rfl, ku, na, la⟩
  · rcases hv with ⟨rfl, kv⟩ | ⟨a', x', t', rfl, kv, na', la'⟩
    · exact lt_none_none hh hc' (hno (by simp [ltK, ku]))
    · exact lt_none_ref hh (b.cell na' la') hc' (hno (by simp [ltK, ku]))
  · rcases hv with ⟨rfl, kv⟩ | ⟨a', x', t', rfl, kv, na', la'⟩
    · exact lt_ref_none hh (b.cell na la) hc' (hno (by simp [ltK, kv]))
    · exact lt_cells (b.cell na la) (b.cell na' la') hc' (hok _ (by simp [ltK, ku, kv]))
end
end Mine
end PartM2
section PartM3
set_option maxHeartbeats 1000000
namespace Mine
section
variable {h₀ hc : Heap} {H L : Addr} {vs : List Value} {bs : List (Str × Value)} {w : World} {A : Around} {E : Value → Shared → Prop} {s : Shared} {f : Addr} {cd : Value} {key : Value → Option Int}
abbrev sdEnv (L f : Addr) (cd : Value) : Env := envOf "_siftdown" sdScope L f cd

theorem nth_mem {vs : List Value} {i : Nat} (h : i < vs.length) : nth vs i ∈ vs := by
  rw [nth, List.getD_eq_getElem?_getD, List.getElem?_eq_getElem h]; exact List.getElem_mem h

theorem sd_body {start pos : Nat} {t1 t2 : Tok} {Q : Flow → Shared → Prop} (b : B h₀ hc H L vs bs s.heap) (l1 : At bs "heap" (.ref H)) (l2 : At bs "startpos" (.int start t1)) (l3 : At bs "pos" (.int pos t2))
    (hI : ∀ v ∈ vs, Itm hc H key v) (hpos : pos < vs.length) (hn : vs.length < 2 ^ 62) (hh : A.handled = none) (hu : A.units < cLine)
    (hok : ∀ us bs' s', Go s s' → siftdown (ltK key) vs start pos = .ok us → B h₀ hc H L us bs' s'.heap → Q .next s')
    (hno : ∀ us bs' s', Go s s' → siftdown (ltK key) vs start pos = .error us → B h₀ hc H L us bs' s'.heap → ∀ h' tk e, Heap.NewExc s'.heap h' e "TypeError" →
      notedBy (model pw w) A (sdEnv L f cd) (cameBackBy (model pw w) A (sdEnv L f cd) E) (.ref e) { s' with heap := h', toks := tk }) :
    wpAny (model pw w) A (execs sdBody (sdEnv L f cd)) Q E s := by
  unfold sdBody
  refine wpAny_execs_cons ?_
  refine wpAny_Assign_Name ?_
  refine Subscript_ ?_
  refine B.ld b l1 ?_
  refine B.ld b l3 ?_
  refine B.get b (by (first | lia | omega)) (by simpa using hpos) hn ?_
  refine B.st b fun s₁ g₁ b₁ => ?_
  dsimp only
  rw [Int.toNat_natCast] at b₁
  have hx : Itm hc H key (nth vs pos) := hI _ (nth_mem hpos)
  generalize hX : nth vs pos = X at b₁ hx
  refine wpAny_execs_cons ?_
  refine wpAny_While (codeAny_whileLoop (I := fun n s' => ∃ us bs' t, Go s s' ∧ B h₀ hc H L us bs' s'.heap ∧ At bs' "heap" (.ref H) ∧ At bs' "startpos" (.int start t1) ∧ At bs' "pos" (.int (n : Nat) t) ∧ At bs' "newitem" X ∧
    us.length = vs.length ∧ sdLoop (ltK key) start X us n = sdLoop (ltK key) start X vs pos ∧ (∀ v ∈ us, Itm hc H key v) ∧ n < us.length) ?_ pos ⟨vs, _, t2, g₁, b₁, l1, l2, l3, rfl, rfl, rfl, hI, hpos⟩)
  clear b₁ g₁
  rintro n s₁ ⟨us, bs', t, g₁, b₁, k1, k2, k3, k4, hlen, heq, hI', hp⟩
  refine wpAny_isTrue_Compare1 ?_
  refine B.ld b₁ k3 ?_
  refine B.ld b₁ k2 ?_
  refine gt_int ?_
  refine wpAny_truthy_bool ?_
  have fin : sdLoop (ltK key) start X us n = .ok (us, n) → ∀ s₂ bs₂, Go s s₂ → B h₀ hc H L us bs₂ s₂.heap → At bs₂ "heap" (.ref H) → At bs₂ "pos" (.int (n : Nat) t) → At bs₂ "newitem" X →
      wpAny (model pw w) A (execs (match pw.main.body with | _ :: _ :: .FunctionDef _ _ (_ :: _ :: r) _ _ _ _ _ _ _ :: _ => r | _ => []) (sdEnv L f cd)) Q E s₂ := by
    intro he s₂ bs₂ g₂ b₂ j1 j3 j4
    refine wpAny_execs_cons ?_
    refine wpAny_Assign_Subscript ?_
    refine B.ld b₂ j4 ?_
    refine B.ld b₂ j1 ?_
    refine B.ld b₂ j3 ?_
    refine B.set b₂ (by (first | lia | omega)) (by simpa using hp) (by (first | lia | omega)) fun s₃ g₃ b₃ => ?_
    dsimp only
    refine wpAny_execs_nil ?_
    rw [Int.toNat_natCast] at b₃
    refine hok _ _ _ (g₂.trans g₃) ?_ b₃
    rw [siftdown, hX, ← heq, he]
  by_cases hlt : start < n
  · have hd : decide ((start : Int) < (n : Int)) = true := by simp; (first | lia | omega)
    rw [hd]
    simp only [if_true]
    refine wpAny_execs_cons ?_
    refine wpAny_Assign_Name ?_
    refine wpAny_BinOp ?_
    refine wpAny_BinOp ?_
    refine B.ld b₁ k3 ?_
    refine wpAny_Constant_int ?_
    refine sub_int ?_
    refine wpAny_Constant_int ?_
    refine rshift_int_or hh (fun h => absurd h (by decide)) fun _ => ?_
    have hpar : ((n : Int) - 1).fdiv (2 ^ (1 : Int).toNat) = (((n - 1) / 2 : Nat) : Int) := by
      rw [show (2 : Int) ^ (1 : Int).toNat = 2 from rfl, Int.fdiv_eq_ediv_of_nonneg _ (by (first | lia | omega))]
      (first | lia | omega)
    rw [hpar]
    refine B.st b₁ fun s₂ g₂ b₂ => ?_
    dsimp only
    refine wpAny_execs_cons ?_
    refine wpAny_Assign_Name ?_
    refine Subscript_ ?_
    refine B.ld b₂ k1 ?_
    refine B.ld b₂ rfl ?_
    refine B.get b₂ (by (first | lia | omega)) (by (first | lia | omega)) (by (first | lia | omega)) ?_
    rw [Int.toNat_natCast]
    refine B.st b₂ fun s₃ g₃ b₃ => ?_
    dsimp only
    have g₃' : Go s s₃ := g₁.trans (Go.trans (Go.trans ⟨_, _, rfl⟩ g₂) g₃)
    refine wpAny_execs_cons ?_
    refine wpAny_If ?_
    refine wpAny_isTrue_Compare1 ?_
    refine B.ld b₃ k4 ?_
    refine B.ld b₃ rfl ?_
    refine cmp_items b₃ hx (hI' _ (nth_mem (by (first | lia | omega)))) hh hu (fun r hr => ?_) (fun hr h' tk e hx' => ?_)
    · refine wpAny_truthy_bool ?_
      cases r with
      | true =>
        simp only [if_true]
        refine wpAny_execs_cons ?_
        refine wpAny_Assign_Subscript ?_
        refine B.ld b₃ rfl ?_
        refine B.ld b₃ k1 ?_
        refine B.ld b₃ k3 ?_
        refine B.set b₃ (by (first | lia | omega)) (by (first | lia | omega)) (by (first | lia | omega)) fun s₄ g₄ b₄ => ?_
        dsimp only
        refine wpAny_execs_cons ?_
        refine wpAny_Assign_Name ?_
        refine B.ld b₄ rfl ?_
        refine B.st b₄ fun s₅ g₅ b₅ => ?_
        dsimp only
        refine wpAny_execs_cons ?_
        refine SiftDown.continue_ ?_
        dsimp only
        rw [Int.toNat_natCast] at b₅
        refine ⟨(n - 1) / 2, by (first | lia | omega), _, _, _, (g₃'.trans g₄).trans g₅, b₅, k1, k2, rfl, k4, by rw [List.length_set]; exact hlen, ?_, ?_, by rw [List.length_set]; (first | lia | omega)⟩
        · rw [← heq]
          conv => rhs; rw [sdLoop]
          rw [if_pos hlt, hr]
        · intro v hv
          rcases List.mem_or_eq_of_mem_set hv with h | h
          · exact hI' v h
          · rw [h]; exact hI' _ (nth_mem (by (first | lia | omega)))
      | false =>
        simp only [Bool.false_eq_true, if_false]
        refine wpAny_execs_nil ?_
        dsimp only
        refine wpAny_execs_cons ?_
        refine SiftDown.break_ ?_
        dsimp only
        refine fin ?_ _ _ g₃' b₃ k1 k3 k4
        rw [sdLoop, if_pos hlt, hr]
    · refine hno us _ s₃ g₃' ?_ b₃ h' tk e hx'
      rw [siftdown, hX, ← heq, sdLoop, if_pos hlt, hr]
  · have hd : decide ((start : Int) < (n : Int)) = false := by simp; (first | lia | omega)
    rw [hd]
    simp only [Bool.false_eq_true, if_false]
    refine wpAny_execs_nil ?_
    dsimp only
    refine fin ?_ _ _ g₁ b₁ k1 k3 k4
    rw [sdLoop, if_neg hlt]
end
end Mine
end PartM3
section PartM4
namespace Mine
/-! a TypeError on its way through frames -/

/-- the frames on the stack stand in h -/
def Frs (h : Heap) : List Env → Prop
  | [] => True
  | env :: rest => env.scope.kind = .function ∧ (∃ L o es ep, env.frame = some L ∧ h.get? L = some o ∧ o.data = .dict es ep) ∧ Frs h rest
theorem Frs.fun {h : Heap} : ∀ {l : List Env}, Frs h l → h.FunFrames { objs := #[] } l
  | [], _ => trivial
  | env :: rest, ⟨hk, ⟨L, o, es, ep, hf, ho, hd⟩, hr⟩ => ⟨by rw [hk]; decide, ⟨L, o, hf, by simp [Heap.get?], ho, fun vs q => by rw [hd] at q; cases q⟩, Frs.fun hr⟩
theorem Frs.keeps {h h' : Heap} (k : ∀ b o, h.get? b = some o → (∃ es ep, o.data = .dict es ep) → ∃ o', h'.get? b = some o' ∧ o'.data = o.data) : ∀ {l : List Env}, Frs h l → Frs h' l
  | [], _ => trivial
  | env :: rest, ⟨hk, ⟨L, o, es, ep, hf, ho, hd⟩, hr⟩ => by
    obtain ⟨o', ho', hd'⟩ := k L o ho ⟨es, ep, hd⟩
    exact ⟨hk, ⟨L, o', es, ep, hf, ho', hd'.trans hd⟩, Frs.keeps k hr⟩
theorem Frs.mem {h : Heap} : ∀ {l : List Env} {b : Addr}, Frs h l → b ∈ l.filterMap (·.frame) → ∃ o es ep, h.get? b = some o ∧ o.data = .dict es ep
  | [], _, _, hb => by simp at hb
  | env :: rest, b, ⟨hk, ⟨L, o, es, ep, hf, ho, hd⟩, hr⟩, hb => by
    rw [List.filterMap_cons, hf] at hb
    rcases List.mem_cons.mp hb with e | hb
    · subst e; exact ⟨o, es, ep, ho, hd⟩
    · exact Frs.mem hr hb

/-- h' is h with the exception e in flight (fl: where it was noted last); the frames fs may have other slots -/
structure Exc (fs : List Addr) (h h' : Heap) (e : Addr) (fl : Value) : Prop where
  keep : ∀ b o, h.get? b = some o → b ∉ fs → h'.get? b = some o
  frm : ∀ b o, h.get? b = some o → ∃ sl, h'.get? b = some { o with slots := sl }
  new : h.get? e = none
  there : ∃ ob vs tb otb tvs, h'.get? e = some ob ∧ ob.cls = .type "TypeError" ∧ ob.data = .fields vs ∧ vs[1]? = some (.ref tb) ∧ h'.get? tb = some otb ∧ otb.data = .fields tvs ∧ tvs[3]? = some fl ∧ tb ≠ e ∧ h.get? tb = none

section
variable {M : Model} {A : Around} {E : Value → Shared → Prop} {s : Shared}

/-- a new entry behind e's head, at env's frame -/
theorem entry_new {gs : List Addr} {env : Env} {outer : List Env} {L e : Addr} {oe : Obj} {vs : Array Value} {head : Value} {hadNext : Bool} {h : Heap} {Q : Unit → Shared → Prop}
    (hg : ∀ b, b ∈ (env :: outer).filterMap (·.frame) → b ∈ gs) (hfr : A.frames = some (env :: outer)) (hl : Frs h (env :: outer)) (hf : env.frame = some L)
    (hk1 : ∀ b o, h.get? b = some o → b ∉ gs → s.heap.get? b = some o) (hk2 : ∀ b o, h.get? b = some o → ∃ sl, s.heap.get? b = some { o with slots := sl })
    (he : s.heap.get? e = some oe) (hne : h.get? e = none) (hcls : oe.cls = .type "TypeError") (hd : oe.data = .fields vs) (hsz : 1 < vs.size)
    (k : ∀ h', Exc gs h h' e (rawInt L) → Q () { s with heap := h' }) :
    wpAny M A (do let a ← frameOf env; let pl ← entryPlaceOf L hadNext; let b ← EntryCells.newEntry head a .none (rawInt L) .none pl; setField (.ref e) 1 b) Q E s := by
  have hls : Frs s.heap (env :: outer) := Frs.keeps (fun b o hb _ => let ⟨sl, q⟩ := hk2 b o hb; ⟨_, q, rfl⟩) hl
  have hene : e ∉ (env :: outer).filterMap (·.frame) := fun hm => by
    obtain ⟨o, _, _, ho, _⟩ := hl.mem hm
    rw [hne] at ho; cases ho
  refine wpAny_bind (wpAny_frameOf_fun hfr hls.fun hf fun h₁ hs₁ => ?_)
  refine wpAny_bind (wpAny_entryPlaceOf fun pl hpl => ?_)
  unfold EntryCells.newEntry newFields
  refine wpAny_bind (wpAny_newObj_type ?_ (hpl.sizeOk5 _ _ _ _ _))
  have he₁ : h₁.get? e = some oe := (hs₁.2.1 e hene).trans he
  have he₂ := Heap.get?_push_of_some (h := h₁) { cls := .type "traceback", dict := none, data := .fields ([head, .ref L, .none, rawInt L, .none] ++ (if pl.isEmpty then List.replicate 6 Value.none else pl)).toArray } he₁
  refine wpAny_setField he₂ hd hsz (k _ ?_)
  have hTe : h₁.objs.size ≠ e := Nat.ne_of_gt (Heap.lt_size he₁)
  have hd₃ := Obj.data_mapFields hd (·.setIfInBounds 1 (Value.ref h₁.objs.size))
  have he₃ := Heap.get?_update_self (Obj.mapFields (·.setIfInBounds 1 (Value.ref h₁.objs.size))) he₂ (Obj.isFreed_of_fields hd₃)
  have hT₃ := (Heap.get?_update_other (h₁.push { cls := .type "traceback", dict := none, data := .fields ([head, .ref L, .none, rawInt L, .none] ++ (if pl.isEmpty then List.replicate 6 Value.none else pl)).toArray })
    (Obj.mapFields (·.setIfInBounds 1 (Value.ref h₁.objs.size))) (Ne.symm hTe)).trans (Heap.get?_push_size h₁ rfl)
  have keep : ∀ b o, b ≠ e → h₁.get? b = some o →
      ((h₁.push { cls := .type "traceback", dict := none, data := .fields ([head, .ref L, .none, rawInt L, .none] ++ (if pl.isEmpty then List.replicate 6 Value.none else pl)).toArray }).update e (Obj.mapFields (·.setIfInBounds 1 (Value.ref h₁.objs.size)))).get? b = some o := fun b o hbe hb => by
    rw [Heap.get?_update_other _ _ (Ne.symm hbe)]
    exact Heap.get?_push_of_some _ hb
  have hbe : ∀ b o, h.get? b = some o → b ≠ e := fun b o hb q => by rw [q, hne] at hb; cases hb
  refine ⟨fun b o hb hnm => ?_, fun b o hb => ?_, hne, ?_⟩
  · exact keep b o (hbe b o hb) ((hs₁.2.1 b fun m => hnm (hg b m)).trans (hk1 b o hb hnm))
  · obtain ⟨sl, q⟩ := hk2 b o hb
    obtain ⟨sl', q'⟩ := hs₁.2.2 b _ q
    exact ⟨sl', keep b _ (hbe b o hb) q'⟩
  · refine ⟨_, _, h₁.objs.size, _, _, he₃, (Obj.cls_mapFields _ _).trans hcls, hd₃, by simp [hsz], hT₃, rfl, by simp, hTe, ?_⟩
    cases hq : h.get? h₁.objs.size with
    | none => rfl
    | some o =>
      obtain ⟨sl, q⟩ := hk2 _ o hq
      obtain ⟨sl', q'⟩ := hs₁.2.2 _ _ q
      exact absurd (Heap.lt_size q') (Nat.lt_irrefl _)

/-- the first note of a new exception -/
theorem note_new {env : Env} {outer : List Env} {L e : Addr} {h : Heap} {Q : Unit → Shared → Prop} (hfr : A.frames = some (env :: outer)) (hl : Frs h (env :: outer)) (hf : env.frame = some L)
    (hx : Heap.NewExc h s.heap e "TypeError") (k : ∀ h', Exc ((env :: outer).filterMap (·.frame)) h h' e (rawInt L) → Q () { s with heap := h' }) : wpAny M A (noteFrame (.ref e) env) Q E s := by
  obtain ⟨ob, t, he, hcls, hd⟩ := hx.there
  unfold noteFrame
  simp only [hf]
  refine wpAny_bind (wpAny_field he hd (x := .none) rfl ?_)
  rw [if_neg (by decide)]
  exact entry_new (fun _ m => m) hfr hl hf (fun b o hb _ => hx.keeps b o hb) (fun b o hb => ⟨o.slots, hx.keeps b o hb⟩) he hx.new hcls hd (by simp) k

/-- a further note, at a frame where it was not noted -/
theorem note_on {env : Env} {outer : List Env} {fs : List Addr} {L e : Addr} {h : Heap} {Q : Unit → Shared → Prop} (hg : ∀ b, b ∈ (env :: outer).filterMap (·.frame) → b ∈ fs) (hfr : A.frames = some (env :: outer)) (hl : Frs h (env :: outer)) (hf : env.frame = some L)
    (x : Exc fs h s.heap e .none) (k : ∀ h', Exc fs h h' e (rawInt L) → Q () { s with heap := h' }) : wpAny M A (noteFrame (.ref e) env) Q E s := by
  obtain ⟨ob, vs, tb, otb, tvs, he, hcls, hd, h1, htb, htd, h3, hte, htn⟩ := x.there
  unfold noteFrame
  simp only [hf]
  refine wpAny_bind (wpAny_field he hd h1 ?_)
  rw [if_pos (show (Value.ref tb != Value.none) = true from by simp)]
  refine wpAny_bind (wpAny_field htb htd h3 ?_)
  rw [if_neg (show ¬ ((Value.none == rawInt L) = true) from by simp [rawInt])]
  refine wpAny_bind (wpAny_setField htb htd (Array.getElem?_eq_some_iff.mp h3).1 ?_)
  have hbt : ∀ b o, h.get? b = some o → b ≠ tb := fun b o hb q => by rw [q, htn] at hb; cases hb
  have other : ∀ b, b ≠ tb → (s.heap.update tb (Obj.mapFields (·.setIfInBounds 3 Value.none))).get? b = s.heap.get? b := fun b hb => Heap.get?_update_other _ _ (Ne.symm hb)
  exact entry_new (s := { s with heap := s.heap.update tb (Obj.mapFields (·.setIfInBounds 3 Value.none)) }) hg hfr hl hf (fun b o hb hn => (other b (hbt b o hb)).trans (x.keep b o hb hn))
    (fun b o hb => let ⟨sl, q⟩ := x.frm b o hb; ⟨sl, (other b (hbt b o hb)).trans q⟩) ((other e (Ne.symm hte)).trans he) x.new hcls hd (Array.getElem?_eq_some_iff.mp h1).1 k

/-- a note at the frame where it was noted: nothing -/
theorem note_same {env : Env} {fs : List Addr} {L e : Addr} {h : Heap} {Q : Unit → Shared → Prop} (hf : env.frame = some L) (x : Exc fs h s.heap e (rawInt L)) (k : Q () s) : wpAny M A (noteFrame (.ref e) env) Q E s := by
  obtain ⟨ob, vs, tb, otb, tvs, he, hcls, hd, h1, htb, htd, h3, hte, htn⟩ := x.there
  unfold noteFrame
  simp only [hf]
  refine wpAny_bind (wpAny_field he hd h1 ?_)
  rw [if_pos (show (Value.ref tb != Value.none) = true from by simp)]
  refine wpAny_bind (wpAny_field htb htd h3 ?_)
  rw [if_pos (show (rawInt L == rawInt L) = true from by simp)]
  exact wpAny_pure k

theorem flight {fs : List Addr} {e : Addr} {h : Heap} {fl : Value} {fr : Option Addr} {Q : Unit → Shared → Prop} (x : Exc fs h s.heap e fl) (k : ∀ h', Exc fs h h' e (fr.elim .none fun f => rawInt f) → Q () { s with heap := h' }) :
    wpAny M A (setFlight (.ref e) fr) Q E s := by
  obtain ⟨ob, vs, tb, otb, tvs, he, hcls, hd, h1, htb, htd, h3, hte, htn⟩ := x.there
  unfold setFlight
  refine wpAny_bind (wpAny_field he hd h1 ?_)
  rw [if_pos (show (Value.ref tb != Value.none) = true from by simp)]
  have hsz := (Array.getElem?_eq_some_iff.mp h3).1
  refine wpAny_setField htb htd hsz (k _ ?_)
  have hbt : ∀ b o, h.get? b = some o → b ≠ tb := fun b o hb q => by rw [q, htn] at hb; cases hb
  have other : ∀ b, b ≠ tb → (s.heap.update tb (Obj.mapFields (·.setIfInBounds 3 (fr.elim .none fun f => rawInt f)))).get? b = s.heap.get? b := fun b hb => Heap.get?_update_other _ _ (Ne.symm hb)
  refine ⟨fun b o hb hn => (other b (hbt b o hb)).trans (x.keep b o hb hn), fun b o hb => let ⟨sl, q⟩ := x.frm b o hb; ⟨sl, (other b (hbt b o hb)).trans q⟩, x.new,
    ob, vs, tb, _, _, (other e (Ne.symm hte)).trans he, hcls, hd, h1, Heap.get?_update_self _ htb (Obj.isFreed_of_fields (Obj.data_mapFields htd _)), Obj.data_mapFields htd _, by simp [hsz], hte, htn⟩

/-- out of a loop's code -/
theorem came_back {env : Env} {fs : List Addr} {L e : Addr} {h : Heap} {fl : Value} (hf : env.frame = some L) (x : Exc fs h s.heap e fl) (k : ∀ h', Exc fs h h' e (rawInt L) → E (.ref e) { s with heap := h' }) : cameBackBy M A env E (.ref e) s := by
  obtain ⟨ob, vs, tb, otb, tvs, he, hcls, hd, h1, htb, htd, h3, hte, htn⟩ := id x.there
  unfold cameBackBy
  refine wpAny_bind (wpAny_field he hd h1 ?_)
  dsimp only
  rw [if_neg (show ¬ ((Value.ref tb == Value.none) = true) from by simp)]
  rw [hf]
  exact flight (fr := some L) x k

/-- out of a def's body, from its own frame | from a frame above -/
theorem leave_same {env : Env} {fs : List Addr} {L e : Addr} {h : Heap} {Q : Unit → Shared → Prop} (hf : env.frame = some L) (x : Exc fs h s.heap e (rawInt L)) (k : ∀ h', Exc fs h h' e .none → Q () { s with heap := h' }) :
    wpAny M A (leaving env (.ref e)) Q E s := by
  unfold leaving
  exact wpAny_bind (note_same hf x (flight (fr := none) x k))
theorem leave_on {env : Env} {outer : List Env} {fs : List Addr} {L e : Addr} {h : Heap} {Q : Unit → Shared → Prop} (hg : ∀ b, b ∈ (env :: outer).filterMap (·.frame) → b ∈ fs) (hfr : A.frames = some (env :: outer)) (hl : Frs h (env :: outer)) (hf : env.frame = some L)
    (x : Exc fs h s.heap e .none) (k : ∀ h', Exc fs h h' e .none → Q () { s with heap := h' }) : wpAny M A (leaving env (.ref e)) Q E s := by
  unfold leaving
  exact wpAny_bind (note_on hg hfr hl hf x fun h' x' => flight (s := { s with heap := h' }) (fr := none) x' k)
end
end Mine
end PartM4
section PartM5
set_option maxHeartbeats 1000000
namespace Mine
def sdParams : Arguments := match pw.main.body with | _ :: _ :: .FunctionDef _ p _ _ _ _ _ _ _ _ :: _ => p | _ => default
def suParams : Arguments := match pw.main.body with | _ :: _ :: _ :: .FunctionDef _ p _ _ _ _ _ _ _ _ :: _ => p | _ => default
def hyParams : Arguments := match pw.main.body with | _ :: .FunctionDef _ p _ _ _ _ _ _ _ _ :: _ => p | _ => default

/-- a def of the text as it stands at the base -/
def IsDef (h₀ : Heap) (mg : Str → Option Value) (name : Str) (params : Arguments) (body : List Stmt) (scope : Scope) : Prop :=
  ∃ f o pm cd doc, mg name = some (.ref f) ∧ h₀.get? f = some o ∧ o.data = .func (Calls.docDef name params body scope pm cd doc) ∧ h₀.CodeRec cd name
structure Gd (h₀ : Heap) (mg mb : Str → Option Value) : Prop where
  g : h₀.Ns mainGlobals mg
  b : h₀.Ns builtinsNs mb
  lim : h₀.NoLimit
  bt : ∀ x : Str, x ≠ "__name__" → mb x = bootBuiltins x
  no : ∀ x : Str, x ∈ (["len", "range", "reversed", "abs", "sorted", "set", "list", "sum", "min", "max", "TypeError"] : List Str) → mg x = none
  sd : IsDef h₀ mg "_siftdown" sdParams sdBody sdScope
  su : IsDef h₀ mg "_siftup" suParams suBody suScope
  hy : IsDef h₀ mg "heapify" hyParams hyBody hyScope

section
variable {h₀ hc : Heap} {mg mb : Str → Option Value} {H L : Addr} {vs : List Value} {bs : List (Str × Value)} {M : Model} {A : Around} {E : Value → Shared → Prop} {s : Shared} {name : Str} {scope : Scope} {a : Addr} {cd : Value} {m : Str → Option Value}

theorem ld_glob {x : Str} {pos : Pos} {v : Value} {Q : Value → Shared → Prop} (G : Gd h₀ mg mb) (k : ∀ b o, h₀.get? b = some o → s.heap.get? b = some o) (hv : mg x = some v) (h : Q v s)
    (hk : scope.kind = .function := by rfl) (hx : (envOf name scope L a cd).kindOf x = some .globalImplicit := by rfl)
    (hd : (x == ("__debug__" : Str)) = false := by decide) : wpAny M A (eval (.Name x pos) (envOf name scope L a cd)) Q E s :=
  Calls.Name_function_global hk hx (Calls.loadGlobal_global (env := envOf name scope L a cd) (G.g.keeps k) hv h) hd
theorem ld_blt {x : Str} {pos : Pos} {v : Value} {Q : Value → Shared → Prop} (G : Gd h₀ mg mb) (k : ∀ b o, h₀.get? b = some o → s.heap.get? b = some o) (hb : bootBuiltins x = some v) (h : Q v s)
    (hin : x ∈ (["len", "range", "reversed", "abs", "sorted", "set", "list", "sum", "min", "max", "TypeError"] : List Str) := by decide)
    (hk : scope.kind = .function := by rfl) (hx : (envOf name scope L a cd).kindOf x = some .globalImplicit := by rfl) (hn : x ≠ "__name__" := by decide)
    (hd : (x == ("__debug__" : Str)) = false := by decide) : wpAny M A (eval (.Name x pos) (envOf name scope L a cd)) Q E s :=
  Calls.Name_function_global hk hx (Calls.loadGlobal_builtin (env := envOf name scope L a cd) (G.g.keeps k) (G.no x hin) (G.b.keeps k) ((G.bt x hn).trans hb) h) hd
theorem B.keep (b : B h₀ hc H L vs bs s.heap) : ∀ b o, h₀.get? b = some o → s.heap.get? b = some o := by
  obtain ⟨m, F, _⟩ := b.fr; exact F.keep
end

theorem frs_keep {h h' : Heap} {H : Addr} {items : Array Value} {l : List Env} (f : Frs h l) (hl : h.IsList H items) (k : ∀ b o, b ≠ H → h.get? b = some o → h'.get? b = some o) : Frs h' l :=
  Frs.keeps (fun b o hb ⟨es, ep, hd⟩ => ⟨o, k b o (fun q => by
    obtain ⟨o', ho', _, n, hd'⟩ := hl
    subst q
    rw [hb] at ho'; cases ho'
    rw [hd] at hd'; cases hd') hb, rfl⟩) f

section
variable {h₀ : Heap} {mg mb : Str → Option Value} {H : Addr} {vs : List Value} {w : World} {A : Around} {s : Shared} {R : Result → Shared → Prop} {key : Value → Option Int} {outer : List Env}

theorem sd_call {f : Addr} {o : Obj} {pm cd doc : Value} {start pos : Nat} {t1 t2 : Tok} (G : Gd h₀ mg mb) (k₀ : ∀ b o, h₀.get? b = some o → s.heap.get? b = some o) (hsz : h₀.objs.size ≤ s.heap.objs.size)
    (ho : h₀.get? f = some o) (hdat : o.data = .func (Calls.docDef "_siftdown" sdParams sdBody sdScope pm cd doc)) (hcd : h₀.CodeRec cd "_siftdown")
    (hroom : A.depth < recursionLimit) (hl : s.heap.IsList H vs.toArray) (nH : h₀.get? H = none) (hI : ∀ v ∈ vs, Itm s.heap H key v) (hpos : pos < vs.length) (hn : vs.length < 2 ^ 62)
    (hh : A.handled = none) (hu : A.units + 3 < cLine) (hfr : A.frames = some outer) (hf : Frs s.heap outer)
    (hok : ∀ us s', Go s s' → siftdown (ltK key) vs start pos = .ok us → s'.heap.IsList H us.toArray → (∀ b o, b ≠ H → s.heap.get? b = some o → s'.heap.get? b = some o) → R (.ok (.ret .none)) s')
    (hno : ∀ us s' h₁ e, Go s s' → siftdown (ltK key) vs start pos = .error us → h₁.IsList H us.toArray → (∀ b o, b ≠ H → s.heap.get? b = some o → h₁.get? b = some o) →
      Exc (s.heap.objs.size :: outer.filterMap (·.frame)) h₁ s'.heap e .none → R (.error (.ref e)) s') :
    codeAny (model pw w) A (.call (.ref f) ⟨[.ref H, .int start t1, .int pos t2], []⟩) R s := by
  have hHL : H ≠ s.heap.objs.size := by
    obtain ⟨o', ho', _⟩ := hl
    exact Nat.ne_of_lt (Heap.lt_size ho')
  refine call_plain (binds := [("heap", .ref H), ("startpos", .int start t1), ("pos", .int pos t2)]) hroom (k₀ _ _ ho) hdat (G.lim.keeps k₀) (hcd.keeps k₀) rfl (locs rfl) (fun h₁ F => ?_)
  have b : B h₀ s.heap H s.heap.objs.size vs [("pos", .int pos t2), ("startpos", .int start t1), ("heap", .ref H)] h₁ :=
    ⟨⟨_, ⟨F.ns, fun b o e => F.keep b o (k₀ b o e), hsz⟩, fun _ _ e => e⟩, hl.at fun o e => F.keep _ _ e, fun b o _ e => F.keep b o e, nH, hHL, Nat.le_refl _⟩
  refine sd_body (s := { s with heap := h₁, toks := s.toks + _ }) b rfl rfl rfl hI hpos hn hh (by simpa using hu) (fun us bs' s' g e b' => ?_) (fun us bs' s' g e b' h' tk ex hx => ?_)
  · exact hok us s' (Go.trans ⟨_, _, rfl⟩ g) e b'.ls b'.kp
  · have hfr' : (A.deeper (sdEnv s.heap.objs.size f cd)).frames = some (sdEnv s.heap.objs.size f cd :: outer) := Around.frames_deeper hfr
    have hl' : Frs s'.heap (sdEnv s.heap.objs.size f cd :: outer) := by
      refine ⟨rfl, ?_, frs_keep hf hl b'.kp⟩
      obtain ⟨m, F', _⟩ := b'.fr
      obtain ⟨oL, es, ep, hL, hLd, _⟩ := F'.ns
      exact ⟨_, oL, es, ep, rfl, hL, hLd⟩
    show wpAny _ _ (noteFrame _ _) _ _ _
    refine note_new (s := { s' with heap := h', toks := tk }) hfr' hl' rfl hx fun h2 x2 => ?_
    refine came_back rfl x2 fun h3 x3 => ?_
    refine leave_same rfl x3 fun h4 x4 => ?_
    exact hno us _ s'.heap ex (Go.trans ⟨_, _, rfl⟩ (g.trans ⟨_, _, rfl⟩)) e b'.ls b'.kp x4
end
end Mine
end PartM5
section PartM6
set_option maxHeartbeats 1000000
namespace Mine
section
variable {h₀ hc : Heap} {mg mb : Str → Option Value} {H L : Addr} {vs : List Value} {bs : List (Str × Value)} {w : World} {A : Around} {E : Value → Shared → Prop} {s : Shared} {f : Addr} {cd : Value} {key : Value → Option Int} {outer : List Env}
abbrev suEnv (L f : Addr) (cd : Value) : Env := envOf "_siftup" suScope L f cd

theorem Itm.keep {h h' : Heap} {v : Value} (i : Itm h H key v) (k : ∀ b o, b ≠ H → h.get? b = some o → h'.get? b = some o) : Itm h' H key v :=
  i.imp id fun ⟨a, x, t, e1, e2, e3, e4⟩ => ⟨a, x, t, e1, e2, e3, e4.at fun o e => k a o e3 e⟩
theorem sizeOf_list {h : Heap} {H : Addr} {items : Array Value} (hl : h.IsList H items) : H < h.objs.size := by
  obtain ⟨o, ho, _⟩ := hl; exact Heap.lt_size ho

def TurnQ (I : Nat → Shared → Prop) (n : Nat) (f : Flow) (s : Shared) : Prop := (f = .next ∨ f = .cont) ∧ ∃ m, m < n ∧ I m s
theorem turn_mono {M : Model} {A : Around} {E : Value → Shared → Prop} {t : Sem Flow} {I : Nat → Shared → Prop} {n : Nat} {Q : Flow → Shared → Prop} {s : Shared} (h : wpAny M A t (TurnQ I n) (fun _ _ => False) s)
    (h1 : ∀ s', (∃ m, m < n ∧ I m s') → Q .next s') (h2 : ∀ s', (∃ m, m < n ∧ I m s') → Q .cont s') : wpAny M A t Q E s :=
  wpAny_mono h (fun f s' q => by
    obtain ⟨rfl | rfl, q⟩ := q
    · exact h1 _ q
    · exact h2 _ q) fun _ _ q => q.elim
def SuInv (h₀ hc : Heap) (H L : Addr) (key : Value → Option Int) (vs : List Value) (pos : Nat) (t2 : Tok) (X : Value) (s : Shared) (n : Nat) (s' : Shared) : Prop :=
  ∃ us p bs' te t t', vs.length - p = n ∧ Go s s' ∧ B h₀ hc H L us bs' s'.heap ∧ At bs' "heap" (.ref H) ∧ At bs' "endpos" (.int vs.length te) ∧ At bs' "startpos" (.int pos t2) ∧ At bs' "newitem" X ∧
    At bs' "pos" (.int (p : Nat) t) ∧ At bs' "childpos" (.int (2 * p + 1 : Nat) t') ∧ us.length = vs.length ∧ suLoop (ltK key) us p = suLoop (ltK key) vs pos ∧ (∀ v ∈ us, Itm hc H key v) ∧ p < us.length

theorem su_body {pos : Nat} {t2 : Tok} {Q : Flow → Shared → Prop} (G : Gd h₀ mg mb) (b : B h₀ hc H L vs bs s.heap) (l1 : At bs "heap" (.ref H)) (l3 : At bs "pos" (.int pos t2))
    (hI : ∀ v ∈ vs, Itm hc H key v) (hpos : pos < vs.length) (hn : vs.length < 2 ^ 60) (hh : A.handled = none) (hu : A.units + 3 < cLine) (hroom : A.depth < recursionLimit)
    (hfr : A.frames = some (suEnv L f cd :: outer)) (hf : Frs hc outer) (hlc : hc.IsList H vs.toArray)
    (hok : ∀ us bs' s', Go s s' → siftup (ltK key) vs pos = .ok us → B h₀ hc H L us bs' s'.heap → Q .next s')
    (hno1 : ∀ us bs' s', Go s s' → siftup (ltK key) vs pos = .error us → B h₀ hc H L us bs' s'.heap → ∀ h' tk e, Heap.NewExc s'.heap h' e "TypeError" →
      notedBy (model pw w) A (suEnv L f cd) (cameBackBy (model pw w) A (suEnv L f cd) E) (.ref e) { s' with heap := h', toks := tk })
    (hno2 : ∀ us s' h₁ n e, Go s s' → siftup (ltK key) vs pos = .error us → h₁.IsList H us.toArray → (∀ b o, b ≠ H → hc.get? b = some o → h₁.get? b = some o) → (∃ o es ep, h₁.get? L = some o ∧ o.data = .dict es ep) →
      hc.objs.size ≤ n → Exc (n :: L :: outer.filterMap (·.frame)) h₁ s'.heap e .none → E (.ref e) s') :
    wpAny (model pw w) A (execs suBody (suEnv L f cd)) Q E s := by
  unfold suBody
  -- endpos = len(heap)
  refine wpAny_execs_cons ?_
  refine wpAny_Assign_Name ?_
  refine Call_ ?_
  refine ld_blt G b.keep boot_len ?_
  refine PyProof.Rows.callWith_builtin1 ?_
  refine args_cons ?_
  refine B.ld b l1 ?_
  refine args_nil ?_
  refine Calls.call_len_list b.ls (by rw [List.size_toArray]; (first | lia | omega)) ?_
  refine B.st b fun s₁ g₁ b₁ => ?_
  dsimp only
  rw [List.size_toArray] at b₁
  -- startpos = pos
  refine wpAny_execs_cons ?_
  refine wpAny_Assign_Name ?_
  refine B.ld b₁ l3 ?_
  refine B.st b₁ fun s₂ g₂ b₂ => ?_
  dsimp only
  -- newitem = heap[pos]
  refine wpAny_execs_cons ?_
  refine wpAny_Assign_Name ?_
  refine Subscript_ ?_
  refine B.ld b₂ l1 ?_
  refine B.ld b₂ l3 ?_
  refine B.get b₂ (by (first | lia | omega)) (by simpa using hpos) (by (first | lia | omega)) ?_
  refine B.st b₂ fun s₃ g₃ b₃ => ?_
  dsimp only
  rw [Int.toNat_natCast] at b₃
  have hx : Itm hc H key (nth vs pos) := hI _ (nth_mem hpos)
  generalize hX : nth vs pos = X at b₃ hx
  -- childpos = 2 * pos + 1
  refine wpAny_execs_cons ?_
  refine wpAny_Assign_Name ?_
  refine wpAny_BinOp ?_
  refine wpAny_BinOp ?_
  refine wpAny_Constant_int ?_
  refine B.ld b₃ l3 ?_
  refine mul_int ?_
  refine wpAny_Constant_int ?_
  refine add_int ?_
  refine B.st b₃ fun s₄ g₄ b₄ => ?_
  dsimp only
  have g₄' : Go s s₄ := (((Go.trans ⟨_, _, rfl⟩ g₁).trans g₂).trans g₃).trans (Go.trans ⟨_, _, rfl⟩ g₄)
  rw [show (2 : Int) * (pos : Int) + 1 = ((2 * pos + 1 : Nat) : Int) by (first | lia | omega)] at b₄
  refine wpAny_execs_cons ?_
  refine wpAny_While (codeAny_whileLoop (I := SuInv h₀ hc H L key vs pos t2 X s) ?_ _ ⟨vs, pos, _, _, t2, _, rfl, g₄', b₄, l1, rfl, rfl, rfl, l3, rfl, rfl, rfl, hI, hpos⟩)
  clear b₄ g₄' g₄ b₃ g₃ b₂ g₂ b₁ g₁
  rintro n s₁ ⟨us, p, bs', te, t, t', hm, g₁, b₁, k1, k2, k3, k4, k5, k6, hlen, heq, hI', hp⟩
  refine wpAny_isTrue_Compare1 ?_
  refine B.ld b₁ k6 ?_
  refine B.ld b₁ k2 ?_
  refine lt_int ?_
  refine wpAny_truthy_bool ?_
  by_cases hlt : 2 * p + 1 < vs.length
  · have hd : decide (((2 * p + 1 : Nat) : Int) < (vs.length : Int)) = true := by simp; (first | lia | omega)
    rw [hd]
    simp only [if_true]
    -- rightpos = childpos + 1
    refine wpAny_execs_cons ?_
    refine wpAny_Assign_Name ?_
    refine wpAny_BinOp ?_
    refine B.ld b₁ k6 ?_
    refine wpAny_Constant_int ?_
    refine add_int ?_
    rw [show ((2 * p + 1 : Nat) : Int) + 1 = ((2 * p + 2 : Nat) : Int) by (first | lia | omega)]
    refine B.st b₁ fun s₂ g₂ b₂ => ?_
    dsimp only
    have g₂' : Go s s₂ := g₁.trans (Go.trans ⟨_, _, rfl⟩ g₂)
    -- the rest of the turn, from the child that is taken
    have tail : ∀ c tc bs₃ s₃, Go s s₃ → B h₀ hc H L us bs₃ s₃.heap → At bs₃ "heap" (.ref H) → At bs₃ "endpos" (.int vs.length te) → At bs₃ "startpos" (.int pos t2) → At bs₃ "newitem" X →
        At bs₃ "pos" (.int (p : Nat) t) → At bs₃ "childpos" (.int (c : Nat) tc) → p < c → c < us.length → suLoop (ltK key) (us.set p (nth us c)) c = suLoop (ltK key) us p →
        wpAny (model pw w) A (execs (match pw.main.body with | _ :: _ :: _ :: .FunctionDef _ _ (_ :: _ :: _ :: _ :: .While _ (_ :: _ :: r) _ _ :: _) _ _ _ _ _ _ _ :: _ => r | _ => []) (suEnv L f cd))
          (TurnQ (SuInv h₀ hc H L key vs pos t2 X s) n) (fun _ _ => False) s₃ := by
      intro c tc bs₃ s₃ g₃ b₃ j1 j2 j3 j4 j5 j6 hpc hcl he
      refine wpAny_execs_cons ?_
      refine wpAny_Assign_Subscript ?_
      refine Subscript_ ?_
      refine B.ld b₃ j1 ?_
      refine B.ld b₃ j6 ?_
      refine B.get b₃ (by (first | lia | omega)) (by (first | lia | omega)) (by (first | lia | omega)) ?_
      rw [Int.toNat_natCast]
      refine B.ld b₃ j1 ?_
      refine B.ld b₃ j5 ?_
      refine B.set b₃ (by (first | lia | omega)) (by (first | lia | omega)) (by (first | lia | omega)) fun s₄ g₄ b₄ => ?_
      rw [Int.toNat_natCast] at b₄
      dsimp only
      refine wpAny_execs_cons ?_
      refine wpAny_Assign_Name ?_
      refine B.ld b₄ j6 ?_
      refine B.st b₄ fun s₅ g₅ b₅ => ?_
      dsimp only
      refine wpAny_execs_cons ?_
      refine wpAny_Assign_Name ?_
      refine wpAny_BinOp ?_
      refine wpAny_BinOp ?_
      refine wpAny_Constant_int ?_
      refine B.ld b₅ rfl ?_
      refine mul_int ?_
      refine wpAny_Constant_int ?_
      refine add_int ?_
      rw [show (2 : Int) * (c : Int) + 1 = ((2 * c + 1 : Nat) : Int) by (first | lia | omega)]
      refine B.st b₅ fun s₆ g₆ b₆ => ?_
      dsimp only
      refine wpAny_execs_nil ?_
      refine ⟨.inl rfl, vs.length - c, by (first | lia | omega), _, c, _, _, _, _, rfl, ((g₃.trans g₄).trans g₅).trans (Go.trans ⟨_, _, rfl⟩ g₆), b₆, j1, j2, j3, j4, rfl, rfl, by rw [List.length_set]; exact hlen, he.trans heq, ?_, by rw [List.length_set]; exact hcl⟩
      intro v hv
      rcases List.mem_or_eq_of_mem_set hv with h | h
      · exact hI' v h
      · rw [h]; exact hI' _ (nth_mem hcl)
    refine wpAny_execs_cons ?_
    refine wpAny_If ?_
    refine isTrue_and ?_
    refine wpAny_isTrue_Compare1 ?_
    refine B.ld b₂ rfl ?_
    refine B.ld b₂ k2 ?_
    refine lt_int ?_
    refine wpAny_truthy_bool ?_
    by_cases hr : 2 * p + 2 < vs.length
    · have hd : decide (((2 * p + 2 : Nat) : Int) < (vs.length : Int)) = true := by simp; (first | lia | omega)
      rw [hd]
      simp only [if_true]
      refine isTrue_and ?_
      refine isTrue_not ?_
      refine wpAny_isTrue_Compare1 ?_
      refine Subscript_ ?_
      refine B.ld b₂ k1 ?_
      refine B.ld b₂ k6 ?_
      refine B.get b₂ (by (first | lia | omega)) (by (first | lia | omega)) (by (first | lia | omega)) ?_
      rw [Int.toNat_natCast]
      refine Subscript_ ?_
      refine B.ld b₂ k1 ?_
      refine B.ld b₂ rfl ?_
      refine B.get b₂ (by (first | lia | omega)) (by (first | lia | omega)) (by (first | lia | omega)) ?_
      rw [Int.toNat_natCast]
      refine cmp_items b₂ (hI' _ (nth_mem (by (first | lia | omega)))) (hI' _ (nth_mem (by (first | lia | omega)))) hh (by (first | lia | omega)) (fun r hr' => ?_) (fun hr' h' tk e hx' => ?_)
      · refine wpAny_truthy_bool ?_
        cases r with
        | true =>
          simp only [Bool.not_true, Bool.false_eq_true, if_false]
          refine wpAny_execs_nil ?_
          dsimp only
          refine turn_mono (tail (2 * p + 1) t' _ _ g₂' b₂ k1 k2 k3 k4 k5 k6 (by (first | lia | omega)) (by (first | lia | omega)) ?_) (fun _ q => q) (fun _ q => q)
          conv => rhs; rw [suLoop]
          rw [if_pos (by (first | lia | omega)), if_pos (by (first | lia | omega)), hr']
        | false =>
          simp only [Bool.not_false, if_true]
          refine isTrue_and_nil ?_
          simp only [if_true]
          refine wpAny_execs_cons ?_
          refine wpAny_Assign_Name ?_
          refine B.ld b₂ rfl ?_
          refine B.st b₂ fun s₃ g₃ b₃ => ?_
          dsimp only
          refine wpAny_execs_nil ?_
          dsimp only
          refine turn_mono (tail (2 * p + 2) _ _ _ (g₂'.trans g₃) b₃ k1 k2 k3 k4 k5 rfl (by (first | lia | omega)) (by (first | lia | omega)) ?_) (fun _ q => q) (fun _ q => q)
          conv => rhs; rw [suLoop]
          rw [if_pos (by (first | lia | omega)), if_pos (by (first | lia | omega)), hr']
      · refine hno1 us _ s₂ g₂' ?_ b₂ h' tk e hx'
        rw [siftup, ← heq, suLoop, if_pos (by (first | lia | omega)), if_pos (by (first | lia | omega)), hr']
    · have hd : decide (((2 * p + 2 : Nat) : Int) < (vs.length : Int)) = false := by simp; (first | lia | omega)
      rw [hd]
      simp only [Bool.false_eq_true, if_false]
      refine wpAny_execs_nil ?_
      dsimp only
      refine turn_mono (tail (2 * p + 1) t' _ _ g₂' b₂ k1 k2 k3 k4 k5 k6 (by (first | lia | omega)) (by (first | lia | omega)) ?_) (fun _ q => q) (fun _ q => q)
      conv => rhs; rw [suLoop]
      rw [if_pos (by (first | lia | omega)), if_neg (by (first | lia | omega))]
  · have hd : decide (((2 * p + 1 : Nat) : Int) < (vs.length : Int)) = false := by simp; (first | lia | omega)
    rw [hd]
    simp only [Bool.false_eq_true, if_false]
    refine wpAny_execs_nil ?_
    dsimp only
    -- heap[pos] = newitem
    refine wpAny_execs_cons ?_
    refine wpAny_Assign_Subscript ?_
    refine B.ld b₁ k4 ?_
    refine B.ld b₁ k1 ?_
    refine B.ld b₁ k5 ?_
    refine B.set b₁ (by (first | lia | omega)) (by (first | lia | omega)) (by (first | lia | omega)) fun s₂ g₂ b₂ => ?_
    rw [Int.toNat_natCast] at b₂
    dsimp only
    have hsu : siftup (ltK key) vs pos = siftdown (ltK key) (us.set p X) pos p := by
      have hb : suLoop (ltK key) vs pos = .ok (us, p) := by rw [← heq, suLoop, if_neg (by (first | lia | omega))]
      rw [siftup, hb, hX]
    have hI2 : ∀ v ∈ us.set p X, Itm hc H key v := by
      intro v hv
      rcases List.mem_or_eq_of_mem_set hv with h | h
      · exact hI' v h
      · rw [h]; exact hx
    -- _siftdown(heap, startpos, pos)
    obtain ⟨f', o', pm', cd', doc', q1, q2, q3, q4⟩ := G.sd
    refine wpAny_execs_cons ?_
    refine wpAny_Expr ?_
    refine Call_ ?_
    refine ld_glob G b₂.keep q1 ?_
    refine callWith_def q3 ?_
    refine args_cons ?_
    refine B.ld b₂ k1 ?_
    refine args_cons ?_
    refine B.ld b₂ k3 ?_
    refine args_cons ?_
    refine B.ld b₂ k5 ?_
    refine args_nil ⟨b₂.keep _ _ q2, ?_⟩
    obtain ⟨m, F, lk⟩ := id b₂.fr
    obtain ⟨oL, es, ep, hL, hLd, hLr⟩ := F.ns
    have hLlt : L < s₂.heap.objs.size := Heap.lt_size hL
    have hfs : Frs s₂.heap (suEnv L f cd :: outer) := ⟨rfl, ⟨L, oL, es, ep, rfl, hL, hLd⟩, frs_keep hf hlc b₂.kp⟩
    refine wpAny_call (sd_call G b₂.keep (Nat.le_of_lt (Nat.lt_of_le_of_lt F.above hLlt)) q2 q3 q4 hroom b₂.ls b₂.nH (fun v hv => Itm.keep (hI2 v hv) b₂.kp) (by rw [List.length_set]; exact hp) (by rw [List.length_set]; (first | lia | omega)) hh hu hfr hfs
      (fun us' s₃ g₃ e₃ hl₃ kp₃ => ?_) (fun us' s₃ h₁ e g₃ e₃ hl₃ kp₃ x₃ => ?_))
    · dsimp only
      refine wpAny_execs_nil ?_
      refine hok us' _ s₃ ((g₁.trans g₂).trans g₃) (hsu.trans e₃) ⟨⟨m, ⟨⟨oL, es, ep, kp₃ _ _ (Ne.symm b₂.ne) hL, hLd, hLr⟩, fun b o e => ?_, F.above⟩, lk⟩, hl₃, fun b o n e => kp₃ b o n (b₂.kp b o n e), b₂.nH, b₂.ne, b₂.up⟩
      exact kp₃ b o (fun q => by rw [q, b₂.nH] at e; cases e) (b₂.keep b o e)
    · refine hno2 us' s₃ h₁ s₂.heap.objs.size e ((g₁.trans g₂).trans g₃) (hsu.trans e₃) hl₃ (fun b o n e => kp₃ b o n (b₂.kp b o n e)) ⟨oL, es, ep, kp₃ _ _ (Ne.symm b₂.ne) hL, hLd⟩ (Nat.le_trans b₂.up (Nat.le_of_lt hLlt)) x₃
end
end Mine
end PartM6
section PartM7
set_option maxHeartbeats 1000000
namespace Mine
section
variable {h₀ : Heap} {mg mb : Str → Option Value} {H : Addr} {vs : List Value} {w : World} {A : Around} {s : Shared} {R : Result → Shared → Prop} {key : Value → Option Int} {outer : List Env}

theorem su_call {f : Addr} {o : Obj} {pm cd doc : Value} {pos : Nat} {t2 : Tok} (G : Gd h₀ mg mb) (k₀ : ∀ b o, h₀.get? b = some o → s.heap.get? b = some o) (hsz : h₀.objs.size ≤ s.heap.objs.size)
    (ho : h₀.get? f = some o) (hdat : o.data = .func (Calls.docDef "_siftup" suParams suBody suScope pm cd doc)) (hcd : h₀.CodeRec cd "_siftup")
    (hroom : A.depth + 1 < recursionLimit) (hl : s.heap.IsList H vs.toArray) (nH : h₀.get? H = none) (hI : ∀ v ∈ vs, Itm s.heap H key v) (hpos : pos < vs.length) (hn : vs.length < 2 ^ 60)
    (hh : A.handled = none) (hu : A.units + 6 < cLine) (hfr : A.frames = some outer) (hf : Frs s.heap outer)
    (hok : ∀ us s', Go s s' → siftup (ltK key) vs pos = .ok us → s'.heap.IsList H us.toArray → (∀ b o, b ≠ H → s.heap.get? b = some o → s'.heap.get? b = some o) → R (.ok (.ret .none)) s')
    (hno : ∀ us s' h₁ fs e, Go s s' → siftup (ltK key) vs pos = .error us → h₁.IsList H us.toArray → (∀ b o, b ≠ H → s.heap.get? b = some o → h₁.get? b = some o) →
      (∀ b ∈ fs, b ∈ outer.filterMap (·.frame) ∨ s.heap.objs.size ≤ b) → (∀ b ∈ outer.filterMap (·.frame), b ∈ fs) → Exc fs h₁ s'.heap e .none → R (.error (.ref e)) s') :
    codeAny (model pw w) A (.call (.ref f) ⟨[.ref H, .int pos t2], []⟩) R s := by
  have hHL : H ≠ s.heap.objs.size := Nat.ne_of_lt (sizeOf_list hl)
  refine call_plain (binds := [("heap", .ref H), ("pos", .int pos t2)]) (by (first | lia | omega)) (k₀ _ _ ho) hdat (G.lim.keeps k₀) (hcd.keeps k₀) rfl (locs rfl) (fun h₁ F => ?_)
  have b : B h₀ s.heap H s.heap.objs.size vs [("pos", .int pos t2), ("heap", .ref H)] h₁ :=
    ⟨⟨_, ⟨F.ns, fun b o e => F.keep b o (k₀ b o e), hsz⟩, fun _ _ e => e⟩, hl.at fun o e => F.keep _ _ e, fun b o _ e => F.keep b o e, nH, hHL, Nat.le_refl _⟩
  have hfr' : (A.deeper (suEnv s.heap.objs.size f cd)).frames = some (suEnv s.heap.objs.size f cd :: outer) := Around.frames_deeper hfr
  refine su_body (s := { s with heap := h₁, toks := s.toks + _ }) G b rfl rfl hI hpos hn hh (by show A.units + 3 + 3 < cLine; (first | lia | omega)) hroom hfr' hf hl (fun us bs' s' g e b' => ?_) (fun us bs' s' g e b' h' tk ex hx => ?_) (fun us s' h2 n ex g e hl2 kp2 hL2 hn2 x2 => ?_)
  · exact hok us s' (Go.trans ⟨_, _, rfl⟩ g) e b'.ls b'.kp
  · have hl' : Frs s'.heap (suEnv s.heap.objs.size f cd :: outer) := by
      refine ⟨rfl, ?_, frs_keep hf hl b'.kp⟩
      obtain ⟨m, F', _⟩ := b'.fr
      obtain ⟨oL, es, ep, hL, hLd, _⟩ := F'.ns
      exact ⟨_, oL, es, ep, rfl, hL, hLd⟩
    show wpAny _ _ (noteFrame _ _) _ _ _
    refine note_new (s := { s' with heap := h', toks := tk }) hfr' hl' rfl hx fun h2 x2 => ?_
    refine came_back rfl x2 fun h3 x3 => ?_
    refine leave_same rfl x3 fun h4 x4 => ?_
    refine hno us _ s'.heap _ ex (Go.trans ⟨_, _, rfl⟩ (g.trans ⟨_, _, rfl⟩)) e b'.ls b'.kp ?_ ?_ x4
    · intro c hc
      rcases List.mem_cons.mp (show c ∈ s.heap.objs.size :: outer.filterMap (·.frame) from hc) with q | q
      · exact .inr (Nat.le_of_eq q.symm)
      · exact .inl q
    · intro c hc
      exact List.mem_cons_of_mem _ hc
  · have hl2' : Frs h2 (suEnv s.heap.objs.size f cd :: outer) := by
      obtain ⟨oL, es, ep, hL, hLd⟩ := hL2
      exact ⟨rfl, ⟨_, oL, es, ep, rfl, hL, hLd⟩, frs_keep hf hl kp2⟩
    refine leave_on ?_ hfr' hl2' rfl x2 fun h3 x3 => ?_
    · intro c hc
      exact List.mem_cons_of_mem _ hc
    refine hno us _ h2 _ ex (Go.trans ⟨_, _, rfl⟩ (g.trans ⟨_, _, rfl⟩)) e hl2 kp2 ?_ ?_ x3
    · intro c hc
      rcases List.mem_cons.mp hc with q | q
      · exact .inr (q ▸ hn2)
      · rcases List.mem_cons.mp q with q | q
        · exact .inr (Nat.le_of_eq q.symm)
        · exact .inl q
    · intro c hc
      exact List.mem_cons_of_mem _ (List.mem_cons_of_mem _ hc)
end

section
variable {prog : Program} {w : World} {A : Around} {E : Value → Shared → Prop} {s : Shared} {R : Result → Shared → Prop}

/-- a for loop by an invariant -/
theorem for_rule {x : Str} {px : Pos} {body orelse : List Stmt} {env : Env} {I : Addr} {fp wr : List Addr} {n : Nat} {P : Nat → Value → Prop} {St : Nat → Heap → Prop} (W : Walks prog w A I fp wr n P St) (J : Nat → Shared → Prop)
    (hJ : ∀ i s, J i s → St i s.heap)
    (step : ∀ i v s₁ h' tk, J i s₁ → i < n → P i v → St (i + 1) h' → (∀ b o, b ∉ wr → s₁.heap.get? b = some o → h'.get? b = some o) →
      wpAny (model prog w) A (storeName env x v) (fun _ s₂ => wpAny (model prog w) A (execs body env) (fun f s₃ => match f with
            | .next | .cont => J (i + 1) s₃
            | .brk => R (.ok .next) s₃
            | .ret v => R (.ok (.ret v)) s₃) (notedBy (model prog w) A env fun e s' => R (.error e) s') s₂) (notedBy (model prog w) A env fun e s' => R (.error e) s') { s₁ with heap := h', toks := tk })
    (fin : ∀ s₁ h' tk, J n s₁ → (∀ b o, b ∉ wr → s₁.heap.get? b = some o → h'.get? b = some o) → wpAny (model prog w) A (execs orelse env) (fun f s₃ => R (.ok f) s₃) (notedBy (model prog w) A env fun e s' => R (.error e) s') { s₁ with heap := h', toks := tk })
    (h0 : J 0 s) : codeAny (model prog w) A (.forLoop (.Name x px) (.ref I) body orelse env) R s := by
  refine codeAny_forLoop_any (I := fun m s' => ∃ i, m + i = n ∧ J i s') ?_ n ⟨0, rfl, h0⟩
  rintro m s₁ ⟨i, hm, hj⟩
  by_cases hi : i < n
  · refine W.item i s₁ _ _ hi (hJ i s₁ hj) fun v h' tk hP hS hk => ?_
    refine wpAny_pure ?_
    refine wpAny_assign_Name ?_
    refine wpAny_mono (step i v s₁ h' tk hj hi hP hS hk) (fun _ s₂ q => wpAny_mono q (fun f s₃ q => ?_) fun _ _ e => e) fun _ _ e => e
    cases f with
    | next => exact ⟨m - 1, by (first | lia | omega), i + 1, by (first | lia | omega), q⟩
    | cont => exact ⟨m - 1, by (first | lia | omega), i + 1, by (first | lia | omega), q⟩
    | brk => exact q
    | ret v => exact q
  · have hin : i = n := by (first | lia | omega)
    subst hin
    exact W.done s₁ _ _ (hJ i s₁ hj) fun h' tk hk => fin s₁ h' tk hj hk

theorem call_range_reversed {r : Addr} {a b c : Int} {t u v : Tok} {n : Nat} {Q : Value → Shared → Prop} (hr : IsRange s.heap r a b c t u v) (hn : Builtin.Range.rangeSize a b c = n)
    (hsm : (Builtin.Range.rangeFitsLong a && Builtin.Range.rangeFitsLong b && Builtin.Range.rangeFitsLong c && Builtin.Range.rangeFitsLong (-c) && Builtin.Range.rangeFitsLong (a - c) && Builtin.Range.rangeFitsLong (Builtin.Range.rangeSize a b c)) = true)
    (h : Q (.ref s.heap.objs.size) { s with heap := s.heap.push { cls := .type "range_iterator", data := .fields #[rawInt (a + ((n : Int) - 1) * c), rawInt n, rawInt (-c)] } }) :
    wpAny (model prog w) A (call (.builtin "range.__reversed__") [.ref r]) Q E s := by
  have hT : s.TypeIs (.ref r) "range" := ⟨_, hr, rfl⟩
  refine wpAny_call_entry F.slot_range_reversed hT F.entry_range_reversed ?_ (F.args_range_reversed_1 _)
  unfold Builtin.«range.__reversed__»
  refine wpAny_bind (wpAny_of_eq (a := Value.ref r) rfl ?_)
  obtain ⟨hp, g, d, tk, os⟩ := s
  wp_walk
  rw [if_neg (by rw [hsm]; decide)]
  dsimp only
  rw [if_pos hsm, hn]
  unfold newFields
  exact wpAny_bind (wpAny_newObj_type (wpAny_pure ⟨_, rfl, h⟩))

theorem code_reversed_range {r : Addr} {a b c : Int} {t u v : Tok} {n : Nat} {Q₁ : Value → Shared → Prop} (hr : IsRange s.heap r a b c t u v) (hn : Builtin.Range.rangeSize a b c = n)
    (hsm : (Builtin.Range.rangeFitsLong a && Builtin.Range.rangeFitsLong b && Builtin.Range.rangeFitsLong c && Builtin.Range.rangeFitsLong (-c) && Builtin.Range.rangeFitsLong (a - c) && Builtin.Range.rangeFitsLong (Builtin.Range.rangeSize a b c)) = true)
    (h : Q₁ (.ref s.heap.objs.size) { s with heap := s.heap.push { cls := .type "range_iterator", data := .fields #[rawInt (a + ((n : Int) - 1) * c), rawInt n, rawInt (-c)] } }) :
    codeAny (model prog w) A (.call (.builtin "reversed.__new__") ⟨[.type "reversed", .ref r], []⟩) (wants Q₁ E) s := by
  have hT : s.TypeIs (.ref r) "range" := ⟨_, hr, rfl⟩
  refine codeAny_of_tree ?_
  show wpAny _ A.in1 (do checkBuiltinCall "reversed.__new__" ⟨[.type "reversed", .ref r], []⟩; again (.builtin "reversed.__new__" ⟨[.type "reversed", .ref r], []⟩)) _ _ s
  refine wpAny_bind (wpAny_of_eq (F.newCall_reversed_1 _) (wpAny_pure ⟨plainId_quiet F.plain_reversed_new _, codeAny_builtin F.entry_reversed_new ?_⟩))
  rw [Around.under_plainId F.plain_reversed_new _]
  unfold Builtin.«reversed.__new__»
  refine wpAny_bind (wpAny_of_eq (newClass_reversed _) ?_)
  try dsimp only
  refine wpAny_bind (wpAny_of_eq (a := ()) (by first | rfl | kernel_rfl) ?_)
  refine wpAny_bind (wpAny_of_eq (a := ()) (by first | rfl | kernel_rfl) ?_)
  try dsimp only
  refine wpAny_bind (wpAny_specialOf hT F.slot_range_reversed.lookup ?_)
  try dsimp only
  refine wpAny_bind (wpAny_of_eq (F.slot_range_reversed.bind _) ?_)
  try dsimp only
  first
  | rw [if_neg (show ¬ ((Value.builtin "range.__reversed__" == Value.none) = true) from Bool.false_ne_true)]
  | (show wpAny _ _ (if (Value.builtin "range.__reversed__" == Value.none) = true then _ else _) _ _ _; rw [if_neg (show ¬ ((Value.builtin "range.__reversed__" == Value.none) = true) from Bool.false_ne_true)])
  refine wpAny_bind (wpAny_rule ?_)
  refine wpAny_bind (m := runValue (.call (.builtin "range.__reversed__") ⟨[.ref r], []⟩)) (show wpAny _ _ (call (.builtin "range.__reversed__") [.ref r]) _ _ _ from call_range_reversed hr hn hsm ?_)
  first
  | exact wpAny_pure h
  | exact wpAny_bind (wpAny_pure (wpAny_pure h))

theorem sub_ri_reversed : isSubtype (.type "range_iterator") (.type "reversed") = pure false := by rw [isSubtype_type]; kernel_rfl

theorem call_reversed_range {r : Addr} {a b c : Int} {t u v : Tok} {n : Nat} {Q : Value → Shared → Prop} (hr : IsRange s.heap r a b c t u v) (hn : Builtin.Range.rangeSize a b c = n)
    (hsm : (Builtin.Range.rangeFitsLong a && Builtin.Range.rangeFitsLong b && Builtin.Range.rangeFitsLong c && Builtin.Range.rangeFitsLong (-c) && Builtin.Range.rangeFitsLong (a - c) && Builtin.Range.rangeFitsLong (Builtin.Range.rangeSize a b c)) = true)
    (h : Q (.ref s.heap.objs.size) { s with heap := s.heap.push { cls := .type "range_iterator", data := .fields #[rawInt (a + ((n : Int) - 1) * c), rawInt n, rawInt (-c)] } }) : wpAny (model prog w) A (call (.type "reversed") [.ref r]) Q E s := by
  refine callType_other (U := "range_iterator") (Q₁ := fun obj s₁ => obj = .ref s.heap.objs.size ∧ s₁ = { s with heap := s.heap.push { cls := .type "range_iterator", data := .fields #[rawInt (a + ((n : Int) - 1) * c), rawInt n, rawInt (-c)] } }) (by decide +kernel) F.create_reversed ⟨_, _, F.mro_reversed⟩ F.made_reversed sub_ri_reversed (F.typeCall_reversed_1 _) (code_reversed_range hr hn hsm ⟨rfl, rfl⟩) ?_
  rintro obj s₁ ⟨rfl, rfl⟩
  exact ⟨⟨_, Heap.get?_push_size _ rfl, rfl⟩, h⟩
end
end Mine
end PartM7
section PartM8
set_option maxHeartbeats 1000000
namespace Mine

/-! totality where every item has a key -/
def AllK (key : Value → Option Int) (vs : List Value) : Prop := ∀ v ∈ vs, key v ≠ none
theorem ltK_some {key : Value → Option Int} {u v : Value} (hu : key u ≠ none) (hv : key v ≠ none) : ∃ r, ltK key u v = some r := by
  unfold ltK
  cases h1 : key u with
  | none => exact absurd h1 hu
  | some x => cases h2 : key v with
    | none => exact absurd h2 hv
    | some y => exact ⟨_, rfl⟩
theorem mem_set_of {vs : List Value} {i j : Nat} {v : Value} (hj : j < vs.length) (h : v ∈ vs.set i (nth vs j)) : v ∈ vs := by
  rcases List.mem_or_eq_of_mem_set h with h | h
  · exact h
  · rw [h]; exact nth_mem hj
theorem sdLoop_tot {key : Value → Option Int} {start : Nat} {X : Value} (hX : key X ≠ none) : ∀ (pos : Nat) (vs : List Value), AllK key vs → pos < vs.length →
    ∃ us p, sdLoop (ltK key) start X vs pos = .ok (us, p) ∧ us.length = vs.length ∧ p < us.length ∧ ∀ v ∈ us, v ∈ vs := by
  intro pos
  induction pos using Nat.strongRecOn with
  | ind pos ih =>
    intro vs hk hp
    rw [sdLoop]
    by_cases h : start < pos
    · rw [if_pos h]
      obtain ⟨r, hr⟩ := ltK_some hX (hk _ (nth_mem (vs := vs) (i := (pos - 1) / 2) (by (first | lia | omega))))
      rw [hr]
      cases r with
      | true =>
        have hm : ∀ v ∈ vs.set pos (nth vs ((pos - 1) / 2)), v ∈ vs := fun v hv => mem_set_of (by (first | lia | omega)) hv
        obtain ⟨us, p, e1, e2, e3, e4⟩ := ih ((pos - 1) / 2) (by (first | lia | omega)) (vs.set pos (nth vs ((pos - 1) / 2))) (fun v hv => hk v (hm v hv)) (by rw [List.length_set]; (first | lia | omega))
        exact ⟨us, p, e1, by rw [e2, List.length_set], e3, fun v hv => hm v (e4 v hv)⟩
      | false => exact ⟨vs, pos, rfl, rfl, hp, fun _ h => h⟩
    · rw [if_neg h]
      exact ⟨vs, pos, rfl, rfl, hp, fun _ h => h⟩
theorem siftdown_tot {key : Value → Option Int} {start pos : Nat} {vs : List Value} (hk : AllK key vs) (hp : pos < vs.length) :
    ∃ us, siftdown (ltK key) vs start pos = .ok us ∧ us.length = vs.length ∧ ∀ v ∈ us, v ∈ vs := by
  obtain ⟨us, p, e1, e2, e3, e4⟩ := sdLoop_tot (start := start) (hk _ (nth_mem hp)) pos vs hk hp
  refine ⟨us.set p (nth vs pos), by rw [siftdown, e1], by rw [List.length_set, e2], fun v hv => ?_⟩
  rcases List.mem_or_eq_of_mem_set hv with h | h
  · exact e4 v h
  · rw [h]; exact nth_mem hp
theorem suLoop_tot {key : Value → Option Int} : ∀ (n : Nat) (vs : List Value) (pos : Nat), vs.length - pos = n → AllK key vs → pos < vs.length →
    ∃ us p, suLoop (ltK key) vs pos = .ok (us, p) ∧ us.length = vs.length ∧ p < us.length ∧ (∀ v ∈ us, v ∈ vs) := by
  intro n
  induction n using Nat.strongRecOn with
  | ind n ih =>
    intro vs pos hn hk hp
    have go : ∀ c, pos < c → c < vs.length → ∃ us p, suLoop (ltK key) (vs.set pos (nth vs c)) c = .ok (us, p) ∧ us.length = vs.length ∧ p < us.length ∧ (∀ v ∈ us, v ∈ vs) := by
      intro c h1 h2
      have hm : ∀ v ∈ vs.set pos (nth vs c), v ∈ vs := fun v hv => mem_set_of h2 hv
      obtain ⟨us, p, e1, e2, e3, e4⟩ := ih (vs.length - c) (by (first | lia | omega)) (vs.set pos (nth vs c)) c (by rw [List.length_set]) (fun v hv => hk v (hm v hv)) (by rw [List.length_set]; (first | lia | omega))
      exact ⟨us, p, e1, by rw [e2, List.length_set], e3, fun v hv => hm v (e4 v hv)⟩
    rw [suLoop]
    by_cases h : 2 * pos + 1 < vs.length
    · rw [if_pos h]
      by_cases h' : 2 * pos + 2 < vs.length
      · rw [if_pos h']
        obtain ⟨r, hr⟩ := ltK_some (hk _ (nth_mem h)) (hk _ (nth_mem h'))
        rw [hr]
        cases r with
        | true => exact go _ (by (first | lia | omega)) h
        | false => exact go _ (by (first | lia | omega)) h'
      · rw [if_neg h']
        exact go _ (by (first | lia | omega)) h
    · rw [if_neg h]
      exact ⟨vs, pos, rfl, rfl, hp, fun _ h => h⟩
theorem siftup_tot {key : Value → Option Int} {pos : Nat} {vs : List Value} (hk : AllK key vs) (hp : pos < vs.length) :
    ∃ us, siftup (ltK key) vs pos = .ok us ∧ us.length = vs.length ∧ ∀ v ∈ us, v ∈ vs := by
  obtain ⟨us, p, e1, e2, e3, e4⟩ := suLoop_tot _ vs pos rfl hk hp
  have hm : ∀ v ∈ us.set p (nth vs pos), v ∈ vs := fun v hv => by
    rcases List.mem_or_eq_of_mem_set hv with h | h
    · exact e4 v h
    · rw [h]; exact nth_mem hp
  obtain ⟨ws, f1, f2, f3⟩ := siftdown_tot (key := key) (start := pos) (pos := p) (vs := us.set p (nth vs pos)) (fun v hv => hk v (hm v hv)) (by rw [List.length_set]; exact e3)
  exact ⟨ws, by rw [siftup, e1]; exact f1, by rw [f2, List.length_set, e2], fun v hv => hm v (f3 v hv)⟩

def suT (lt : Cmp) (vs : List Value) (pos : Nat) : List Value := match siftup lt vs pos with | .ok us => us | .error us => us
def hfyN (lt : Cmp) : Nat → List Value → List Value
  | 0, vs => vs
  | k + 1, vs => hfyN lt k (suT lt vs k)
def hfy (lt : Cmp) (vs : List Value) : List Value := hfyN lt (vs.length / 2) vs
theorem siftup_suT {key : Value → Option Int} {pos : Nat} {vs : List Value} (hk : AllK key vs) (hp : pos < vs.length) :
    siftup (ltK key) vs pos = .ok (suT (ltK key) vs pos) ∧ (suT (ltK key) vs pos).length = vs.length ∧ ∀ v ∈ suT (ltK key) vs pos, v ∈ vs := by
  obtain ⟨us, e1, e2, e3⟩ := siftup_tot hk hp
  have : suT (ltK key) vs pos = us := by rw [suT, e1]
  rw [this]
  exact ⟨e1, e2, e3⟩

section
variable {h₀ hc : Heap} {mg mb : Str → Option Value} {H L : Addr} {vs : List Value} {bs : List (Str × Value)} {w : World} {A : Around} {E : Value → Shared → Prop} {s : Shared} {f : Addr} {cd : Value} {key : Value → Option Int} {outer : List Env}
abbrev hyEnv (L f : Addr) (cd : Value) : Env := envOf "heapify" hyScope L f cd

/-- what an iterator's step leaves -/
theorem B.step {I : Addr} {h h' : Heap} (b : B h₀ hc H L vs bs h) (hI : L < I) (hH : H < I) (k : ∀ b o, b ∉ [I] → h.get? b = some o → h'.get? b = some o) : B h₀ hc H L vs bs h' := by
  obtain ⟨m, F, l⟩ := b.fr
  have ne : ∀ b : Addr, b < I → b ∉ [I] := fun b q m => by rw [List.mem_singleton.mp m] at q; exact Nat.lt_irrefl _ q
  refine ⟨⟨m, ⟨F.ns.at' fun o e => k L o (ne L hI) e, fun c o e => k c o (ne c (Nat.lt_trans (Nat.lt_of_lt_of_le (Heap.lt_size e) F.above) hI)) (F.keep c o e), F.above⟩, l⟩, b.ls.at fun o e => k H o (ne H hH) e, fun c o n e => k c o (ne c (Nat.lt_trans (Nat.lt_of_lt_of_le (Heap.lt_size e) b.up) hI)) (b.kp c o n e), b.nH, b.ne, b.up⟩
theorem B.lt (b : B h₀ hc H L vs bs s.heap) : L < s.heap.objs.size ∧ H < s.heap.objs.size := by
  obtain ⟨m, F, l⟩ := b.fr
  exact ⟨F.ns.lt, sizeOf_list b.ls⟩
theorem B.ext {h h' : Heap} (b : B h₀ hc H L vs bs h) (k : ∀ b o, h.get? b = some o → h'.get? b = some o) : B h₀ hc H L vs bs h' := by
  obtain ⟨m, F, l⟩ := b.fr
  exact ⟨⟨m, ⟨F.ns.at' fun o e => k L o e, fun c o e => k c o (F.keep c o e), F.above⟩, l⟩, b.ls.at fun o e => k H o e, fun c o n e => k c o (b.kp c o n e), b.nH, b.ne, b.up⟩
theorem B.after {us : List Value} {h h' : Heap} (b : B h₀ hc H L vs bs h) (hl : h'.IsList H us.toArray) (k : ∀ b o, b ≠ H → h.get? b = some o → h'.get? b = some o) : B h₀ hc H L us bs h' := by
  obtain ⟨m, F, l⟩ := b.fr
  refine ⟨⟨m, ⟨F.ns.at' fun o e => k L o (Ne.symm b.ne) e, fun c o e => k c o (fun q => ?_) (F.keep c o e), F.above⟩, l⟩, hl, fun c o n e => k c o n (b.kp c o n e), b.nH, b.ne, b.up⟩
  rw [q, b.nH] at e; cases e

theorem hy_body {Q : Flow → Shared → Prop} (G : Gd h₀ mg mb) (b : B h₀ hc H L vs bs s.heap) (l1 : At bs "x" (.ref H))
    (hI : ∀ v ∈ vs, Itm hc H key v) (hk : AllK key vs) (hn : vs.length < 2 ^ 60) (hh : A.handled = none) (hu : A.units + 6 < cLine) (hroom : A.depth + 1 < recursionLimit)
    (hfr : A.frames = some (hyEnv L f cd :: outer)) (hf : Frs hc outer) (hlc : hc.IsList H vs.toArray)
    (hok : ∀ bs' s', Go s s' → B h₀ hc H L (hfy (ltK key) vs) bs' s'.heap → Q .next s') :
    wpAny (model pw w) A (execs hyBody (hyEnv L f cd)) Q E s := by
  unfold hyBody
  refine wpAny_execs_cons ?_
  refine wpAny_Assign_Name ?_
  refine Call_ ?_
  refine ld_blt G b.keep boot_len ?_
  refine PyProof.Rows.callWith_builtin1 ?_
  refine args_cons ?_
  refine B.ld b l1 ?_
  refine args_nil ?_
  refine Calls.call_len_list b.ls (by rw [List.size_toArray]; (first | lia | omega)) ?_
  refine B.st b fun s₁ g₁ b₁ => ?_
  dsimp only
  rw [List.size_toArray] at b₁
  refine wpAny_execs_cons ?_
  refine wpAny_For ?_
  refine Call_ ?_
  refine ld_blt G b₁.keep PyProof.Rows.boot_reversed ?_
  refine PyProof.Rows.callWith_type1 ?_
  refine args_cons ?_
  refine Call_ ?_
  refine ld_blt G b₁.keep PyProof.Rows.boot_range ?_
  refine PyProof.Rows.callWith_type1 ?_
  refine args_cons ?_
  refine wpAny_BinOp ?_
  refine B.ld b₁ rfl ?_
  refine wpAny_Constant_int ?_
  refine floordiv_int (by decide) ?_
  refine args_nil ?_
  refine call_range_1 ?_
  refine args_nil ?_
  have hdiv : (vs.length : Int).fdiv 2 = ((vs.length / 2 : Nat) : Int) := by
    rw [Int.fdiv_eq_ediv_of_nonneg _ (by (first | lia | omega))]; (first | lia | omega)
  rw [hdiv]
  have hrs : Builtin.Range.rangeSize 0 ((vs.length / 2 : Nat) : Int) 1 = ((vs.length / 2 : Nat) : Int) := by
    rw [rangeSize_one]; split <;> (first | lia | omega)
  refine call_reversed_range (n := vs.length / 2) (IsRange.new ..) hrs ?_ ?_
  · rw [hrs]
    simp only [Builtin.Range.rangeFitsLong, Bool.and_eq_true, decide_eq_true_eq]
    (first | lia | omega)
  dsimp only
  generalize hrange : ({ cls := Value.type "range", data := Data.fields _ } : Obj) = robj
  have hI1 : (s₁.heap.push robj).objs.size = s₁.heap.objs.size + 1 := by simp
  generalize hIt : (s₁.heap.push robj).objs.size = I
  rw [hIt] at hI1
  have hit0 : IsRangeIter ((s₁.heap.push robj).push { cls := .type "range_iterator", data := .fields #[rawInt (0 + (((vs.length / 2 : Nat) : Int) - 1) * 1), rawInt ((vs.length / 2 : Nat) : Int), rawInt (-1)] }) I (((vs.length / 2 : Nat) : Int) - 1) ((vs.length / 2 : Nat) : Int) (-1) := by
    have := Heap.get?_push_size (s₁.heap.push robj) (o := { cls := .type "range_iterator", data := .fields #[rawInt (0 + (((vs.length / 2 : Nat) : Int) - 1) * 1), rawInt ((vs.length / 2 : Nat) : Int), rawInt (-1)] }) rfl
    rw [hIt] at this
    rw [show (0 : Int) + (((vs.length / 2 : Nat) : Int) - 1) * 1 = ((vs.length / 2 : Nat) : Int) - 1 by (first | lia | omega)] at this ⊢
    exact this
  refine wpAny_pyIter_rangeiter hit0 ?_
  obtain ⟨lL, lH⟩ := b₁.lt
  have hIL : L < I := by rw [hI1]; exact Nat.lt_succ_of_lt lL
  have hIH : H < I := by rw [hI1]; exact Nat.lt_succ_of_lt lH
  obtain ⟨f', o', pm', cd', doc', q1, q2, q3, q4⟩ := G.su
  refine for_rule (Walks.range hh I (((vs.length / 2 : Nat) : Int) - 1) (-1) (vs.length / 2)) (fun i s' => ∃ us bs', Go s s' ∧ B h₀ hc H L us bs' s'.heap ∧ At bs' "x" (.ref H) ∧
    IsRangeIter s'.heap I ((((vs.length / 2 : Nat) : Int) - 1) + (i : Nat) * (-1)) (((vs.length / 2 : Nat) : Int) - (i : Nat)) (-1) ∧ hfyN (ltK key) (vs.length / 2 - i) us = hfy (ltK key) vs ∧ us.length = vs.length ∧ ∀ v ∈ us, v ∈ vs) ?_ ?_ ?_ ?_
  · rintro i s' ⟨us, bs', _, _, _, h, _⟩
    exact h
  · rintro i v s₂ h' tk ⟨us, bs', g₂, b₂, k1, _, he, hlen, hm⟩ hi ⟨t, rfl⟩ hS hkp
    have b₃ := b₂.step hIL hIH hkp
    refine B.stk (s := { s₂ with heap := h', toks := tk }) b₃ fun s₄ g₄ b₄ kp₄ => ?_
    have hS₄ := kp₄ I _ (Nat.ne_of_gt hIL) hS
    have hval : (((vs.length / 2 : Nat) : Int) - 1) + ((i : Nat) : Int) * (-1) = ((vs.length / 2 - 1 - i : Nat) : Int) := by (first | lia | omega)
    rw [hval] at b₄
    refine wpAny_execs_cons ?_
    refine wpAny_Expr ?_
    refine Call_ ?_
    refine ld_glob G b₄.keep q1 ?_
    refine callWith_def q3 ?_
    refine args_cons ?_
    refine B.ld b₄ k1 ?_
    refine args_cons ?_
    refine B.ld b₄ rfl ?_
    refine args_nil ⟨b₄.keep _ _ q2, ?_⟩
    obtain ⟨m, F, lk⟩ := id b₄.fr
    obtain ⟨oL, es, ep, hL, hLd, hLr⟩ := F.ns
    have hLlt : L < s₄.heap.objs.size := Heap.lt_size hL
    have hfs : Frs s₄.heap (hyEnv L f cd :: outer) := ⟨rfl, ⟨L, oL, es, ep, rfl, hL, hLd⟩, frs_keep hf hlc b₄.kp⟩
    have hk' : AllK key us := fun v hv => hk v (hm v hv)
    obtain ⟨t1, t2, t3⟩ := siftup_suT (pos := vs.length / 2 - 1 - i) hk' (by (first | lia | omega))
    refine wpAny_call (su_call (pos := vs.length / 2 - 1 - i) G b₄.keep (Nat.le_of_lt (Nat.lt_of_le_of_lt F.above hLlt)) q2 q3 q4 hroom b₄.ls b₄.nH (fun v hv => Itm.keep (hI v (hm v hv)) b₄.kp) (by (first | lia | omega)) (by (first | lia | omega)) hh hu hfr hfs
      (fun us' s₅ g₅ e₅ hl₅ kp₅ => ?_) (fun us' s₅ h₁ fs e g₅ e₅ _ _ _ _ _ => ?_))
    · dsimp only
      refine wpAny_execs_nil ?_
      dsimp only
      have hus : us' = suT (ltK key) us (vs.length / 2 - 1 - i) := Except.ok.inj (e₅.symm.trans t1)
      subst hus
      refine ⟨_, _, g₂.trans (Go.trans (Go.trans ⟨_, _, rfl⟩ g₄) g₅), b₄.after hl₅ kp₅, k1, kp₅ I _ (Nat.ne_of_gt hIH) hS₄, ?_, t2.trans hlen, fun v hv => hm v (t3 v hv)⟩
      rw [← he, show vs.length / 2 - i = (vs.length / 2 - 1 - i) + 1 by (first | lia | omega), show vs.length / 2 - (i + 1) = vs.length / 2 - 1 - i by (first | lia | omega)]
      rfl
    · rw [t1] at e₅; cases e₅
  · rintro s₂ h' tk ⟨us, bs', g₂, b₂, k1, _, he, hlen, hm⟩ hkp
    have b₃ := b₂.step hIL hIH hkp
    refine wpAny_execs_nil ?_
    refine wpAny_execs_nil ?_
    refine hok _ _ (g₂.trans ⟨_, _, rfl⟩) (?_ : B h₀ hc H L _ bs' h')
    rw [← he, Nat.sub_self]
    exact b₃
  · refine ⟨vs, _, ((Go.trans ⟨_, _, rfl⟩ g₁).trans ⟨_, _, rfl⟩), b₁.ext fun c o e => Heap.get?_push_of_some _ (Heap.get?_push_of_some _ e), l1, ?_, rfl, rfl, fun _ h => h⟩
    simpa using hit0

theorem hy_call {R : Result → Shared → Prop} {o : Obj} {pm doc : Value} (G : Gd h₀ mg mb) (k₀ : ∀ b o, h₀.get? b = some o → s.heap.get? b = some o) (hsz : h₀.objs.size ≤ s.heap.objs.size)
    (ho : h₀.get? f = some o) (hdat : o.data = .func (Calls.docDef "heapify" hyParams hyBody hyScope pm cd doc)) (hcd : h₀.CodeRec cd "heapify")
    (hroom : A.depth + 2 < recursionLimit) (hl : s.heap.IsList H vs.toArray) (nH : h₀.get? H = none) (hI : ∀ v ∈ vs, Itm s.heap H key v) (hk : AllK key vs) (hn : vs.length < 2 ^ 60)
    (hh : A.handled = none) (hu : A.units + 9 < cLine) (hfr : A.frames = some outer) (hf : Frs s.heap outer)
    (hok : ∀ s', Go s s' → s'.heap.IsList H (hfy (ltK key) vs).toArray → (∀ b o, b ≠ H → s.heap.get? b = some o → s'.heap.get? b = some o) → R (.ok (.ret .none)) s') :
    codeAny (model pw w) A (.call (.ref f) ⟨[.ref H], []⟩) R s := by
  have hHL : H ≠ s.heap.objs.size := Nat.ne_of_lt (sizeOf_list hl)
  refine call_plain_ret (binds := [("x", .ref H)]) (by (first | lia | omega)) (k₀ _ _ ho) hdat (G.lim.keeps k₀) (hcd.keeps k₀) rfl (locs rfl) (fun h₁ F => ?_)
  have b : B h₀ s.heap H s.heap.objs.size vs [("x", .ref H)] h₁ :=
    ⟨⟨_, ⟨F.ns, fun b o e => F.keep b o (k₀ b o e), hsz⟩, fun _ _ e => e⟩, hl.at fun o e => F.keep _ _ e, fun b o _ e => F.keep b o e, nH, hHL, Nat.le_refl _⟩
  have hfr' : (A.deeper (hyEnv s.heap.objs.size f cd)).frames = some (hyEnv s.heap.objs.size f cd :: outer) := Around.frames_deeper hfr
  refine hy_body (s := { s with heap := h₁, toks := s.toks + _ }) G b rfl hI hk hn hh (by show A.units + 3 + 6 < cLine; (first | lia | omega)) (by show A.depth + 1 + 1 < recursionLimit; (first | lia | omega)) hfr' hf hl (fun bs' s' g b' => ?_)
  exact hok s' (Go.trans ⟨_, _, rfl⟩ g) b'.ls b'.kp
end
end Mine
end PartM8
section PartP2
open PySem
set_option maxHeartbeats 1000000
namespace Mine
/-! the way of a sift, and what a sift makes of a row -/

theorem nth_set {vs : List Value} {i k : Nat} {v : Value} (hi : i < vs.length) : nth (vs.set i v) k = if k = i then v else nth vs k := by
  simp only [nth, List.getD_eq_getElem?_getD, List.getElem?_set]
  by_cases h : i = k
  · subst h; simp [hi]
  · have h' : ¬ k = i := fun e => h e.symm
    simp [h, h']
theorem ext_nth {us vs : List Value} (hl : us.length = vs.length) (h : ∀ k, k < us.length → nth us k = nth vs k) : us = vs := by
  apply List.ext_getElem? 
  intro k
  by_cases hk : k < us.length
  · have := h k hk
    simp only [nth, List.getD_eq_getElem?_getD] at this
    rw [List.getElem?_eq_getElem hk, List.getElem?_eq_getElem (hl ▸ hk)] at this ⊢
    simpa using this
  · rw [List.getElem?_eq_none (by (first | lia | omega)), List.getElem?_eq_none (by (first | lia | omega))]

section
variable (lt : Cmp) (ws : List Value) (st : Nat)
/-- the child that is taken -/
def nx (k : Nat) : Nat := if 2 * k + 2 < ws.length ∧ lt (nth ws (2 * k + 1)) (nth ws (2 * k + 2)) ≠ some true then 2 * k + 2 else 2 * k + 1
def pth : Nat → Nat
  | 0 => st
  | i + 1 => nx lt ws (pth i)
/-- a place of the way -/
def Rc (k : Nat) : Prop := ∃ i, pth lt ws st i = k ∧ k < ws.length
end

section
variable {lt : Cmp} {ws : List Value} {st : Nat}
theorem nx_or (k : Nat) : nx lt ws k = 2 * k + 1 ∨ (nx lt ws k = 2 * k + 2 ∧ 2 * k + 2 < ws.length) := by
  unfold nx; split
  · rename_i h; exact .inr ⟨rfl, h.1⟩
  · exact .inl rfl
theorem nx_gt (k : Nat) : k < nx lt ws k := by rcases nx_or (lt := lt) (ws := ws) k with h | ⟨h, _⟩ <;> (first | lia | omega)
theorem nx_par (k : Nat) : (nx lt ws k - 1) / 2 = k := by rcases nx_or (lt := lt) (ws := ws) k with h | ⟨h, _⟩ <;> (first | lia | omega)
theorem nx_lt {k : Nat} (h : 2 * k + 1 < ws.length) : nx lt ws k < ws.length := by rcases nx_or (lt := lt) (ws := ws) k with h | ⟨h, _⟩ <;> (first | lia | omega)
theorem nx_ge (k : Nat) : 2 * k + 1 ≤ nx lt ws k := by rcases nx_or (lt := lt) (ws := ws) k with h | ⟨h, _⟩ <;> (first | lia | omega)
theorem pth_lt {i j : Nat} (h : i < j) : pth lt ws st i < pth lt ws st j := by
  induction j with
  | zero => (first | lia | omega)
  | succ j ih =>
    have := nx_gt (lt := lt) (ws := ws) (pth lt ws st j)
    show pth lt ws st i < nx lt ws (pth lt ws st j)
    by_cases e : i = j
    · subst e; exact this
    · exact Nat.lt_trans (ih (by (first | lia | omega))) this
theorem pth_le {i j : Nat} (h : i ≤ j) : pth lt ws st i ≤ pth lt ws st j := by
  by_cases e : i = j
  · subst e; exact Nat.le_refl _
  · exact Nat.le_of_lt (pth_lt (by (first | lia | omega)))
theorem Rc.start (h : st < ws.length) : Rc lt ws st st := ⟨0, rfl, h⟩
theorem Rc.ge {k : Nat} (h : Rc lt ws st k) : st ≤ k := by
  obtain ⟨i, rfl, _⟩ := h
  exact pth_le (i := 0) (Nat.zero_le _)
theorem Rc.inb {k : Nat} (h : Rc lt ws st k) : k < ws.length := by obtain ⟨i, _, h⟩ := h; exact h
theorem Rc.next {k : Nat} (h : Rc lt ws st k) (hk : 2 * k + 1 < ws.length) : Rc lt ws st (nx lt ws k) := by
  obtain ⟨i, rfl, _⟩ := h
  exact ⟨i + 1, rfl, nx_lt hk⟩
theorem Rc.chain {q k : Nat} (hq : Rc lt ws st q) (hk : Rc lt ws st k) (h : q < k) : nx lt ws q ≤ k ∧ 2 * q + 1 < ws.length := by
  obtain ⟨i, rfl, _⟩ := hq
  obtain ⟨j, rfl, hj⟩ := hk
  have hij : i < j := by
    rcases Nat.lt_or_ge i j with h' | h'
    · exact h'
    · exact absurd h (Nat.not_lt.mpr (pth_le h'))
  have h1 : nx lt ws (pth lt ws st i) ≤ pth lt ws st j := pth_le (i := i + 1) hij
  have h2 := nx_ge (lt := lt) (ws := ws) (pth lt ws st i)
  exact ⟨h1, by (first | lia | omega)⟩
theorem Rc.prev {q : Nat} (hq : Rc lt ws st q) (h : q ≠ st) : Rc lt ws st ((q - 1) / 2) ∧ nx lt ws ((q - 1) / 2) = q ∧ (q - 1) / 2 < q ∧ 2 * ((q - 1) / 2) + 1 < ws.length := by
  obtain ⟨i, rfl, hb⟩ := hq
  cases i with
  | zero => exact absurd rfl h
  | succ i =>
    have e : (pth lt ws st (i + 1) - 1) / 2 = pth lt ws st i := nx_par _
    have h1 := nx_gt (lt := lt) (ws := ws) (pth lt ws st i)
    have h2 := nx_ge (lt := lt) (ws := ws) (pth lt ws st i)
    have h3 : pth lt ws st (i + 1) = nx lt ws (pth lt ws st i) := rfl
    rw [e]
    exact ⟨⟨i, rfl, by (first | lia | omega)⟩, rfl, by (first | lia | omega), by (first | lia | omega)⟩
theorem Rc.st_le {q : Nat} (hq : Rc lt ws st q) : q = st ∨ st < q := by
  have := hq.ge; (first | lia | omega)

open Classical in
/-- the row with the way's items moved up, below q -/
noncomputable def sh (lt : Cmp) (ws : List Value) (st : Nat) (o : Nat → Value) (q k : Nat) : Value := if Rc lt ws st k ∧ k < q then o (nx lt ws k) else o k
theorem sh_up {o : Nat → Value} {q k : Nat} (hk : Rc lt ws st k) (h : k < q) : sh lt ws st o q k = o (nx lt ws k) := by unfold sh; rw [if_pos ⟨hk, h⟩]
theorem sh_ge {o : Nat → Value} {q k : Nat} (h : q ≤ k) : sh lt ws st o q k = o k := by unfold sh; rw [if_neg (fun h' => by (first | lia | omega))]
theorem sh_off {o : Nat → Value} {q k : Nat} (h : ¬ Rc lt ws st k) : sh lt ws st o q k = o k := by unfold sh; rw [if_neg (fun h' => h h'.1)]
theorem sh_start {o : Nat → Value} {k : Nat} : sh lt ws st o st k = o k := by
  by_cases h : Rc lt ws st k
  · exact sh_ge h.ge
  · exact sh_off h
/-- between a place and the next one nothing turns -/
theorem sh_next {o : Nat → Value} {q k : Nat} (hq : Rc lt ws st q) (hk : k ≠ q) : sh lt ws st o (nx lt ws q) k = sh lt ws st o q k := by
  by_cases h : Rc lt ws st k
  · by_cases h1 : k < q
    · rw [sh_up h h1, sh_up h (Nat.lt_trans h1 (nx_gt _))]
    · have := (hq.chain h (by (first | lia | omega))).1
      rw [sh_ge this, sh_ge (by (first | lia | omega))]
  · rw [sh_off h, sh_off h]

def Sh (lt : Cmp) (ws : List Value) (st : Nat) (o : Nat → Value) (vs : List Value) (q : Nat) : Prop := vs.length = ws.length ∧ ∀ k, k < ws.length → nth vs k = sh lt ws st o q k
/-- the children of r are compared as in ws -/
def Same (lt : Cmp) (ws : List Value) (o : Nat → Value) (r : Nat) : Prop := 2 * r + 2 < ws.length → lt (o (2 * r + 1)) (o (2 * r + 2)) = lt (nth ws (2 * r + 1)) (nth ws (2 * r + 2)) ∧ lt (nth ws (2 * r + 1)) (nth ws (2 * r + 2)) ≠ none

def Dn (lt : Cmp) (ws : List Value) (st : Nat) (o : Nat → Value) (vs : List Value) (q : Nat) : Prop := vs.length = ws.length ∧ ∀ k, k < ws.length → k ≠ q → nth vs k = sh lt ws st o q k
theorem Sh.dn {o : Nat → Value} {vs : List Value} {q : Nat} (h : Sh lt ws st o vs q) : Dn lt ws st o vs q := ⟨h.1, fun k hk _ => h.2 k hk⟩
theorem su_step {o : Nat → Value} {vs : List Value} {q : Nat} (hS : Dn lt ws st o vs q) (hq : Rc lt ws st q) (h1 : 2 * q + 1 < ws.length) (hs : Same lt ws o q) :
    suLoop lt vs q = suLoop lt (vs.set q (o (nx lt ws q))) (nx lt ws q) ∧ Sh lt ws st o (vs.set q (o (nx lt ws q))) (nx lt ws q) := by
  obtain ⟨hl, hv⟩ := hS
  have c1 : nth vs (2 * q + 1) = o (2 * q + 1) := by rw [hv _ h1 (by (first | lia | omega)), sh_ge (by (first | lia | omega))]
  refine ⟨?_, by rw [List.length_set]; exact hl, fun k hk => ?_⟩
  · rw [suLoop, if_pos (by (first | lia | omega))]
    by_cases h2 : 2 * q + 2 < ws.length
    · have c2 : nth vs (2 * q + 2) = o (2 * q + 2) := by rw [hv _ h2 (by (first | lia | omega)), sh_ge (by (first | lia | omega))]
      obtain ⟨e1, e2⟩ := hs h2
      rw [if_pos (by (first | lia | omega)), c1, c2, e1]
      cases e : lt (nth ws (2 * q + 1)) (nth ws (2 * q + 2)) with
      | none => exact absurd e e2
      | some b =>
        cases b with
        | true =>
          have : nx lt ws q = 2 * q + 1 := by unfold nx; rw [if_neg (fun h => h.2 e)]
          rw [this]
        | false =>
          have : nx lt ws q = 2 * q + 2 := by unfold nx; rw [if_pos ⟨h2, by rw [e]; simp⟩]
          rw [this]
    · have : nx lt ws q = 2 * q + 1 := by unfold nx; rw [if_neg (fun h => h2 h.1)]
      rw [if_neg (by (first | lia | omega)), c1, this]
  · rw [nth_set (by have := hq.inb; (first | lia | omega))]
    by_cases e : k = q
    · subst e
      rw [if_pos rfl, sh_up hq (nx_gt _)]
    · rw [if_neg e, sh_next hq e, hv k hk e]

theorem su_steps {o : Nat → Value} : ∀ (d i : Nat) (vs : List Value), Sh lt ws st o vs (pth lt ws st i) → pth lt ws st (i + d) < ws.length → (∀ j, i ≤ j → j < i + d → Same lt ws o (pth lt ws st j)) →
    ∃ us, suLoop lt vs (pth lt ws st i) = suLoop lt us (pth lt ws st (i + d)) ∧ Sh lt ws st o us (pth lt ws st (i + d)) := by
  intro d
  induction d with
  | zero => intro i vs hS _ _; exact ⟨vs, rfl, hS⟩
  | succ d ih =>
    intro i vs hS hb hs
    have hb1 : pth lt ws st i < ws.length := Nat.lt_of_le_of_lt (pth_le (by (first | lia | omega))) hb
    have hq : Rc lt ws st (pth lt ws st i) := ⟨i, rfl, hb1⟩
    have hb2 : pth lt ws st (i + 1) < ws.length := Nat.lt_of_le_of_lt (pth_le (by (first | lia | omega))) hb
    have h1 : 2 * pth lt ws st i + 1 < ws.length := by have := nx_ge (lt := lt) (ws := ws) (pth lt ws st i); exact Nat.lt_of_le_of_lt this hb2
    obtain ⟨e, hS'⟩ := su_step hS.dn hq h1 (hs i (Nat.le_refl _) (by (first | lia | omega)))
    obtain ⟨us, e', hS''⟩ := ih (i + 1) _ hS' (by rw [show i + 1 + d = i + (d + 1) by (first | lia | omega)]; exact hb) (fun j h1 h2 => hs j (by (first | lia | omega)) (by (first | lia | omega)))
    rw [show i + 1 + d = i + (d + 1) by (first | lia | omega)] at e' hS''
    exact ⟨us, e.trans e', hS''⟩

/-- along the way from q to q' -/
theorem su_to {o : Nat → Value} {vs : List Value} {q q' : Nat} (hS : Sh lt ws st o vs q) (hq : Rc lt ws st q) (hq' : Rc lt ws st q') (hle : q ≤ q') (hs : ∀ r, Rc lt ws st r → q ≤ r → r < q' → Same lt ws o r) :
    ∃ us, suLoop lt vs q = suLoop lt us q' ∧ Sh lt ws st o us q' := by
  obtain ⟨i, rfl, hi⟩ := hq
  obtain ⟨j, rfl, hj⟩ := hq'
  have hij : i ≤ j := by
    rcases Nat.lt_or_ge j i with h' | h'
    · exact absurd (pth_lt h') (Nat.not_lt.mpr hle)
    · exact h'
  obtain ⟨us, e, hS'⟩ := su_steps (j - i) i vs hS (by rw [Nat.add_sub_cancel' hij]; exact hj) (fun r h1 h2 => hs _ ⟨r, rfl, Nat.lt_of_le_of_lt (pth_le (by (first | lia | omega))) hj⟩ (pth_le h1) (pth_lt (by (first | lia | omega))))
  rw [Nat.add_sub_cancel' hij] at e hS'
  exact ⟨us, e, hS'⟩

/-- the way's end -/
theorem Rc.leaf (h : st < ws.length) : ∃ z, Rc lt ws st z ∧ ws.length ≤ 2 * z + 1 ∧ ∀ r, Rc lt ws st r → r ≤ z := by
  have key : ∀ n q, ws.length - q = n → Rc lt ws st q → ∃ z, Rc lt ws st z ∧ ws.length ≤ 2 * z + 1 := by
    intro n
    induction n using Nat.strongRecOn with
    | ind n ih =>
      intro q hn hq
      by_cases h1 : 2 * q + 1 < ws.length
      · have := nx_gt (lt := lt) (ws := ws) q
        have := hq.inb
        exact ih (ws.length - nx lt ws q) (by (first | lia | omega)) _ rfl (hq.next h1)
      · exact ⟨q, hq, by (first | lia | omega)⟩
  obtain ⟨z, hz, hl⟩ := key _ st rfl (Rc.start h)
  refine ⟨z, hz, hl, fun r hr => ?_⟩
  rcases Nat.lt_or_ge z r with h' | h'
  · have := (hz.chain hr h').2; (first | lia | omega)
  · exact h'

/-! back to its place -/
def Fin' (lt : Cmp) (ws : List Value) (st : Nat) (o : Nat → Value) (X : Value) (q : Nat) (vs : List Value) : Prop := vs.length = ws.length ∧ ∀ k, k < ws.length → nth vs k = if k = q then X else sh lt ws st o q k
theorem Dn.fin {o : Nat → Value} {X : Value} {vs : List Value} {q : Nat} (h : Dn lt ws st o vs q) (hq : q < ws.length) : Fin' lt ws st o X q (vs.set q X) := by
  refine ⟨by rw [List.length_set]; exact h.1, fun k hk => ?_⟩
  rw [nth_set (by rw [h.1]; exact hq)]
  by_cases e : k = q
  · rw [if_pos e, if_pos e]
  · rw [if_neg e, if_neg e, h.2 k hk e]
theorem Fin'.dn {o : Nat → Value} {X : Value} {vs : List Value} {q : Nat} (h : Fin' lt ws st o X q vs) : Dn lt ws st o vs q := ⟨h.1, fun k hk e => by rw [h.2 k hk, if_neg e]⟩
theorem Sh.fin {o : Nat → Value} {X : Value} {vs : List Value} {q : Nat} (h : Sh lt ws st o vs q) (hq : q < ws.length) : Fin' lt ws st o X q (vs.set q X) := Dn.fin ⟨h.1, fun k hk _ => h.2 k hk⟩ hq

theorem dn_step {o : Nat → Value} {vs : List Value} {q : Nat} (hD : Dn lt ws st o vs q) (hq : Rc lt ws st q) (hne : q ≠ st) :
    nth vs ((q - 1) / 2) = o q ∧ Dn lt ws st o (vs.set q (o q)) ((q - 1) / 2) := by
  obtain ⟨hr, e1, e2, e3⟩ := hq.prev hne
  have hqb := hq.inb
  refine ⟨?_, by rw [List.length_set]; exact hD.1, fun k hk hkn => ?_⟩
  · rw [hD.2 _ (by (first | lia | omega)) (by (first | lia | omega)), sh_up hr e2, e1]
  · rw [nth_set (by rw [hD.1]; exact hqb)]
    by_cases e : k = q
    · subst e
      rw [if_pos rfl, sh_ge (by (first | lia | omega))]
    · rw [if_neg e, hD.2 k hk e]
      have := sh_next (o := o) hr hkn
      rw [e1] at this
      exact this

theorem sd_to {o : Nat → Value} {X : Value} {a : Nat} (ha : Rc lt ws st a) : ∀ (q : Nat) (vs : List Value), Dn lt ws st o vs q → Rc lt ws st q → a ≤ q → (∀ r, Rc lt ws st r → a < r → r ≤ q → lt X (o r) ≠ none) →
    ∃ us q', sdLoop lt a X vs q = .ok (us, q') ∧ Dn lt ws st o us q' ∧ Rc lt ws st q' ∧ a ≤ q' ∧ q' ≤ q ∧ (q' = a ∨ lt X (o q') = some false) ∧ ∀ r, Rc lt ws st r → q' < r → r ≤ q → lt X (o r) = some true := by
  intro q
  induction q using Nat.strongRecOn with
  | ind q ih =>
    intro vs hD hq haq ht
    rw [sdLoop]
    by_cases h : a < q
    · have hne : q ≠ st := by have := ha.ge; (first | lia | omega)
      obtain ⟨hr, e1, e2, e3⟩ := hq.prev hne
      obtain ⟨c1, hD'⟩ := dn_step hD hq hne
      rw [if_pos h, c1]
      cases e : lt X (o q) with
      | none => exact absurd e (ht q hq h (Nat.le_refl _))
      | some b =>
        cases b with
        | false => exact ⟨vs, q, rfl, hD, hq, haq, Nat.le_refl _, .inr e, fun r _ h1 h2 => by (first | lia | omega)⟩
        | true =>
          have haq' : a ≤ (q - 1) / 2 := by
            rcases Nat.lt_or_ge ((q - 1) / 2) a with h' | h'
            · have := (hr.chain ha h').1; (first | lia | omega)
            · exact h'
          obtain ⟨us, q', f1, f2, f3, f4, f5, f6, f7⟩ := ih _ e2 _ hD' hr haq' (fun r h1 h2 h3 => ht r h1 h2 (by (first | lia | omega)))
          refine ⟨us, q', f1, f2, f3, f4, by (first | lia | omega), f6, fun r h1 h2 h3 => ?_⟩
          rcases Nat.lt_or_ge ((q - 1) / 2) r with h' | h'
          · have := (hr.chain h1 h').1
            have : r = q := by (first | lia | omega)
            subst this; exact e
          · exact f7 r h1 h2 h'
    · rw [if_neg h]
      have : q = a := by (first | lia | omega)
      exact ⟨vs, q, rfl, hD, hq, haq, Nat.le_refl _, .inl this, fun r _ h1 h2 => by (first | lia | omega)⟩

/-- the way to its end, from a place with children whose own item does not count -/
theorem su_end {o : Nat → Value} {vs : List Value} {q z : Nat} (hD : Dn lt ws st o vs q) (hq : Rc lt ws st q) (h1 : 2 * q + 1 < ws.length) (hz : Rc lt ws st z) (hzl : ws.length ≤ 2 * z + 1) (hqz : q ≤ z) (hs : ∀ r, Rc lt ws st r → q ≤ r → r < z → Same lt ws o r) :
    ∃ us, suLoop lt vs q = .ok (us, z) ∧ Sh lt ws st o us z := by
  have hlt : q < z := by
    rcases Nat.lt_or_ge q z with h | h
    · exact h
    · have : q = z := by (first | lia | omega)
      subst this; (first | lia | omega)
  obtain ⟨e, hS⟩ := su_step hD hq h1 (hs q hq (Nat.le_refl _) hlt)
  obtain ⟨us, e', hS'⟩ := su_to hS (hq.next h1) hz (hq.chain hz hlt).1 (fun r h1 h2 h3 => hs r h1 (by have := nx_gt (lt := lt) (ws := ws) q; (first | lia | omega)) h3)
  refine ⟨us, ?_, hS'⟩
  rw [e, e', suLoop, if_neg (by rw [hS'.1]; (first | lia | omega))]

def Stop (lt : Cmp) (ws : List Value) (st : Nat) (X : Value) (q : Nat) : Prop := Rc lt ws st q ∧ (q = st ∨ lt X (nth ws q) = some false) ∧ ∀ r, Rc lt ws st r → q < r → lt X (nth ws r) = some true
/-- what siftdown gives from a full row with X at q -/
theorem sd_fin {o : Nat → Value} {X : Value} {a q : Nat} {vs : List Value} (ha : Rc lt ws st a) (hF : Fin' lt ws st o X q vs) (hq : Rc lt ws st q) (haq : a ≤ q) (ht : ∀ r, Rc lt ws st r → a < r → r ≤ q → lt X (o r) ≠ none) :
    ∃ us q', siftdown lt vs a q = .ok us ∧ Fin' lt ws st o X q' us ∧ Rc lt ws st q' ∧ a ≤ q' ∧ q' ≤ q ∧ (q' = a ∨ lt X (o q') = some false) ∧ ∀ r, Rc lt ws st r → q' < r → r ≤ q → lt X (o r) = some true := by
  have hX : nth vs q = X := by rw [hF.2 q hq.inb, if_pos rfl]
  obtain ⟨us, q', f1, f2, f3, f4, f5, f6, f7⟩ := sd_to ha q vs hF.dn hq haq ht
  exact ⟨us.set q' X, q', by rw [siftdown, hX, f1], f2.fin f3.inb, f3, f4, f5, f6, f7⟩

/-- which place's item lies at k -/
theorem fin_src {X : Value} {q : Nat} {vs : List Value} (hF : Fin' lt ws st (nth ws) X q vs) (hq : Rc lt ws st q) (hX : X = nth ws st) (hst : st < ws.length) {k : Nat} (hk : k < ws.length) :
    ∃ j, j < ws.length ∧ nth vs k = nth ws j ∧ ((k = q ∧ j = st) ∨ (k ≠ q ∧ Rc lt ws st k ∧ k < q ∧ j = nx lt ws k) ∨ (k ≠ q ∧ ¬ (Rc lt ws st k ∧ k < q) ∧ j = k)) := by
  rw [hF.2 k hk]
  by_cases e : k = q
  · exact ⟨st, hst, by rw [if_pos e, hX], .inl ⟨e, rfl⟩⟩
  · rw [if_neg e]
    by_cases h : Rc lt ws st k ∧ k < q
    · exact ⟨nx lt ws k, nx_lt (h.1.chain hq h.2).2, sh_up h.1 h.2, .inr (.inl ⟨e, h.1, h.2, rfl⟩)⟩
    · refine ⟨k, hk, ?_, .inr (.inr ⟨e, h, rfl⟩)⟩
      unfold sh; rw [if_neg h]
theorem fin_inj {X : Value} {q : Nat} {vs : List Value} (nd : ∀ i j, i < ws.length → j < ws.length → nth ws i = nth ws j → i = j) (hF : Fin' lt ws st (nth ws) X q vs) (hq : Rc lt ws st q) (hX : X = nth ws st) (hst : st < ws.length)
    {k k' : Nat} (hk : k < ws.length) (hk' : k' < ws.length) (h : nth vs k = nth vs k') : k = k' := by
  obtain ⟨j, hj, e, c⟩ := fin_src hF hq hX hst hk
  obtain ⟨j', hj', e', c'⟩ := fin_src hF hq hX hst hk'
  have hjj : j = j' := nd j j' hj hj' (by rw [← e, ← e', h])
  have S := Rc.start (lt := lt) hst
  have G := hq.ge
  rcases c with ⟨c1, c2⟩ | ⟨c1, c2, c3, c4⟩ | ⟨c1, c2, c3⟩ <;> rcases c' with ⟨d1, d2⟩ | ⟨d1, d2, d3, d4⟩ | ⟨d1, d2, d3⟩
  · (first | lia | omega)
  · exfalso; have := d2.ge; have := nx_gt (lt := lt) (ws := ws) k'; (first | lia | omega)
  · exfalso
    have hk1 : k' = st := by (first | lia | omega)
    subst hk1
    exact d2 ⟨S, by (first | lia | omega)⟩
  · exfalso; have := c2.ge; have := nx_gt (lt := lt) (ws := ws) k; (first | lia | omega)
  · have h1 := nx_par (lt := lt) (ws := ws) k
    have h2 := nx_par (lt := lt) (ws := ws) k'
    rw [← c4, hjj, d4, h2] at h1
    exact h1.symm
  · exfalso
    have h1 : k' = nx lt ws k := by (first | lia | omega)
    have h2 := c2.chain hq c3
    exact d2 ⟨h1 ▸ c2.next h2.2, by (first | lia | omega)⟩
  · exfalso
    have hk1 : k = st := by (first | lia | omega)
    subst hk1
    exact c2 ⟨S, by (first | lia | omega)⟩
  · exfalso
    have h1 : k = nx lt ws k' := by (first | lia | omega)
    have h2 := d2.chain hq d3
    exact c2 ⟨h1 ▸ d2.next h2.2, by (first | lia | omega)⟩
  · (first | lia | omega)
end

section
variable {key : Value → Option Int} {ws : List Value} {st : Nat}
theorem same_self (hk : AllK key ws) (r : Nat) : Same (ltK key) ws (nth ws) r := fun h => ⟨rfl, by
  obtain ⟨b, e⟩ := ltK_some (hk _ (nth_mem (vs := ws) (i := 2 * r + 1) (by (first | lia | omega)))) (hk _ (nth_mem h))
  rw [e]; simp⟩
theorem tot_self (hk : AllK key ws) {X : Value} (hX : key X ≠ none) {r : Nat} (hr : r < ws.length) : ltK key X (nth ws r) ≠ none := by
  obtain ⟨b, e⟩ := ltK_some hX (hk _ (nth_mem hr))
  rw [e]; simp

theorem whole_spec (hk : AllK key ws) (hst : st < ws.length) : ∃ W q, siftup (ltK key) ws st = .ok W ∧ Fin' (ltK key) ws st (nth ws) (nth ws st) q W ∧ Stop (ltK key) ws st (nth ws st) q := by
  obtain ⟨z, hz, hzl, hmax⟩ := Rc.leaf (lt := ltK key) hst
  have S := Rc.start (lt := ltK key) hst
  have hD0 : Dn (ltK key) ws st (nth ws) ws st := ⟨rfl, fun k _ _ => sh_start.symm⟩
  have hu : ∃ us, suLoop (ltK key) ws st = .ok (us, z) ∧ Sh (ltK key) ws st (nth ws) us z := by
    by_cases h1 : 2 * st + 1 < ws.length
    · exact su_end hD0 S h1 hz hzl (hmax st S) (fun r _ _ _ => same_self hk r)
    · have : z = st := by
        rcases hz.st_le with h | h
        · exact h
        · exact absurd (S.chain hz h).2 h1
      subst this
      exact ⟨ws, by rw [suLoop, if_neg h1], rfl, fun k _ => sh_start.symm⟩
  obtain ⟨us, e, hS⟩ := hu
  obtain ⟨W, q, f1, f2, f3, f4, f5, f6, f7⟩ := sd_fin (X := nth ws st) S (hS.fin hz.inb) hz (hmax st S) (fun r h1 _ _ => tot_self hk (hk _ (nth_mem hst)) h1.inb)
  exact ⟨W, q, by rw [siftup, e]; exact f1, f2, f3, f6, fun r h1 h2 => f7 r h1 h2 (hmax r h1)⟩

end
end Mine
end PartP2
section PartP3
open PySem
set_option maxHeartbeats 1000000
namespace Mine
/-! heaps -/
def Hp (key : Value → Option Int) (p : Nat) (vs : List Value) : Prop := ∀ k, 0 < k → k < vs.length → p ≤ (k - 1) / 2 → ltK key (nth vs k) (nth vs ((k - 1) / 2)) = some false
def Inj (vs : List Value) : Prop := ∀ i j, i < vs.length → j < vs.length → nth vs i = nth vs j → i = j

theorem lt_ff {key : Value → Option Int} {u v w : Value} (h1 : ltK key u v = some false) (h2 : ltK key v w = some false) : ltK key u w = some false := by
  unfold ltK at *
  cases e1 : key u <;> cases e2 : key v <;> cases e3 : key w <;> simp_all
  (first | lia | omega)
theorem lt_tf {key : Value → Option Int} {u v : Value} (h1 : ltK key u v = some true) : ltK key v u = some false := by
  unfold ltK at *
  cases e1 : key u <;> cases e2 : key v <;> simp_all
  (first | lia | omega)
theorem lt_self {key : Value → Option Int} {u : Value} (h : key u ≠ none) : ltK key u u = some false := by
  unfold ltK
  cases e1 : key u
  · exact absurd e1 h
  · simp
/-- the child that is taken is the least -/
theorem nx_min {key : Value → Option Int} {ws : List Value} (hk : AllK key ws) {r k : Nat} (hkb : k < ws.length) (hr : (k - 1) / 2 = r) (h0 : 0 < k) : ltK key (nth ws k) (nth ws (nx (ltK key) ws r)) = some false := by
  by_cases h2 : 2 * r + 2 < ws.length
  · obtain ⟨b, e⟩ := ltK_some (hk _ (nth_mem (vs := ws) (i := 2 * r + 1) (by (first | lia | omega)))) (hk _ (nth_mem h2))
    cases b with
    | true =>
      have hn : nx (ltK key) ws r = 2 * r + 1 := by unfold nx; rw [if_neg (fun h => h.2 e)]
      rw [hn]
      rcases (show k = 2 * r + 1 ∨ k = 2 * r + 2 by (first | lia | omega)) with h | h
      · rw [h]; exact lt_self (hk _ (nth_mem (by (first | lia | omega))))
      · rw [h]; exact lt_tf e
    | false =>
      have hn : nx (ltK key) ws r = 2 * r + 2 := by unfold nx; rw [if_pos ⟨h2, by rw [e]; simp⟩]
      rw [hn]
      rcases (show k = 2 * r + 1 ∨ k = 2 * r + 2 by (first | lia | omega)) with h | h
      · rw [h]; exact e
      · rw [h]; exact lt_self (hk _ (nth_mem h2))
  · have hn : nx (ltK key) ws r = 2 * r + 1 := by unfold nx; rw [if_neg (fun h => h2 h.1)]
    rw [hn, show k = 2 * r + 1 by (first | lia | omega)]
    exact lt_self (hk _ (nth_mem (by (first | lia | omega))))

theorem su_heap {key : Value → Option Int} {vs W : List Value} {p : Nat} (hk : AllK key vs) (hp : p < vs.length) (hH : Hp key (p + 1) vs) (hW : siftup (ltK key) vs p = .ok W) : Hp key p W := by
  obtain ⟨W', q, e, hF, hq, hs1, hs2⟩ := whole_spec hk hp
  rw [hW] at e
  cases e
  intro k k0 kb kp
  rw [hF.1] at kb
  have S := Rc.start (lt := ltK key) hp
  have hqb := hq.inb
  generalize hr : (k - 1) / 2 = r at kp
  have hrk : r < k := by (first | lia | omega)
  have prevk : Rc (ltK key) vs p k → Rc (ltK key) vs p r ∧ nx (ltK key) vs r = k := fun h => by
    obtain ⟨a, b, _, _⟩ := h.prev (by (first | lia | omega))
    rw [hr] at a b; exact ⟨a, b⟩
  rw [hF.2 k kb, hF.2 r (by (first | lia | omega))]
  by_cases h1 : r = q
  · have hkq : k ≠ q := by (first | lia | omega)
    rw [if_pos h1, if_neg hkq, sh_ge (by (first | lia | omega))]
    have hc := hs2 _ (hq.next (by (first | lia | omega))) (nx_gt _)
    have hm := nx_min hk kb (hr.trans h1) k0
    exact lt_ff hm (lt_tf hc)
  · rw [if_neg h1]
    by_cases h2 : Rc (ltK key) vs p r ∧ r < q
    · rw [sh_up h2.1 h2.2]
      by_cases h3 : k = nx (ltK key) vs r
      · by_cases h4 : k = q
        · rw [if_pos h4, ← h3, h4]
          exact hs1.resolve_left (by have := h2.1.ge; (first | lia | omega))
        · have hrk' : Rc (ltK key) vs p k := h3 ▸ h2.1.next (h2.1.chain hq h2.2).2
          have hkq : k < q := by have := (h2.1.chain hq h2.2).1; (first | lia | omega)
          rw [if_neg h4, sh_up hrk' hkq, ← h3]
          have hb := (hrk'.chain hq hkq).2
          have := hH (nx (ltK key) vs k) (by have := nx_gt (lt := ltK key) (ws := vs) k; (first | lia | omega)) (nx_lt hb) (by rw [nx_par]; (first | lia | omega))
          rw [nx_par] at this
          exact this
      · have hnk : ¬ Rc (ltK key) vs p k := fun h => h3 (prevk h).2.symm
        have h4 : k ≠ q := fun h => hnk (h ▸ hq)
        rw [if_neg h4, sh_off hnk]
        exact nx_min hk kb hr k0
    · have h4 : k ≠ q := fun h => h2 (by
        have := prevk (h ▸ hq)
        exact ⟨this.1, by (first | lia | omega)⟩)
      have h5 : ¬ (Rc (ltK key) vs p k ∧ k < q) := fun h => h2 ⟨(prevk h.1).1, by (first | lia | omega)⟩
      rw [if_neg h4]
      unfold sh
      rw [if_neg h2, if_neg h5]
      rcases Nat.lt_or_ge p r with h | h
      · have := hH k k0 kb (by (first | lia | omega))
        rw [hr] at this; exact this
      · exfalso
        have hrp : r = p := by (first | lia | omega)
        have := hq.ge
        exact h2 ⟨hrp ▸ S, by (first | lia | omega)⟩
theorem su_inj {key : Value → Option Int} {vs W : List Value} {p : Nat} (hk : AllK key vs) (hp : p < vs.length) (hI : Inj vs) (hW : siftup (ltK key) vs p = .ok W) : Inj W := by
  obtain ⟨W', q, e, hF, hq, hs1, hs2⟩ := whole_spec hk hp
  rw [hW] at e
  cases e
  intro i j hi hj h
  rw [hF.1] at hi hj
  exact fin_inj hI hF hq rfl hp hi hj h

theorem hfyN_all {key : Value → Option Int} : ∀ (k : Nat) (vs : List Value), k ≤ vs.length → AllK key vs → Hp key k vs → Inj vs →
    (hfyN (ltK key) k vs).length = vs.length ∧ (∀ v ∈ hfyN (ltK key) k vs, v ∈ vs) ∧ Hp key 0 (hfyN (ltK key) k vs) ∧ Inj (hfyN (ltK key) k vs) := by
  intro k
  induction k with
  | zero => intro vs _ _ h i; exact ⟨rfl, fun _ h => h, h, i⟩
  | succ k ih =>
    intro vs hkl hk hh hi
    obtain ⟨t1, t2, t3⟩ := siftup_suT (pos := k) hk (by (first | lia | omega))
    have hk' : AllK key (suT (ltK key) vs k) := fun v hv => hk v (t3 v hv)
    obtain ⟨a, b, c, d⟩ := ih (suT (ltK key) vs k) (by rw [t2]; (first | lia | omega)) hk' (su_heap hk (by (first | lia | omega)) hh t1) (su_inj hk (by (first | lia | omega)) hi t1)
    exact ⟨a.trans t2, fun v hv => t3 v (b v hv), c, d⟩
theorem hfy_all {key : Value → Option Int} {vs : List Value} (hk : AllK key vs) (hi : Inj vs) :
    (hfy (ltK key) vs).length = vs.length ∧ (∀ v ∈ hfy (ltK key) vs, v ∈ vs) ∧ Hp key 0 (hfy (ltK key) vs) ∧ Inj (hfy (ltK key) vs) :=
  hfyN_all _ vs (by (first | lia | omega)) hk (fun k k0 kb h => by (first | lia | omega)) hi
end Mine
end PartP3
section PartM9
set_option maxHeartbeats 1000000
namespace Mine
/-! a frame and the heap about it, step by step -/
abbrev Ch (X : List Addr) (h h' : Heap) : Prop := ∀ b o, b ∉ X → h.get? b = some o → h'.get? b = some o
theorem Ch.refl {X : List Addr} {h : Heap} : Ch X h h := fun _ _ _ e => e
theorem Ch.trans {X : List Addr} {h h' h'' : Heap} (a : Ch X h h') (b : Ch X h' h'') : Ch X h h'' := fun c o n e => b c o n (a c o n e)
theorem Ch.mono {X Y : List Addr} {h h' : Heap} (a : Ch X h h') (s : ∀ b, b ∈ X → b ∈ Y) : Ch Y h h' := fun c o n e => a c o (fun m => n (s c m)) e
theorem Ch.nil {Y : List Addr} {h h' : Heap} (a : Ch [] h h') : Ch Y h h' := a.mono fun _ m => nomatch m
theorem Ch.push {X : List Addr} {h : Heap} {o : Obj} : Ch X h (h.push o) := fun _ _ _ e => Heap.get?_push_of_some _ e
theorem Ch.one {a : Addr} {h h' : Heap} (s : Heap.SameBut a h h') : Ch [a] h h' := fun b o n e => (s.2 b fun q => n (by rw [q]; exact List.mem_singleton.mpr rfl)).trans e
theorem Ch.isList {X : List Addr} {h h' : Heap} (c : Ch X h h') {a : Addr} {items : Array Value} (n : a ∉ X) (l : h.IsList a items) : h'.IsList a items := l.at fun o e => c a o n e
theorem Ch.plain {X : List Addr} {h h' : Heap} (c : Ch X h h') {a : Addr} {items : Array Value} (n : a ∉ X) (l : h.PlainList a items) : h'.PlainList a items := l.at fun o e => c a o n e
theorem not_mem_one {a b : Addr} (h : a ≠ b) : a ∉ [b] := fun m => h (List.mem_singleton.mp m)

def Fm (h₀ : Heap) (L : Addr) (bs : List (Str × Value)) (h : Heap) : Prop := ∃ m, Fr h₀ L h m ∧ Lk m bs
theorem Fm.keep {h₀ h : Heap} {L : Addr} {bs : List (Str × Value)} (f : Fm h₀ L bs h) : ∀ b o, h₀.get? b = some o → h.get? b = some o := by obtain ⟨m, F, _⟩ := f; exact F.keep
theorem Fm.lt {h₀ h : Heap} {L : Addr} {bs : List (Str × Value)} (f : Fm h₀ L bs h) : L < h.objs.size := by obtain ⟨m, F, _⟩ := f; exact F.ns.lt
theorem Fm.ge {h₀ h : Heap} {L : Addr} {bs : List (Str × Value)} (f : Fm h₀ L bs h) : h₀.objs.size ≤ L := by obtain ⟨m, F, _⟩ := f; exact F.above
theorem Fm.sz {h₀ h : Heap} {L : Addr} {bs : List (Str × Value)} (f : Fm h₀ L bs h) : h₀.objs.size ≤ h.objs.size := Nat.le_of_lt (Nat.lt_of_le_of_lt f.ge f.lt)
theorem Fm.ch {h₀ h h' : Heap} {L : Addr} {bs : List (Str × Value)} {X : List Addr} (f : Fm h₀ L bs h) (c : Ch X h h') (n : L ∉ X) (z : ∀ b ∈ X, h₀.get? b = none) : Fm h₀ L bs h' := by
  obtain ⟨m, F, l⟩ := f
  exact ⟨m, ⟨F.ns.at' fun o e => c L o n e, fun b o e => c b o (fun q => by rw [z b q] at e; cases e) (F.keep b o e), F.above⟩, l⟩
theorem Fm.frm {h₀ h : Heap} {L : Addr} {bs : List (Str × Value)} (f : Fm h₀ L bs h) : ∃ o es ep, h.get? L = some o ∧ o.data = .dict es ep := by
  obtain ⟨m, F, _⟩ := f
  obtain ⟨oL, es, ep, hL, hLd, _⟩ := F.ns
  exact ⟨oL, es, ep, hL, hLd⟩
/-- an object of the base is none that is made since -/
theorem base_none {h₀ : Heap} {a : Addr} (h : h₀.objs.size ≤ a) : h₀.get? a = none := Heap.get?_none_of_le h

section
variable {h₀ : Heap} {mg mb : Str → Option Value} {L a : Addr} {bs : List (Str × Value)} {M : Model} {A : Around} {E : Value → Shared → Prop} {s : Shared} {cn : Str} {cs : Scope} {cd : Value} {cl : List (Str × Addr)}
theorem Fm.ld {x : Str} {pos : Pos} {v : Value} {Q : Value → Shared → Prop} (f : Fm h₀ L bs s.heap) (hv : bs.lookup x = some v) (h : Q v s)
    (hk : cs.kind = .function := by rfl) (hx : (envX cn cs L a cd cl).kindOf x = some .local := by rfl)
    (hd : (x == ("__debug__" : Str)) = false := by decide) : wpAny M A (eval (.Name x pos) (envX cn cs L a cd cl)) Q E s := by
  obtain ⟨m, F, l⟩ := f
  exact nameX_L F (l x v hv) h hk hx hd
theorem Fm.st {x : Str} {v : Value} {Q : Unit → Shared → Prop} (f : Fm h₀ L bs s.heap)
    (h : ∀ s', Go s s' → Fm h₀ L ((x, v) :: bs) s'.heap → Ch [L] s.heap s'.heap → Q () s')
    (hk : cs.kind = .function := by rfl) (hx : (envX cn cs L a cd cl).kindOf x = some .local := by rfl) : wpAny M A (storeName (envX cn cs L a cd cl) x v) Q E s := by
  obtain ⟨m, F, l⟩ := f
  exact wpAny_storeName_local hx F.ns (fun h' hn hs => h _ (Go.mk _ _) ⟨_, F.set hn hs, l.put x v⟩ (Ch.one hs)) (by show (cs.kind == .class || (cs.kind == .module && L != mainGlobals)) = false; rw [hk]; rfl)
theorem globX {x : Str} {pos : Pos} {v : Value} {Q : Value → Shared → Prop} (G : Gd h₀ mg mb) (k : ∀ b o, h₀.get? b = some o → s.heap.get? b = some o) (hv : mg x = some v) (h : Q v s)
    (hk : cs.kind = .function := by rfl) (hx : (envX cn cs L a cd cl).kindOf x = some .globalImplicit := by rfl)
    (hd : (x == ("__debug__" : Str)) = false := by decide) : wpAny M A (eval (.Name x pos) (envX cn cs L a cd cl)) Q E s :=
  Calls.Name_function_global hk hx (Calls.loadGlobal_global (env := envX cn cs L a cd cl) (G.g.keeps k) hv h) hd
theorem bltX {x : Str} {pos : Pos} {v : Value} {Q : Value → Shared → Prop} (G : Gd h₀ mg mb) (k : ∀ b o, h₀.get? b = some o → s.heap.get? b = some o) (hb : bootBuiltins x = some v) (h : Q v s)
    (hin : x ∈ (["len", "range", "reversed", "abs", "sorted", "set", "list", "sum", "min", "max", "TypeError"] : List Str) := by decide)
    (hk : cs.kind = .function := by rfl) (hx : (envX cn cs L a cd cl).kindOf x = some .globalImplicit := by rfl) (hn : x ≠ "__name__" := by decide)
    (hd : (x == ("__debug__" : Str)) = false := by decide) : wpAny M A (eval (.Name x pos) (envX cn cs L a cd cl)) Q E s :=
  Calls.Name_function_global hk hx (Calls.loadGlobal_builtin (env := envX cn cs L a cd cl) (G.g.keeps k) (G.no x hin) (G.b.keeps k) ((G.bt x hn).trans hb) h) hd
end

section
variable {prog : Program} {w : World} {A : Around} {E : Value → Shared → Prop} {s : Shared}
theorem getAt {value slice : Expr} {H : Addr} {vs : List Value} {k : Int} {u : Tok} {Q : Value → Shared → Prop} (hl : s.heap.IsList H vs.toArray) (h0 : 0 ≤ k) (h1 : k.toNat < vs.length) (hn : vs.length < 2 ^ 62) (h : Q (nth vs k.toNat) s)
    (hs : subscripted slice false (.ref H) (.int k u) = operate [.ref H, .int k u] (getItem (.ref H) (.int k u)) := by with_unfolding_all rfl) (hg : ∀ r, letTemporaryGo value (.ref H) r = pure () := by intro _; with_unfolding_all rfl) :
    wpAny (model prog w) A (subscriptTail value slice (.ref H) (.int k u)) Q E s :=
  item_listL hl h0 (by (first | lia | omega)) (by rw [nth, List.getD_eq_getElem?_getD, List.getElem?_eq_getElem h1]; rfl) h hs hg
theorem setAt {H : Addr} {vs : List Value} {k : Int} {t : Tok} {v : Value} {Q : Unit → Shared → Prop} (hl : s.heap.IsList H vs.toArray) (h0 : 0 ≤ k) (h1 : k.toNat < vs.length) (hn : vs.length < 2 ^ 62)
    (h : ∀ s', Go s s' → s'.heap.IsList H (vs.set k.toNat v).toArray → Ch [H] s.heap s'.heap → Q () s') : wpAny (model prog w) A (setItem (.ref H) (.int k t) v) Q E s :=
  wpAny_setItem_list hl h0 (by (first | lia | omega)) (by rw [List.size_toArray]; (first | lia | omega)) (fun h' hl' hs => h _ ⟨_, _, rfl⟩ (by show h'.IsList H (vs.set k.toNat v).toArray; rw [← List.setIfInBounds_toArray]; exact hl') (Ch.one hs))
/-- the last item -/
theorem getLast {value slice : Expr} {H : Addr} {vs : List Value} {u : Tok} {v : Value} {Q : Value → Shared → Prop} (hl : s.heap.IsList H (vs ++ [v]).toArray) (h : Q v s)
    (hs : subscripted slice false (.ref H) (.int (-1) u) = operate [.ref H, .int (-1) u] (getItem (.ref H) (.int (-1) u)) := by with_unfolding_all rfl) (hg : ∀ r, letTemporaryGo value (.ref H) r = pure () := by intro _; with_unfolding_all rfl) :
    wpAny (model prog w) A (subscriptTail value slice (.ref H) (.int (-1) u)) Q E s :=
  subscriptTail_builtin hl.typeIs slot_list_getitem.lookup (wpAny_getItem_list_neg hl (by decide) (by simp; (first | lia | omega)) (by decide) (by
    have : ((-1 : Int) + ((vs ++ [v]).toArray.size : Int)).toNat = vs.length := by simp; (first | lia | omega)
    rw [this]; simp) h) hs hg
theorem newL {vs : List Value} {Q : Value → Shared → Prop} (hz : vs.length ≤ sizeLine) (h : ∀ s' D, Go s s' → D = s.heap.objs.size → s'.heap.PlainList D vs.toArray → Ch [] s.heap s'.heap → Q (.ref D) s') : wpAny (model prog w) A (newList vs) Q E s :=
  wpAny_newObj_type (h _ _ ⟨_, _, rfl⟩ rfl ⟨0, Heap.get?_push_size _ rfl⟩ Ch.push) (by show vs.toArray.size ≤ sizeLine; rw [List.size_toArray]; exact hz)
theorem slice_none (items : Array Value) : slicePick items none none none = items := by
  have e : sliceBounds none none none items.size = (((0 : Nat) : Int), (items.size : Int), 1) := by
    simp only [sliceBounds, Option.getD_none, show (1 : Int) > 0 by decide, if_true]; rfl
  unfold slicePick
  rw [e]
  simp only [sliceRange_one, pick_run]
  rw [List.take_of_length_le (by simp)]
  simp
/-- xs[:] -/
theorem copyAll {env : Env} {value : Expr} {p pos : Pos} {Q : Value → Shared → Prop}
    (h : wpAny (model prog w) A (eval value env) (fun o s₁ => ∃ l vs, o = .ref l ∧ s₁.heap.IsList l (List.toArray vs) ∧ vs.length ≤ sizeLine ∧
      ∀ s' D, Go s₁ s' → D = s₁.heap.objs.size + 1 → s'.heap.PlainList D (List.toArray vs) → Ch [] s₁.heap s'.heap → Q (.ref D) s') E s)
    (ht : ∀ o r, letTemporaryGo value o r = pure () := by intro _ _; rfl) :
    wpAny (model prog w) A (eval (.Subscript value (.Slice none none none p) pos) env) Q E s := by
  refine wpAny_Subscript_list_slice (wpAny_mono h (fun o s₁ h₁ => ?_) fun _ _ e => e) ht
  obtain ⟨l, vs, rfl, hl, hz, k⟩ := h₁
  rw [evalPart_none]
  refine wpAny_pure (wpAny_pure ⟨l, _, none, none, rfl, hl, by rw [List.size_toArray]; exact hz, .none, .none, ?_⟩)
  rw [slice_none]
  refine k _ _ ⟨_, _, rfl⟩ rfl ⟨0, ?_⟩ (fun b o _ e => Heap.get?_push_of_some _ (Heap.get?_push_of_some _ e))
  have := Heap.get?_push_size (s₁.heap.push { cls := .type "slice", data := .fields #[.none, .none, .none] }) (o := { cls := .type "list", data := .seq vs.toArray }) rfl
  rw [Heap.size_push] at this
  exact this
/-- 'is' of two items -/
def ItmAt (h : Heap) (v : Value) : Prop := v = .none ∨ ∃ a items, v = .ref a ∧ h.IsList a items
theorem sameV {u v : Value} {R : Bool → Shared → Prop} (hu : ItmAt s.heap u) (hv : ItmAt s.heap v) (h : R (decide (u = v)) s) : wpAny (model prog w) A (isSame u v) R E s := by
  rcases hu with rfl | ⟨a, ia, rfl, la⟩
  · rcases hv with rfl | ⟨b, ib, rfl, lb⟩
    · exact wpAny_isSame_plain rfl (by simpa using h)
    · refine wpAny_isSame_plain rfl ?_
      rw [show (Value.none == Value.ref b) = false from rfl]; simpa using h
  · rcases hv with rfl | ⟨b, ib, rfl, lb⟩
    · refine wpAny_isSame_plain rfl ?_
      rw [show (Value.ref a == Value.none) = false from rfl]; simpa using h
    · by_cases e : a = b
      · subst e; exact wpAny_isSame_ref_self (by simpa using h)
      · obtain ⟨oa, ha, hc, _⟩ := la
        obtain ⟨ob, hb, _⟩ := lb
        exact wpAny_isSame_ref_other e ha hb (by rw [hc]; decide) (by simpa [e] using h)
theorem isNotV {u v : Value} {Q : Value → Shared → Prop} (hu : ItmAt s.heap u) (hv : ItmAt s.heap v) (h : Q (.bool (!decide (u = v))) s) : wpAny (model prog w) A (compareOp .IsNot u v) Q E s := by
  show wpAny _ A (do return .bool (!(← isSame u v))) Q E s
  exact wpAny_bind (sameV hu hv (wpAny_pure h))
/-- a list of one int, its key -/
def Kd (h : Heap) (key : Value → Option Int) (v : Value) : Prop := ∃ a x t, v = .ref a ∧ key v = some x ∧ h.IsList a #[.int x t]
theorem Kd.key {h : Heap} {key : Value → Option Int} {v : Value} (k : Kd h key v) : key v ≠ none := by obtain ⟨a, x, t, _, e, _⟩ := k; rw [e]; simp
theorem Kd.ch {X : List Addr} {h h' : Heap} {key : Value → Option Int} {v : Value} (k : Kd h key v) (c : Ch X h h') (n : ∀ b ∈ X, v ≠ .ref b) : Kd h' key v := by
  obtain ⟨a, x, t, rfl, e, l⟩ := k
  exact ⟨a, x, t, rfl, e, c.isList (fun m => n a m rfl) l⟩
theorem Kd.itm {h : Heap} {key : Value → Option Int} {v : Value} {H : Addr} (k : Kd h key v) (n : v ≠ .ref H) : Itm h H key v := by
  obtain ⟨a, x, t, rfl, e, l⟩ := k
  exact .inr ⟨a, x, t, rfl, e, fun q => n (by rw [q]), l⟩
theorem Kd.at {h : Heap} {key : Value → Option Int} {v : Value} (k : Kd h key v) : ItmAt h v := by
  obtain ⟨a, x, t, rfl, e, l⟩ := k
  exact .inr ⟨a, _, rfl, l⟩
theorem cmpK {key : Value → Option Int} {u v : Value} {Q : Value → Shared → Prop} (hu : Kd s.heap key u) (hv : Kd s.heap key v) (hc : A.units < cLine) (h : ∀ r, ltK key u v = some r → Q (.bool r) s) :
    wpAny (model prog w) A (compareOp .Lt u v) Q E s := by
  obtain ⟨a, x, t, rfl, e, l⟩ := hu
  obtain ⟨b, y, t', rfl, e', l'⟩ := hv
  exact lt_cells l l' hc (h _ (by simp [ltK, e, e']))
end
end Mine
end PartM9
section PartM10
set_option maxHeartbeats 400000
namespace Mine
/-! comprehensions '[k for k in range(a, b) if test]' -/
section
variable {M : Model} {A : Around} {E : Value → Shared → Prop} {s : Shared} {env : Env} {m : Str → Option Value}
theorem ldE {x : Str} {pos : Pos} {v : Value} {Q : Value → Shared → Prop} (hn : s.heap.Ns env.locals m) (hv : m x = some v) (h : Q v s) (hk : env.scope.kind = .function := by rfl) (hl : env.kindOf x = some .local := by rfl)
    (hd : (x == ("__debug__" : Str)) = false := by decide) : wpAny M A (eval (.Name x pos) env) Q E s := wpAny_Name (wpAny_loadName_local hk hl hn hv h) hd
end
theorem Keeps.mk' {s : Shared} (tk : Nat) : Keeps s { s with toks := tk } := ⟨_, _, rfl, fun _ _ e => e⟩

section
variable {prog : Program} {w : World} {A : Around} {E : Value → Shared → Prop} {env : Env}

theorem walks_range (hh : A.handled = none) (I a n : Nat) : Walks prog w A I [I] [I] n (fun i v => i < n ∧ ∃ t, v = .int (((a + i : Nat)) : Int) t) (fun i h => i ≤ n ∧ IsRangeIter h I ((a : Int) + (i : Nat) * 1) ((n : Int) - (i : Nat)) 1) := by
  have W := Walks.range (prog := prog) (w := w) hh I (a : Int) 1 n
  exact ⟨W.sub, fun i h h' st hk => ⟨st.1, W.frame i h h' st.2 hk⟩, fun i s Q E hi st hQ => W.item i s Q E hi st.2 fun v h' tk hP hS hk => hQ v h' tk ⟨hi, by
    obtain ⟨t, rfl⟩ := hP
    exact ⟨t, by congr 1; (first | lia | omega)⟩⟩ ⟨by (first | lia | omega), hS⟩ hk, fun s Q E st hQ => W.done s Q E st.2 hQ, fun i s Q E st hQ => W.self i s Q E st.2 hQ⟩

theorem range_iter {r : Addr} {a n : Nat} {t u v : Tok} {s₁ : Shared} {Q : Value → Shared → Prop} (hr : IsRange s₁.heap r (a : Int) ((a + n : Nat) : Int) 1 t u v) (ha : a + n < 2 ^ 60)
    (h : ∀ s₂, Go s₁ s₂ → Ch [] s₁.heap s₂.heap → s₂.heap.objs.size = s₁.heap.objs.size + 1 → IsRangeIter s₂.heap s₁.heap.objs.size ((a : Int) + ((0 : Nat) : Int) * 1) ((n : Int) - ((0 : Nat) : Int)) 1 → Q (.ref s₁.heap.objs.size) s₂) :
    wpAny (model prog w) A (pyIter (.ref r)) Q E s₁ := by
  refine wpAny_pyIter_range hr (small_one (by (first | lia | omega)) (by (first | lia | omega)) (by (first | lia | omega)) (by (first | lia | omega))) (h _ ⟨_, _, rfl⟩ Ch.push (by rw [Heap.size_push]) ?_)
  have e : Builtin.Range.rangeSize (a : Int) ((a + n : Nat) : Int) 1 = (n : Int) := by rw [rangeSize_one]; split <;> (first | lia | omega)
  rw [e]
  have := Heap.get?_push_size s₁.heap (o := { cls := .type "range_iterator", data := .fields #[rawInt (a : Int), rawInt (n : Int), rawInt 1] }) rfl
  simpa using this

theorem rng1 {s : Shared} {y : Int} {u : Tok} (n : Nat) {Q : Value → Shared → Prop} (hy : y = ((n : Nat) : Int)) (h : ∀ s' r t u v, Go s s' → IsRange s'.heap r ((0 : Nat) : Int) ((0 + n : Nat) : Int) 1 t u v → Ch [] s.heap s'.heap → Q (.ref r) s') :
    wpAny (model prog w) A (call (.type "range") [.int y u]) Q E s := by
  subst hy
  refine call_range_1 (h _ s.heap.objs.size s.toks u (s.toks + 1) ⟨_, _, rfl⟩ ?_ Ch.push)
  rw [Nat.zero_add]
  exact IsRange.new ..

end
end Mine
end PartM10
section PartP4
set_option maxHeartbeats 1000000
namespace Mine
/-! the plain law of dp0037-01: a heap some of whose items are raised -/
section
variable {key : Value → Option Int}
def Eqk (key : Value → Option Int) (vs vs' : List Value) : Prop := vs.length = vs'.length ∧ ∀ i, key (nth vs i) = key (nth vs' i)
theorem Eqk.symm {a b : List Value} (x : Eqk key a b) : Eqk key b a := ⟨x.1.symm, fun i => (x.2 i).symm⟩
theorem Eqk.trans {a b c : List Value} (x : Eqk key a b) (y : Eqk key b c) : Eqk key a c := ⟨x.1.trans y.1, fun i => (x.2 i).trans (y.2 i)⟩
theorem nth_set' {vs : List Value} {i k : Nat} {v : Value} : nth (vs.set i v) k = if k = i ∧ i < vs.length then v else nth vs k := by
  by_cases h : i < vs.length
  · rw [nth_set h]
    by_cases e : k = i
    · rw [if_pos e, if_pos ⟨e, h⟩]
    · rw [if_neg e, if_neg fun q => e q.1]
  · rw [if_neg fun q => h q.2, List.set_eq_of_length_le (by (first | lia | omega))]
theorem Eqk.set {a b : List Value} {u v : Value} (x : Eqk key a b) (h : key u = key v) (i : Nat) : Eqk key (a.set i u) (b.set i v) := by
  refine ⟨by rw [List.length_set, List.length_set, x.1], fun k => ?_⟩
  rw [nth_set', nth_set', x.1]
  by_cases e : k = i ∧ i < b.length
  · rw [if_pos e, if_pos e, h]
  · rw [if_neg e, if_neg e, x.2]
theorem ltK_eq {u v u' v' : Value} (h1 : key u = key u') (h2 : key v = key v') : ltK key u v = ltK key u' v' := by
  unfold ltK; rw [h1, h2]
theorem sdLoop_eq {start : Nat} {X X' : Value} (hX : key X = key X') : ∀ (pos : Nat) (vs vs' : List Value), Eqk key vs vs' →
    match sdLoop (ltK key) start X vs pos, sdLoop (ltK key) start X' vs' pos with
    | .ok (us, p), .ok (us', p') => Eqk key us us' ∧ p = p'
    | .error us, .error us' => Eqk key us us'
    | _, _ => False := by
  intro pos
  induction pos using Nat.strongRecOn with
  | ind pos ih =>
    intro vs vs' h
    rw [sdLoop, sdLoop.eq_def (ltK key) start X']
    by_cases hp : start < pos
    · rw [if_pos hp, if_pos hp, ltK_eq hX (h.2 ((pos - 1) / 2))]
      cases ltK key X' (nth vs' ((pos - 1) / 2)) with
      | none => exact h
      | some r =>
        cases r with
        | false => exact ⟨h, rfl⟩
        | true => exact ih ((pos - 1) / 2) (by (first | lia | omega)) _ _ (h.set (h.2 _) pos)
    · rw [if_neg hp, if_neg hp]
      exact ⟨h, rfl⟩
theorem siftdown_eq {start pos : Nat} {vs vs' : List Value} (h : Eqk key vs vs') : match siftdown (ltK key) vs start pos, siftdown (ltK key) vs' start pos with
    | .ok us, .ok us' => Eqk key us us'
    | .error us, .error us' => Eqk key us us'
    | _, _ => False := by
  unfold siftdown
  have := sdLoop_eq (start := start) (h.2 pos) pos vs vs' h
  revert this
  cases sdLoop (ltK key) start (nth vs pos) vs pos with
  | error us =>
    cases sdLoop (ltK key) start (nth vs' pos) vs' pos with
    | error us' => exact fun h => h
    | ok r' => exact fun h => h.elim
  | ok r =>
    cases sdLoop (ltK key) start (nth vs' pos) vs' pos with
    | error us' => exact fun h => h.elim
    | ok r' =>
      intro q
      obtain ⟨us, p⟩ := r
      obtain ⟨us', p'⟩ := r'
      obtain ⟨q1, q2⟩ := q
      dsimp only at q1 q2 ⊢
      rw [q2]
      exact q1.set (h.2 pos) p'
theorem suLoop_eq : ∀ (n : Nat) (vs vs' : List Value) (pos : Nat), vs.length - pos = n → Eqk key vs vs' → pos < vs.length →
    match suLoop (ltK key) vs pos, suLoop (ltK key) vs' pos with
    | .ok (us, p), .ok (us', p') => Eqk key us us' ∧ p = p'
    | .error us, .error us' => Eqk key us us'
    | _, _ => False := by
  intro n
  induction n using Nat.strongRecOn with
  | ind n ih =>
    intro vs vs' pos hn h hp
    have go : ∀ c, pos < c → c < vs.length → match suLoop (ltK key) (vs.set pos (nth vs c)) c, suLoop (ltK key) (vs'.set pos (nth vs' c)) c with
        | .ok (us, p), .ok (us', p') => Eqk key us us' ∧ p = p'
        | .error us, .error us' => Eqk key us us'
        | _, _ => False := fun c h1 h2 =>
      ih (vs.length - c) (by (first | lia | omega)) _ _ c (by rw [List.length_set]) (h.set (h.2 c) pos) (by rw [List.length_set]; exact h2)
    rw [suLoop, suLoop.eq_def (ltK key) vs', ← h.1]
    by_cases h1 : 2 * pos + 1 < vs.length
    · rw [if_pos h1, if_pos h1]
      by_cases h2 : 2 * pos + 2 < vs.length
      · rw [if_pos h2, if_pos h2, ltK_eq (h.2 (2 * pos + 1)) (h.2 (2 * pos + 2))]
        cases ltK key (nth vs' (2 * pos + 1)) (nth vs' (2 * pos + 2)) with
        | none => exact h
        | some r =>
          cases r with
          | false => exact go _ (by (first | lia | omega)) h2
          | true => exact go _ (by (first | lia | omega)) h1
      · rw [if_neg h2, if_neg h2]
        exact go _ (by (first | lia | omega)) h1
    · rw [if_neg h1, if_neg h1]
      exact ⟨h, rfl⟩
theorem suT_eq {pos : Nat} {vs vs' : List Value} (h : Eqk key vs vs') (hp : pos < vs.length) : Eqk key (suT (ltK key) vs pos) (suT (ltK key) vs' pos) := by
  unfold suT siftup
  have := suLoop_eq _ vs vs' pos rfl h hp
  revert this
  cases suLoop (ltK key) vs pos with
  | error us =>
    cases suLoop (ltK key) vs' pos with
    | error us' => exact fun h => h
    | ok r' => exact fun h => h.elim
  | ok r =>
    cases suLoop (ltK key) vs' pos with
    | error us' => exact fun h => h.elim
    | ok r' =>
      intro q
      obtain ⟨us, p⟩ := r
      obtain ⟨us', p'⟩ := r'
      obtain ⟨q1, q2⟩ := q
      dsimp only at q1 q2 ⊢
      rw [q2]
      have := siftdown_eq (start := pos) (pos := p') (q1.set (h.2 pos) p')
      revert this
      cases siftdown (ltK key) (us.set p' (nth vs pos)) pos p' with
      | error a =>
        cases siftdown (ltK key) (us'.set p' (nth vs' pos)) pos p' with
        | error b => exact fun h => h
        | ok b => exact fun h => h.elim
      | ok a =>
        cases siftdown (ltK key) (us'.set p' (nth vs' pos)) pos p' with
        | error b => exact fun h => h.elim
        | ok b => exact fun h => h

theorem way_mono {ws : List Value} {p a : Nat} (hk : AllK key ws) (hp : Hp key p ws) (ha : Rc (ltK key) ws p a) : ∀ b, Rc (ltK key) ws p b → a ≤ b → ltK key (nth ws b) (nth ws a) = some false := by
  intro b
  induction b using Nat.strongRecOn with
  | ind b ih =>
    intro hb hab
    by_cases e : a = b
    · rw [e]; exact lt_self (hk _ (nth_mem hb.inb))
    · have hbp : b ≠ p := fun q => by have := ha.ge; (first | lia | omega)
      obtain ⟨h1, h2, h3, h4⟩ := hb.prev hbp
      have hle : a ≤ (b - 1) / 2 := by
        rcases Nat.lt_or_ge ((b - 1) / 2) a with q | q
        · have := (h1.chain ha q).1; (first | lia | omega)
        · exact q
      exact lt_ff (hp b (by (first | lia | omega)) hb.inb (by have := h1.ge; (first | lia | omega))) (ih _ h3 h1 hle)
theorem fin_key {ws W : List Value} {p q : Nat} (hF : Fin' (ltK key) ws p (nth ws) (nth ws p) q W) (P : Nat → Value → Prop) (h1 : ∀ k, k < ws.length → P k (nth ws k)) (h2 : P q (nth ws p)) (h3 : ∀ k, Rc (ltK key) ws p k → k < q → P k (nth ws (nx (ltK key) ws k))) : ∀ k, k < ws.length → P k (nth W k) := by
  intro k hk
  rw [hF.2 k hk]
  by_cases e : k = q
  · rw [if_pos e, e]; exact h2
  · rw [if_neg e]
    by_cases r : Rc (ltK key) ws p k ∧ k < q
    · rw [sh_up r.1 r.2]; exact h3 k r.1 r.2
    · by_cases r1 : Rc (ltK key) ws p k
      · rw [sh_ge (by have : ¬ k < q := fun z => r ⟨r1, z⟩; (first | lia | omega))]; exact h1 k hk
      · rw [sh_off r1]; exact h1 k hk
theorem key_le {u v : Value} {x y : Int} (h : ltK key u v = some false) (hu : key u = some x) (hv : key v = some y) : y ≤ x := by
  unfold ltK at h; rw [hu, hv] at h
  simpa using h
theorem le_key {u v : Value} {x y : Int} (hu : key u = some x) (hv : key v = some y) (h : y ≤ x) : ltK key u v = some false := by
  unfold ltK; rw [hu, hv]; simpa using h
theorem key_some {ws : List Value} (hk : AllK key ws) {i : Nat} (hi : i < ws.length) : ∃ x, key (nth ws i) = some x := Option.ne_none_iff_exists'.mp (hk _ (nth_mem hi))

/-- a call from a place that is right already leaves the numbers -/
theorem su_same {ws : List Value} {p : Nat} (hk : AllK key ws) (hl : p < ws.length) (hp : Hp key p ws) : Eqk key (suT (ltK key) ws p) ws := by
  obtain ⟨W, q, e, hF, hq, hs1, hs2⟩ := whole_spec hk hl
  have hW : suT (ltK key) ws p = W := by rw [suT, e]
  rw [hW]
  have S := Rc.start (lt := ltK key) hl
  have all : ∀ r, Rc (ltK key) ws p r → r ≤ q → key (nth ws r) = key (nth ws p) := by
    intro r hr hrq
    obtain ⟨x, hx⟩ := key_some hk hl
    obtain ⟨y, hy⟩ := key_some hk hr.inb
    obtain ⟨z, hz⟩ := key_some hk hq.inb
    have a1 := key_le (way_mono hk hp S r hr hr.ge) hy hx
    rcases hs1 with h | h
    · have : r = p := by have := hr.ge; (first | lia | omega)
      rw [this]
    · have a2 := key_le h hx hz
      have a3 := key_le (way_mono hk hp hr q hq hrq) hz hy
      rw [hx, hy]; congr 1; (first | lia | omega)
  refine ⟨hF.1, fun i => ?_⟩
  by_cases hi : i < ws.length
  · refine fin_key hF (fun k v => key v = key (nth ws k)) (fun _ _ => rfl) (all q hq (Nat.le_refl _)).symm (fun k hr hkq => ?_) i hi
    obtain ⟨c1, c2⟩ := hr.chain hq hkq
    rw [all _ (hr.next c2) c1, all k hr (by (first | lia | omega))]
  · unfold nth
    rw [List.getD_eq_getElem?_getD, List.getD_eq_getElem?_getD, List.getElem?_eq_none (by rw [hF.1]; (first | lia | omega)), List.getElem?_eq_none (by (first | lia | omega))]

/-- no place falls below what it was -/
def GE (key : Value → Option Int) (ol : Nat → Int) (ws : List Value) : Prop := ∀ i, i < ws.length → ∃ x, key (nth ws i) = some x ∧ ol i ≤ x
theorem su_ge {ol : Nat → Int} {ws : List Value} {p : Nat} (hk : AllK key ws) (hl : p < ws.length) (ho : ∀ k, 0 < k → k < ws.length → ol ((k - 1) / 2) ≤ ol k) (g : GE key ol ws) : GE key ol (suT (ltK key) ws p) := by
  obtain ⟨W, q, e, hF, hq, hs1, hs2⟩ := whole_spec hk hl
  have hW : suT (ltK key) ws p = W := by rw [suT, e]
  rw [hW]
  intro i hi
  rw [hF.1] at hi
  refine fin_key hF (fun k v => ∃ x, key v = some x ∧ ol k ≤ x) g ?_ (fun k hr hkq => ?_) i hi
  · obtain ⟨x, hx, h⟩ := g p hl
    refine ⟨x, hx, ?_⟩
    rcases hs1 with h' | h'
    · rw [h']; exact h
    · obtain ⟨z, hz, h2⟩ := g q hq.inb
      have := key_le h' hx hz
      (first | lia | omega)
  · obtain ⟨c1, c2⟩ := hr.chain hq hkq
    obtain ⟨x, hx, h⟩ := g _ (nx_lt (lt := ltK key) c2)
    refine ⟨x, hx, ?_⟩
    have := ho _ (by have := nx_gt (lt := ltK key) (ws := ws) k; (first | lia | omega)) (nx_lt (lt := ltK key) c2)
    rw [nx_par] at this
    (first | lia | omega)
theorem su_leaf {ws : List Value} {p : Nat} (hl : p < ws.length) (h : ws.length ≤ 2 * p + 1) : suT (ltK key) ws p = ws := by
  have e1 : suLoop (ltK key) ws p = .ok (ws, p) := by rw [suLoop, if_neg (by (first | lia | omega))]
  have e2 : ∀ vs : List Value, ws.set p (nth ws p) = vs → siftdown (ltK key) vs p p = .ok (vs.set p (nth vs p)) := by
    intro vs _
    unfold siftdown
    rw [sdLoop, if_neg (by (first | lia | omega))]
  have e3 : ws.set p (nth ws p) = ws := by
    refine ext_nth (by rw [List.length_set]) fun k _ => ?_
    rw [nth_set hl]
    by_cases q : k = p
    · rw [if_pos q, q]
    · rw [if_neg q]
  unfold suT siftup
  rw [e1]
  dsimp only
  rw [e2 _ rfl, e3]
  dsimp only
  exact e3

/-- at one of the places or below one -/
def Nr (R : Nat → Bool) : Nat → Bool
  | 0 => R 0
  | k + 1 => R (k + 1) || Nr R (k / 2)
theorem Nr.of {R : Nat → Bool} {k : Nat} (h : R k = true) : Nr R k = true := by cases k <;> simp [Nr, h]
theorem Nr.up {R : Nat → Bool} {k : Nat} (h0 : 0 < k) (h : Nr R ((k - 1) / 2) = true) : Nr R k = true := by
  obtain ⟨j, rfl⟩ : ∃ j, k = j + 1 := ⟨k - 1, by (first | lia | omega)⟩
  rw [Nr]; simp at h; rw [h]; simp
theorem Nr.way {R : Nat → Bool} {ws : List Value} {p : Nat} {lt : Cmp} (h : R p = true) : ∀ k, Rc lt ws p k → Nr R k = true := by
  intro k
  induction k using Nat.strongRecOn with
  | ind k ih =>
    intro hr
    by_cases e : k = p
    · rw [e]; exact Nr.of h
    · obtain ⟨h1, h2, h3, h4⟩ := hr.prev e
      exact Nr.up (by (first | lia | omega)) (ih _ h3 h1)

def sweep (lt : Cmp) (R : Nat → Bool) : Nat → List Value → List Value
  | 0, ws => ws
  | k + 1, ws => sweep lt R k (if R k then suT lt ws k else ws)

theorem sweep_all {R : Nat → Bool} {ol : Nat → Int} {vs : List Value} (ho : ∀ k, 0 < k → k < vs.length → ol ((k - 1) / 2) ≤ ol k) (hR : ∀ i, i < vs.length → R i = false → key (nth vs i) = some (ol i)) :
    ∀ (k : Nat) (ws fs : List Value), k ≤ vs.length → ws.length = vs.length → AllK key ws → GE key ol ws → (∀ i, i < k → nth ws i = nth vs i) → (∀ i, i < vs.length → Nr R i = false → nth ws i = nth vs i) → Hp key k ws → Inj ws → (∀ v ∈ ws, v ∈ vs) → Eqk key ws fs → AllK key fs →
      (sweep (ltK key) R k ws).length = vs.length ∧ Hp key 0 (sweep (ltK key) R k ws) ∧ Inj (sweep (ltK key) R k ws) ∧ (∀ v ∈ sweep (ltK key) R k ws, v ∈ vs) ∧ Eqk key (sweep (ltK key) R k ws) (hfyN (ltK key) (min k (vs.length / 2)) fs) ∧ (∀ i, i < vs.length → Nr R i = false → nth (sweep (ltK key) R k ws) i = nth vs i) := by
  intro k
  induction k with
  | zero =>
    intro ws fs _ hl hk g hu hn hp hi hm he hf
    refine ⟨hl, hp, hi, hm, ?_, hn⟩
    rw [Nat.zero_min]; exact he
  | succ k ih =>
    intro ws fs hkl hl hk g hu hn hp hi hm he hf
    rw [sweep]
    by_cases leaf : vs.length ≤ 2 * k + 1
    · have hmin : min (k + 1) (vs.length / 2) = min k (vs.length / 2) := by (first | lia | omega)
      have hst : (if R k = true then suT (ltK key) ws k else ws) = ws := by
        by_cases q : R k = true
        · rw [if_pos q, su_leaf (by (first | lia | omega)) (by (first | lia | omega))]
        · rw [if_neg q]
      rw [hst, hmin]
      refine ih ws fs (by (first | lia | omega)) hl hk g (fun i h => hu i (by (first | lia | omega))) hn (fun j j0 jb jp => ?_) hi hm he hf
      exact hp j j0 jb (by (first | lia | omega))
    · have hmin : min (k + 1) (vs.length / 2) = k + 1 := by (first | lia | omega)
      have hmin' : min k (vs.length / 2) = k := by (first | lia | omega)
      rw [hmin, hfyN]
      rw [hmin'] at ih
      have hfl : fs.length = vs.length := he.1.symm.trans hl
      obtain ⟨t1, t2, t3⟩ := siftup_suT (pos := k) hk (by (first | lia | omega))
      obtain ⟨f1, f2, f3⟩ := siftup_suT (pos := k) hf (by (first | lia | omega))
      have hf' : AllK key (suT (ltK key) fs k) := fun v hv => hf v (f3 v hv)
      by_cases q : R k = true
      · rw [if_pos q]
        obtain ⟨W, qq, e, hF, hq, hs1, hs2⟩ := whole_spec hk (st := k) (by (first | lia | omega))
        have hW : suT (ltK key) ws k = W := by rw [suT, e]
        have off : ∀ i, i < vs.length → ¬ Rc (ltK key) ws k i → nth (suT (ltK key) ws k) i = nth ws i := fun i h1 h2 => by
          rw [hW, hF.2 i (by (first | lia | omega)), if_neg (fun z => h2 (by rw [z]; exact hq)), sh_off h2]
        refine ih _ _ (by (first | lia | omega)) (t2.trans hl) (fun v hv => hk v (t3 v hv)) (su_ge hk (by (first | lia | omega)) (fun j j0 jb => ho j j0 (by (first | lia | omega))) g) (fun i h => ?_) (fun i h1 h2 => ?_) (su_heap hk (by (first | lia | omega)) hp t1) (su_inj hk (by (first | lia | omega)) hi t1) (fun v hv => hm v (t3 v hv)) (suT_eq he (by (first | lia | omega))) hf'
        · rw [off i (by (first | lia | omega)) (fun z => by have := z.ge; (first | lia | omega))]; exact hu i (by (first | lia | omega))
        · rw [off i h1 (fun z => by rw [Nr.way q i z] at h2; cases h2)]; exact hn i h1 h2
      · rw [if_neg q]
        have hpk : Hp key k ws := by
          intro j j0 jb jp
          by_cases e : (j - 1) / 2 = k
          · rw [e, hu k (by (first | lia | omega))]
            obtain ⟨x, hx, h⟩ := g j jb
            refine le_key hx (hR k (by (first | lia | omega)) (by simpa using q)) ?_
            have := ho j j0 (by (first | lia | omega))
            rw [e] at this
            (first | lia | omega)
          · exact hp j j0 jb (by (first | lia | omega))
        refine ih ws _ (by (first | lia | omega)) hl hk g (fun i h => hu i (by (first | lia | omega))) hn hpk hi hm ?_ hf'
        exact (su_same hk (by (first | lia | omega)) hpk).symm.trans (suT_eq he (by (first | lia | omega)))

/-- the round -/
theorem round_all {R : Nat → Bool} {ol : Nat → Int} {vs fs : List Value} (ho : ∀ k, 0 < k → k < vs.length → ol ((k - 1) / 2) ≤ ol k) (hR : ∀ i, i < vs.length → R i = false → key (nth vs i) = some (ol i)) (hk : AllK key vs) (g : GE key ol vs) (hi : Inj vs) (he : Eqk key vs fs) (hf : AllK key fs) :
    (sweep (ltK key) R vs.length vs).length = vs.length ∧ Hp key 0 (sweep (ltK key) R vs.length vs) ∧ Inj (sweep (ltK key) R vs.length vs) ∧ (∀ v ∈ sweep (ltK key) R vs.length vs, v ∈ vs) ∧ Eqk key (sweep (ltK key) R vs.length vs) (hfy (ltK key) fs) ∧ (∀ i, i < vs.length → Nr R i = false → nth (sweep (ltK key) R vs.length vs) i = nth vs i) := by
  have := sweep_all ho hR vs.length vs fs (Nat.le_refl _) rfl hk g (fun _ _ => rfl) (fun _ _ _ => rfl) (fun k k0 kb kp => by (first | lia | omega)) hi (fun _ h => h) he hf
  rw [show min vs.length (vs.length / 2) = fs.length / 2 by rw [← he.1]; (first | lia | omega)] at this
  exact this
/-- the places from the last to the first -/
theorem sweep_foldl {lt : Cmp} {R : Nat → Bool} : ∀ (n : Nat) (ws : List Value), (((List.range n).filter R).reverse).foldl (fun a p => suT lt a p) ws = sweep lt R n ws
  | 0, ws => rfl
  | n + 1, ws => by
    rw [List.range_succ, List.filter_append, List.reverse_append, List.foldl_append, sweep]
    by_cases h : R n = true
    · rw [if_pos h]
      have : [n].filter R = [n] := by simp [h]
      rw [this]
      exact sweep_foldl n _
    · rw [if_neg h]
      have : [n].filter R = [] := by simp [h]
      rw [this]
      exact sweep_foldl n _
end
end Mine
end PartP4
section PartV1
set_option maxHeartbeats 400000
namespace Mine
section
variable {prog : Program} {w : World} {A : Around} {E : Value → Shared → Prop}
end

theorem add_two {prog : Program} {w : World} {A : Around} {E : Value → Shared → Prop} {s : Shared} {l b : Addr} {vs ws : List Value} {Q : Value → Shared → Prop} (hl : s.heap.IsList l vs.toArray) (hb : s.heap.IsList b ws.toArray) (hsz : vs.length + ws.length ≤ 2 ^ 20)
    (h : ∀ s' D, Go s s' → D = s.heap.objs.size → s'.heap.PlainList D (vs ++ ws).toArray → Ch [] s.heap s'.heap → Q (.ref D) s') : wpAny (model prog w) A (binaryOp .Add (.ref l) (.ref b)) Q E s := by
  obtain ⟨⟨cls, dd, data, sl⟩, ho, hc, n, hd⟩ := id hl
  obtain ⟨⟨cls2, dd2, data2, sl2⟩, ho2, hc2, n2, hd2⟩ := id hb
  simp only at hc hd hc2 hd2
  subst hc hd hc2 hd2
  refine concat_meets ⟨_, ho, rfl⟩ ⟨_, ho2, rfl⟩ noFill_list_add seq_list_add PySem.F.slot_list_add PySem.F.entry_list_add (PySem.F.args_list_add_2 _ _) (list_addW l b vs.toArray ws.toArray n n2 dd dd2 sl sl2 (by rw [sizeLine_eq]; simp; (first | lia | omega))) ⟨ho, ho2, ?_⟩
  exact h _ _ ⟨_, _, rfl⟩ rfl ⟨0, by simpa using Heap.get?_push_size s.heap (o := { cls := .type "list", data := .seq (vs.toArray ++ ws.toArray) }) rfl⟩ Ch.push


theorem Ch.skip {X Y : List Addr} {h h' h'' : Heap} (a : Ch X h h') (c : Ch Y h' h'') (n : ∀ b ∈ Y, b ∈ X ∨ h.get? b = none) : Ch X h h'' := fun b o nb e =>
  c b o (fun m => by rcases n b m with q | q
                     · exact nb q
                     · rw [q] at e; cases e) (a b o nb e)
theorem Ch.fresh {X : List Addr} {h h' : Heap} (a : Ch X h h') {D : Addr} (hD : h'.get? D = none) (n : D ∉ X) : h.get? D = none := by
  cases q : h.get? D with
  | none => rfl
  | some o => rw [a D o n q] at hD; cases hD
theorem at_skip {bs : List (Str × Value)} {x y : Str} {u v : Value} (n : x ≠ y) (h : At bs x v) : At ((y, u) :: bs) x v := by
  show List.lookup x ((y, u) :: bs) = some v
  rw [List.lookup_cons, beq_false_of_ne n]
  exact h


theorem ls_nf {h₀ h : Heap} {a L : Addr} {items : Array Value} {bs : List (Str × Value)} (l : h.IsList a items) (p : Fm h₀ L bs h) : a ≠ L := fun q => by
  obtain ⟨o, e, _, n, d⟩ := l
  obtain ⟨o', _, _, e', d'⟩ := p.frm
  rw [q, e'] at e; cases e
  rw [d] at d'; cases d'
theorem ls_nn {h : Heap} {a b : Addr} {items : Array Value} (l : h.IsList a items) (c : h.get? b = none) : a ≠ b := fun q => by
  obtain ⟨o, e, _⟩ := l
  rw [q, c] at e; cases e
theorem Kd.nf {h₀ h : Heap} {key : Value → Option Int} {v : Value} {L : Addr} {bs : List (Str × Value)} (k : Kd h key v) (c : Fm h₀ L bs h) : v ≠ .ref L := by
  obtain ⟨a, _, _, rfl, _, l⟩ := k
  intro e; cases e; exact ls_nf l c rfl
theorem Kd.nn {h : Heap} {key : Value → Option Int} {v : Value} {b : Addr} (k : Kd h key v) (c : h.get? b = none) : v ≠ .ref b := by
  obtain ⟨a, _, _, rfl, _, l⟩ := k
  intro e; cases e; exact ls_nn l c rfl
theorem get_none {h : Heap} {D : Addr} (q : h.objs.size ≤ D) : h.get? D = none := Heap.get?_none_of_le q
/-! what stands in a row stood there before -/
end Mine
end PartV1
section PartS1
set_option maxHeartbeats 400000
namespace Mine
def gallopG : Bool → Keyed → Array Keyed → Nat → Nat → Nat → StateT SortSt Sem (Option Nat) := sortPriv% PySem.Builtin.gallop
section
variable {prog : Program} {w : World} {A : Around} {E : Value → Shared → Prop} {s : Shared}
theorem lt_pair {st : SortSt} {x y : Keyed} {a b : Int} {t u : Tok} {Q : Option Bool → SortSt → Prop} (hk : kindOf st = oneType') (hx : x.1 = .int a t) (hy : y.1 = .int b u) (h : Q (some (decide (a < b))) st) :
    wpS (model prog w) A E s (lt' x y) Q st := by
  rw [lt'_eq]
  refine wpS_bind (wpS_get ?_)
  rw [hk, keyLt'_oneType, hx, hy]
  refine wpS_bind (wpS_lift (wpAny_attempt (oneLt_int ⟨rfl, ?_⟩)))
  exact wpS_pure h
theorem elem_at {st : SortSt} {arr : Array Keyed} {i : Nat} {Q : Keyed → SortSt → Prop} (hi : i < arr.size) (h : Q arr[i] st) : wpS (model prog w) A E s (elem' arr i) Q st := by
  rw [elem'_eq, getElem?_pos arr i hi]
  exact wpS_pure h
theorem K_int {arr : Array Keyed} (ha : IntKeys arr) {i : Nat} (hi : i < arr.size) : ∃ t, (arr[i]).1 = .int (K arr i) t := by
  obtain ⟨n, t, e⟩ := ha arr[i] (by simp)
  refine ⟨t, ?_⟩
  unfold K
  rw [getElem?_pos arr i hi, e]
  simp only
  rw [e]; rfl
/-- the answer at a place -/
def bey (left : Bool) (x : Int) (arr : Array Keyed) (base i : Nat) : Bool := if left then decide (K arr (base + i) < x) else !decide (x < K arr (base + i))
theorem bey_mono {left : Bool} {x : Int} {arr : Array Keyed} {base n : Nat} (hs : ∀ i j, i ≤ j → j < n → K arr (base + i) ≤ K arr (base + j)) {i j : Nat} (hij : i ≤ j) (hj : j < n) (h : bey left x arr base j = true) : bey left x arr base i = true := by
  have := hs i j hij hj
  unfold bey at h ⊢
  cases left with
  | true => simp at h ⊢; (first | lia | omega)
  | false => simp at h ⊢; (first | lia | omega)
theorem gal {left : Bool} {key : Keyed} {arr : Array Keyed} {base n hint : Nat} {x : Int} {tx : Tok} {st : SortSt} {Q : Option Nat → SortSt → Prop} (hk : kindOf st = oneType') (ha : IntKeys arr) (hx : key.1 = .int x tx) (hn : base + n ≤ arr.size) (hh : hint < n)
    (hs : ∀ i j, i ≤ j → j < n → K arr (base + i) ≤ K arr (base + j))
    (h : ∀ k, k ≤ n → (∀ i, i < k → bey left x arr base i = true) → (∀ i, k ≤ i → i < n → bey left x arr base i = false) → Q (some k) st) :
    wpS (model prog w) A E s (gallopG left key arr base n hint) Q st := by
  unfold gallopG
  have asks : ∀ {α : Type} (i : Nat) (hi : base + i < arr.size) {f : Option Bool → StateT SortSt Sem α} {R : α → SortSt → Prop}, wpS (model prog w) A E s (f (some (bey left x arr base i))) R st →
      wpS (model prog w) A E s (if left = true then lt' arr[base + i] key else (lt' key arr[base + i] >>= fun r => pure (Option.map (fun z => !z) r))) (fun r st' => wpS (model prog w) A E s (f r) R st') st := by
    intro α i hi f R hf
    obtain ⟨t, e⟩ := K_int ha hi
    unfold bey at hf
    cases left with
    | true =>
      simp only [if_true] at hf ⊢
      exact lt_pair hk e hx hf
    | false =>
      simp only [Bool.false_eq_true, if_false] at hf ⊢
      exact wpS_bind (lt_pair hk hx e (wpS_pure hf))
  have anti : ∀ {i j}, i ≤ j → j < n → bey left x arr base j = true → bey left x arr base i = true := fun a b c => bey_mono hs a b c
  refine wpS_bind ?_
  refine wpS_bind (elem_at (i := base + hint) (by (first | lia | omega)) ?_)
  refine asks hint (by (first | lia | omega)) ?_
  dsimp only
  cases hr : bey left x arr base hint with
  | true =>
    simp only [if_true]
    refine wpS_bind (wpS_mono (wpS_forRange (I := fun i c st' => st = st' ∧ ∃ last ofs, c = (none, last, ofs) ∧ i + 1 ≤ ofs ∧ last < ofs ∧ (hint + last < n ∧ bey left x arr base (hint + last) = true))
      (Q := fun c st' => st = st' ∧ ∃ last ofs, c = (none, last, ofs) ∧ last < ofs ∧ (hint + last < n ∧ bey left x arr base (hint + last) = true) ∧ (n - hint ≤ ofs ∨ (hint + ofs < n ∧ bey left x arr base (hint + ofs) = false))) ?_ ?_ ?_) ?_)
    · rintro i c st' _ hi ⟨rfl, last, ofs, rfl, q1, q2, q3, q4⟩
      dsimp only
      by_cases hge : ofs ≥ n - hint
      · rw [if_pos hge]
        exact wpS_pure ⟨rfl, last, ofs, rfl, q2, ⟨q3, q4⟩, .inl hge⟩
      · rw [if_neg hge]
        refine wpS_bind ?_
        refine wpS_bind (elem_at (i := base + (hint + ofs)) (by (first | lia | omega)) ?_)
        refine asks (hint + ofs) (by (first | lia | omega)) ?_
        dsimp only
        cases hm : bey left x arr base (hint + ofs) with
        | true =>
          simp only [Bool.not_true, Bool.false_eq_true, if_false]
          exact wpS_pure ⟨rfl, _, _, rfl, by (first | lia | omega), by (first | lia | omega), by (first | lia | omega), hm⟩
        | false =>
          simp only [Bool.not_false, if_true]
          exact wpS_pure ⟨rfl, _, _, rfl, q2, ⟨q3, q4⟩, .inr ⟨by (first | lia | omega), hm⟩⟩
    · rintro c st' ⟨rfl, last, ofs, rfl, q1, q2, q3, q4⟩
      exact ⟨rfl, last, ofs, rfl, q2, ⟨q3, q4⟩, .inl (by (first | lia | omega))⟩
    · exact ⟨rfl, 0, 1, rfl, by (first | lia | omega), by (first | lia | omega), by (first | lia | omega), hr⟩
    · rintro c st' ⟨rfl, last, ofs, rfl, q2, ⟨q3, q4⟩, q5⟩
      dsimp only
      have L1 : ∀ j, j < hint + last + 1 → bey left x arr base j = true := fun j hj => anti (j := hint + last) (by (first | lia | omega)) q3 q4
      have L2 : ∀ j, hint + min ofs (n - hint) ≤ j → j < n → bey left x arr base j = false := fun j h1 h2 => by
        rcases q5 with q | ⟨q, q'⟩
        · (first | lia | omega)
        · cases hj : bey left x arr base j with
          | false => rfl
          | true => rw [anti (i := hint + ofs) (by (first | lia | omega)) h2 hj] at q'; cases q'
      have H1 : hint + last + 1 ≤ hint + min ofs (n - hint) := by (first | lia | omega)
      have H2 : hint + min ofs (n - hint) ≤ n := by (first | lia | omega)
      refine wpS_bind (wpS_mono (wpS_forRange (I := fun i c st' => st = st' ∧ ∃ lo hi, c = (none, lo, hi) ∧ lo ≤ hi ∧ hi ≤ n ∧ hi - lo ≤ n - i ∧ (∀ j, j < lo → bey left x arr base j = true) ∧ (∀ j, hi ≤ j → j < n → bey left x arr base j = false))
        (Q := fun c st' => st = st' ∧ ∃ hi, c = (none, hi, hi) ∧ hi ≤ n ∧ (∀ j, j < hi → bey left x arr base j = true) ∧ (∀ j, hi ≤ j → j < n → bey left x arr base j = false)) ?_ ?_ ?_) ?_)
      · rintro i c st' _ hi ⟨rfl, lo, hi', rfl, q1, q2, q3, q4, q5⟩
        dsimp only
        by_cases hge : lo ≥ hi'
        · rw [if_pos hge]
          have : lo = hi' := by (first | lia | omega)
          subst this
          exact wpS_pure ⟨rfl, lo, rfl, q2, q4, q5⟩
        · rw [if_neg hge]
          refine wpS_bind ?_
          refine wpS_bind (elem_at (i := base + (lo + (hi' - lo) / 2)) (by (first | lia | omega)) ?_)
          refine asks (lo + (hi' - lo) / 2) (by (first | lia | omega)) ?_
          dsimp only
          cases hm : bey left x arr base (lo + (hi' - lo) / 2) with
          | true =>
            simp only [if_true]
            exact wpS_pure ⟨rfl, _, _, rfl, by (first | lia | omega), q2, by (first | lia | omega), fun j hj => anti (j := lo + (hi' - lo) / 2) (by (first | lia | omega)) (by (first | lia | omega)) hm, q5⟩
          | false =>
            simp only [Bool.false_eq_true, if_false]
            refine wpS_pure ⟨rfl, _, _, rfl, by (first | lia | omega), by (first | lia | omega), by (first | lia | omega), q4, fun j h1 h2 => ?_⟩
            cases hj : bey left x arr base j with
            | false => rfl
            | true => rw [anti h1 h2 hj] at hm; cases hm
      · rintro c st' ⟨rfl, lo, hi', rfl, q1, q2, q3, q4, q5⟩
        have : lo = hi' := by (first | lia | omega)
        subst this
        exact ⟨rfl, lo, rfl, q2, q4, q5⟩
      · exact ⟨rfl, _, _, rfl, H1, H2, by (first | lia | omega), L1, L2⟩
      · rintro c st' ⟨rfl, hi', rfl, q2, q4, q5⟩
        dsimp only
        exact wpS_pure (h hi' q2 q4 q5)
  | false =>
    simp only [Bool.false_eq_true, if_false]
    refine wpS_bind (wpS_mono (wpS_forRange (I := fun i c st' => st = st' ∧ ∃ last ofs, c = (none, last, ofs) ∧ i + 1 ≤ ofs ∧ last < ofs ∧ last ≤ hint ∧ bey left x arr base (hint - last) = false)
      (Q := fun c st' => st = st' ∧ ∃ last ofs, c = (none, last, ofs) ∧ last < ofs ∧ last ≤ hint ∧ bey left x arr base (hint - last) = false ∧ (hint + 1 ≤ ofs ∨ (ofs ≤ hint ∧ bey left x arr base (hint - ofs) = true))) ?_ ?_ ?_) ?_)
    · rintro i c st' _ hi ⟨rfl, last, ofs, rfl, q1, q2, q3, q4⟩
      dsimp only
      by_cases hge : ofs ≥ hint + 1
      · rw [if_pos hge]
        exact wpS_pure ⟨rfl, last, ofs, rfl, q2, q3, q4, .inl hge⟩
      · rw [if_neg hge]
        refine wpS_bind ?_
        refine wpS_bind (elem_at (i := base + (hint - ofs)) (by (first | lia | omega)) ?_)
        refine asks (hint - ofs) (by (first | lia | omega)) ?_
        dsimp only
        cases hm : bey left x arr base (hint - ofs) with
        | true =>
          simp only [if_true]
          exact wpS_pure ⟨rfl, _, _, rfl, q2, q3, q4, .inr ⟨by (first | lia | omega), hm⟩⟩
        | false =>
          simp only [Bool.false_eq_true, if_false]
          exact wpS_pure ⟨rfl, _, _, rfl, by (first | lia | omega), by (first | lia | omega), by (first | lia | omega), hm⟩
    · rintro c st' ⟨rfl, last, ofs, rfl, q1, q2, q3, q4⟩
      exact ⟨rfl, last, ofs, rfl, q2, q3, q4, .inl (by (first | lia | omega))⟩
    · exact ⟨rfl, 0, 1, rfl, by (first | lia | omega), by (first | lia | omega), by (first | lia | omega), hr⟩
    · rintro c st' ⟨rfl, last, ofs, rfl, q2, q3, q4, q5⟩
      dsimp only
      have L1 : ∀ j, j < hint + 1 - min ofs (hint + 1) → bey left x arr base j = true := fun j hj => by
        rcases q5 with q | ⟨q, q'⟩
        · (first | lia | omega)
        · exact anti (j := hint - ofs) (by (first | lia | omega)) (by (first | lia | omega)) q'
      have L2 : ∀ j, hint - last ≤ j → j < n → bey left x arr base j = false := fun j h1 h2 => by
        cases hj : bey left x arr base j with
        | false => rfl
        | true => rw [anti h1 h2 hj] at q4; cases q4
      have H1 : hint + 1 - min ofs (hint + 1) ≤ hint - last := by (first | lia | omega)
      have H2 : hint - last ≤ n := by (first | lia | omega)
      refine wpS_bind (wpS_mono (wpS_forRange (I := fun i c st' => st = st' ∧ ∃ lo hi, c = (none, lo, hi) ∧ lo ≤ hi ∧ hi ≤ n ∧ hi - lo ≤ n - i ∧ (∀ j, j < lo → bey left x arr base j = true) ∧ (∀ j, hi ≤ j → j < n → bey left x arr base j = false))
        (Q := fun c st' => st = st' ∧ ∃ hi, c = (none, hi, hi) ∧ hi ≤ n ∧ (∀ j, j < hi → bey left x arr base j = true) ∧ (∀ j, hi ≤ j → j < n → bey left x arr base j = false)) ?_ ?_ ?_) ?_)
      · rintro i c st' _ hi ⟨rfl, lo, hi', rfl, q1, q2, q3, q4, q5⟩
        dsimp only
        by_cases hge : lo ≥ hi'
        · rw [if_pos hge]
          have : lo = hi' := by (first | lia | omega)
          subst this
          exact wpS_pure ⟨rfl, lo, rfl, q2, q4, q5⟩
        · rw [if_neg hge]
          refine wpS_bind ?_
          refine wpS_bind (elem_at (i := base + (lo + (hi' - lo) / 2)) (by (first | lia | omega)) ?_)
          refine asks (lo + (hi' - lo) / 2) (by (first | lia | omega)) ?_
          dsimp only
          cases hm : bey left x arr base (lo + (hi' - lo) / 2) with
          | true =>
            simp only [if_true]
            exact wpS_pure ⟨rfl, _, _, rfl, by (first | lia | omega), q2, by (first | lia | omega), fun j hj => anti (j := lo + (hi' - lo) / 2) (by (first | lia | omega)) (by (first | lia | omega)) hm, q5⟩
          | false =>
            simp only [Bool.false_eq_true, if_false]
            refine wpS_pure ⟨rfl, _, _, rfl, by (first | lia | omega), by (first | lia | omega), by (first | lia | omega), q4, fun j h1 h2 => ?_⟩
            cases hj : bey left x arr base j with
            | false => rfl
            | true => rw [anti h1 h2 hj] at hm; cases hm
      · rintro c st' ⟨rfl, lo, hi', rfl, q1, q2, q3, q4, q5⟩
        have : lo = hi' := by (first | lia | omega)
        subst this
        exact ⟨rfl, lo, rfl, q2, q4, q5⟩
      · exact ⟨rfl, _, _, rfl, H1, H2, by (first | lia | omega), L1, L2⟩
      · rintro c st' ⟨rfl, hi', rfl, q2, q4, q5⟩
        dsimp only
        exact wpS_pure (h hi' q2 q4 q5)
end
end Mine
end PartS1
section PartS2
set_option maxHeartbeats 400000
namespace Mine
/-! two sorted stretches, merged -/
def le' (x y : Keyed) : Prop := numOf x.1 ≤ numOf y.1
def Merged (a b r : Array Keyed) : Prop := r.toList.Perm (a.toList ++ b.toList) ∧ r.toList.Pairwise le'
structure MSt (a b out : Array Keyed) (ia ib : Nat) : Prop where
  perm : (out.toList ++ (a.toList.drop ia ++ b.toList.drop ib)).Perm (a.toList ++ b.toList)
  srt : out.toList.Pairwise le'
  le : ∀ x ∈ out.toList, ∀ y ∈ a.toList.drop ia ++ b.toList.drop ib, le' x y
theorem drop_at {a : Array Keyed} {i : Nat} (h : i < a.size) : a.toList.drop i = a[i] :: a.toList.drop (i + 1) := by
  rw [List.drop_eq_getElem_cons (by simpa using h)]; simp
theorem head_le {a : Array Keyed} {i : Nat} (h : i < a.size) (s : a.toList.Pairwise le') : ∀ y ∈ a.toList.drop (i + 1), le' a[i] y := by
  have := List.Pairwise.sublist (List.drop_sublist i a.toList) s
  rw [drop_at h] at this
  exact (List.pairwise_cons.mp this).1
theorem MSt.pushA {a b out : Array Keyed} {ia ib : Nat} (m : MSt a b out ia ib) (h : ia < a.size) (sA : a.toList.Pairwise le') (hb : ∀ y ∈ b.toList.drop ib, le' a[ia] y) : MSt a b (out.push a[ia]) (ia + 1) ib := by
  have e := drop_at h
  refine ⟨?_, ?_, ?_⟩
  · have := m.perm; rw [e] at this
    simpa [List.append_assoc] using this
  · rw [Array.toList_push, List.pairwise_append]
    refine ⟨m.srt, List.pairwise_singleton _ _, fun x hx y hy => ?_⟩
    rw [List.mem_singleton.mp hy]
    exact m.le x hx _ (by rw [e]; simp)
  · intro x hx y hy
    rw [Array.toList_push] at hx
    rcases List.mem_append.mp hx with hx | hx
    · exact m.le x hx y (by
        rw [e]
        rcases List.mem_append.mp hy with hy | hy
        · simp [hy]
        · simp [hy])
    · rw [List.mem_singleton.mp hx]
      rcases List.mem_append.mp hy with hy | hy
      · exact head_le h sA y hy
      · exact hb y hy
theorem MSt.pushB {a b out : Array Keyed} {ia ib : Nat} (m : MSt a b out ia ib) (h : ib < b.size) (sB : b.toList.Pairwise le') (ha : ∀ y ∈ a.toList.drop ia, le' b[ib] y) : MSt a b (out.push b[ib]) ia (ib + 1) := by
  have e := drop_at h
  refine ⟨?_, ?_, ?_⟩
  · have := m.perm; rw [e] at this
    refine List.Perm.trans ?_ this
    rw [Array.toList_push, List.append_assoc]
    refine List.Perm.append_left _ ?_
    rw [List.singleton_append]
    exact List.perm_middle.symm
  · rw [Array.toList_push, List.pairwise_append]
    refine ⟨m.srt, List.pairwise_singleton _ _, fun x hx y hy => ?_⟩
    rw [List.mem_singleton.mp hy]
    exact m.le x hx _ (by rw [e]; simp)
  · intro x hx y hy
    rw [Array.toList_push] at hx
    rcases List.mem_append.mp hx with hx | hx
    · exact m.le x hx y (by
        rw [e]
        rcases List.mem_append.mp hy with hy | hy
        · simp [hy]
        · simp [hy])
    · rw [List.mem_singleton.mp hx]
      rcases List.mem_append.mp hy with hy | hy
      · exact ha y hy
      · exact head_le h sB y hy
theorem extract_push {a : Array Keyed} {i k : Nat} (h : i + k < a.size) : a.extract i (i + (k + 1)) = (a.extract i (i + k)).push a[i + k] := by
  rw [← Nat.add_assoc, Array.push_extract_getElem]
  · rw [Nat.min_eq_left (by (first | lia | omega))]
theorem MSt.takeA {a b out : Array Keyed} {ia ib : Nat} (m : MSt a b out ia ib) (sA : a.toList.Pairwise le') : ∀ k, ia + k ≤ a.size → (∀ i (h : ia + i < a.size), i < k → ∀ y ∈ b.toList.drop ib, le' a[ia + i] y) → MSt a b (out ++ a.extract ia (ia + k)) (ia + k) ib
  | 0, _, _ => by rw [Nat.add_zero, Array.extract_empty_of_stop_le_start (Nat.le_refl _), Array.append_empty]; exact m
  | k + 1, hk, hb => by
    have := MSt.takeA m sA k (by (first | lia | omega)) (fun i h hi => hb i h (by (first | lia | omega)))
    rw [extract_push (by (first | lia | omega)), ← Array.push_append]
    exact this.pushA (by (first | lia | omega)) sA (hb k (by (first | lia | omega)) (by (first | lia | omega)))
theorem MSt.takeB {a b out : Array Keyed} {ia ib : Nat} (m : MSt a b out ia ib) (sB : b.toList.Pairwise le') : ∀ k, ib + k ≤ b.size → (∀ i (h : ib + i < b.size), i < k → ∀ y ∈ a.toList.drop ia, le' b[ib + i] y) → MSt a b (out ++ b.extract ib (ib + k)) ia (ib + k)
  | 0, _, _ => by rw [Nat.add_zero, Array.extract_empty_of_stop_le_start (Nat.le_refl _), Array.append_empty]; exact m
  | k + 1, hk, hb => by
    have := MSt.takeB m sB k (by (first | lia | omega)) (fun i h hi => hb i h (by (first | lia | omega)))
    rw [extract_push (by (first | lia | omega)), ← Array.push_append]
    exact this.pushB (by (first | lia | omega)) sB (hb k (by (first | lia | omega)) (by (first | lia | omega)))
theorem toList_rest (a : Array Keyed) (i : Nat) : (a.extract i a.size).toList = a.toList.drop i := by simp; exact List.take_of_length_le (by simp)
theorem MSt.done {a b out : Array Keyed} {ia ib : Nat} (m : MSt a b out ia ib) (sA : a.toList.Pairwise le') (sB : b.toList.Pairwise le') (h : ib = b.size ∨ ia = a.size) : Merged a b (out ++ a.extract ia a.size ++ b.extract ib b.size) := by
  refine ⟨?_, ?_⟩
  · rw [Array.toList_append, Array.toList_append, toList_rest, toList_rest, List.append_assoc]
    exact m.perm
  · rw [Array.toList_append, Array.toList_append, toList_rest, toList_rest, List.append_assoc, List.pairwise_append]
    refine ⟨m.srt, ?_, m.le⟩
    rcases h with h | h
    · rw [List.drop_eq_nil_of_le (i := ib) (by simp [h]), List.append_nil]
      exact List.Pairwise.sublist (List.drop_sublist _ _) sA
    · rw [List.drop_eq_nil_of_le (i := ia) (by simp [h]), List.nil_append]
      exact List.Pairwise.sublist (List.drop_sublist _ _) sB
theorem MSt.last {a b out : Array Keyed} {ia ib : Nat} (m : MSt a b out ia ib) (sB : b.toList.Pairwise le') (h : ia + 1 = a.size) (hl : ∀ y ∈ b.toList.drop ib, le' y a[ia]) : Merged a b (out ++ b.extract ib b.size ++ a.extract ia a.size) := by
  have e := drop_at (a := a) (i := ia) (by (first | lia | omega))
  rw [List.drop_eq_nil_of_le (i := ia + 1) (by simp [h])] at e
  have m1 := m.perm
  have m2 := m.le
  rw [e] at m1 m2
  refine ⟨?_, ?_⟩
  · rw [Array.toList_append, Array.toList_append, toList_rest, toList_rest, List.append_assoc, e]
    refine List.Perm.trans (List.Perm.append_left _ ?_) m1
    exact List.perm_append_comm
  · rw [Array.toList_append, Array.toList_append, toList_rest, toList_rest, List.append_assoc, e, List.pairwise_append]
    refine ⟨m.srt, ?_, fun x hx y hy => m2 x hx y ?_⟩
    · rw [List.pairwise_append]
      refine ⟨List.Pairwise.sublist (List.drop_sublist _ _) sB, List.pairwise_singleton _ _, fun x hx y hy => ?_⟩
      rw [List.mem_singleton.mp hy]; exact hl x hx
    · rcases List.mem_append.mp hy with q | q
      · exact List.mem_append_right _ q
      · exact List.mem_append_left _ q
/-- sorted by places, sorted as a list -/
theorem K_at {a : Array Keyed} {i : Nat} (h : i < a.size) : K a i = numOf a[i].1 := K_eq h
theorem srt_K {a : Array Keyed} (s : a.toList.Pairwise le') {i j : Nat} (hij : i ≤ j) (hj : j < a.size) : K a i ≤ K a j := by
  rw [K_at (show i < a.size by (first | lia | omega)), K_at hj]
  rcases Nat.lt_or_ge i j with h | h
  · have := List.pairwise_iff_getElem.mp s i j (by simp; (first | lia | omega)) (by simpa using hj) h
    unfold le' at this
    simpa using this
  · have : i = j := by (first | lia | omega)
    subst this; exact Int.le_refl _
theorem mem_drop_at {a : Array Keyed} {i : Nat} {y : Keyed} (h : y ∈ a.toList.drop i) : ∃ j, i ≤ j ∧ ∃ hj : j < a.size, y = a[j] := by
  obtain ⟨k, hk, e⟩ := List.mem_iff_getElem.mp h
  rw [List.getElem_drop] at e
  simp at hk
  exact ⟨i + k, by (first | lia | omega), by (first | lia | omega), by rw [← e]; simp⟩
def SameS (st st' : SortSt) : Prop := kindOf st' = kindOf st ∧ arrOf st' = arrOf st ∧ pendingOf st' = pendingOf st ∧ failedOf st' = failedOf st
theorem SameS.refl (st : SortSt) : SameS st st := ⟨rfl, rfl, rfl, rfl⟩
theorem SameS.trans {a b c : SortSt} (x : SameS a b) (y : SameS b c) : SameS a c := ⟨y.1.trans x.1, y.2.1.trans x.2.1, y.2.2.1.trans x.2.2.1, y.2.2.2.trans x.2.2.2⟩
end Mine
end PartS2
section PartS3
set_option maxHeartbeats 1000000
namespace Mine
def mergeLoG : Array Keyed → Array Keyed → StateT SortSt Sem (Array Keyed) := sortPriv% PySem.Builtin.mergeLo
theorem le_drop {a : Array Keyed} {c : Keyed} {i : Nat} (sA : a.toList.Pairwise le') (h : numOf c.1 ≤ K a i) : ∀ y ∈ a.toList.drop i, le' c y := by
  intro y hy
  obtain ⟨j, hij, hj, rfl⟩ := mem_drop_at hy
  have := srt_K sA hij hj
  rw [K_at hj] at this
  exact Int.le_trans h this
section
variable {prog : Program} {w : World} {A : Around} {E : Value → Shared → Prop} {s : Shared}
theorem wpS_jp1 {σ α : Type} {c : Nat → Prop} {inst : ∀ z, Decidable (c z)} {t e : Nat → StateT σ Sem α} {Q : α → σ → Prop} {st : σ} (ht : ∀ z, t z = e (z - 1)) (h : ∀ z, wpS (model prog w) A E s (e z) Q st) : ∀ z, wpS (model prog w) A E s (if c z then t z else e z) Q st := by
  intro z
  by_cases q : c z
  · rw [if_pos q, ht]; exact h _
  · rw [if_neg q]; exact h _
theorem wpS_jp2 {σ α X Y : Type} {c : X → Y → Prop} {inst : ∀ x y, Decidable (c x y)} {t e : X → Y → StateT σ Sem α} {x0 : X} {y0 : Y} {Q : α → σ → Prop} {st : σ} (P : X → Y → Prop) (hF : ∀ x y, P x y → wpS (model prog w) A E s (e x y) Q st)
    (h : (∀ x y, P x y → wpS (model prog w) A E s (e x y) Q st) → wpS (model prog w) A E s (if c x0 y0 then t x0 y0 else e x0 y0) Q st) : ∀ x y, x0 = x → y0 = y → wpS (model prog w) A E s (if c x y then t x y else e x y) Q st := by
  rintro x y rfl rfl
  exact h hF
theorem wpS_rule {σ : Type} {r : String} {Q : Unit → σ → Prop} {st : σ} (h : Q () st) : wpS (model prog w) A E s (liftM (rule r) : StateT σ Sem Unit) Q st := wpS_lift (wpAny_rule ⟨rfl, h⟩)
theorem wpS_mergeLo {a b : Array Keyed} {st : SortSt} {Q : Array Keyed → SortSt → Prop} (hk : kindOf st = oneType') (iA : IntKeys a) (iB : IntKeys b) (sA : a.toList.Pairwise le') (sB : b.toList.Pairwise le') (hA : 0 < a.size) (hB : 0 < b.size)
    (h0 : K b 0 ≤ K a 0) (hl : K b (b.size - 1) ≤ K a (a.size - 1)) (h : ∀ r st', SameS st st' → Merged a b r → Q r st') : wpS (model prog w) A E s (mergeLoG a b) Q st := by
  have lastLe : ∀ (ib : Nat) {ia : Nat} {hi : ia < a.size}, ia + 1 = a.size → ∀ y ∈ b.toList.drop ib, le' y a[ia] := by
    intro ib ia hi e y hy
    obtain ⟨j, hij, hj, rfl⟩ := mem_drop_at hy
    have := srt_K sB (show j ≤ b.size - 1 by (first | lia | omega)) (by (first | lia | omega))
    unfold le'
    rw [← K_at hj, ← K_at hi, show ia = a.size - 1 by (first | lia | omega)]
    (first | lia | omega)
  have lastLe : ∀ (ib : Nat) {ia : Nat} {hi : ia < a.size} (e : ia + 1 = a.size := by (first | lia | omega)), ∀ y ∈ b.toList.drop ib, le' y a[ia] := fun ib {ia} {hi} e => lastLe ib (hi := hi) e
  unfold mergeLoG
  refine wpS_bind (wpS_rule ?_)
  refine wpS_bind (elem_at hB ?_)
  dsimp only
  have M00 : MSt a b #[] 0 0 := ⟨by simp, by simp, by simp⟩
  have M1 : MSt a b #[b[0]] 0 1 := M00.pushB hB sB (le_drop sA (by rw [← K_at hB]; exact h0))
  by_cases e1 : 1 = b.size
  · rw [if_pos (by simpa using e1)]
    exact wpS_pure (h _ _ (SameS.refl _) (M1.done sA sB (.inl e1)))
  rw [if_neg (by simpa using e1)]
  by_cases e2 : 0 + 1 = a.size
  · rw [if_pos (by simpa using e2)]
    exact wpS_pure (h _ _ (SameS.refl _) (M1.last sB e2 (lastLe _)))
  rw [if_neg (by simpa using e2)]
  refine wpS_bind (wpS_get ?_)
  refine wpS_bind (wpS_mono (wpS_forRange (I := fun i c st' => ∃ out ia ib mg, c = (none, out, ia, ib, mg) ∧ (MSt a b out ia ib ∧ ia + 1 < a.size ∧ ib < b.size ∧ SameS st st') ∧ i + 1 ≤ ia + ib)
    (Q := fun c st' => ∃ r rest, c = (some r, rest) ∧ Merged a b r ∧ SameS st st') ?_ ?_ ?_) ?_)
  · rintro i c st1 _ hi ⟨out, ia, ib, mg, rfl, ⟨M, hia, hib, S1⟩, hm⟩
    dsimp only
    refine wpS_bind (wpS_mono (wpS_forRange (I := fun j c st' => ∃ out ia1 ib1 ac bc, c = (none, out, ia1, ib1, ac, bc) ∧ (MSt a b out ia1 ib1 ∧ ia1 + 1 < a.size ∧ ib1 < b.size ∧ SameS st st') ∧ ia + ib + j ≤ ia1 + ib1)
      (Q := fun c st' => (∃ r rest, c = (some r, rest) ∧ Merged a b r ∧ SameS st st') ∨ (∃ out ia1 ib1 ac bc, c = (none, out, ia1, ib1, ac, bc) ∧ (MSt a b out ia1 ib1 ∧ ia1 + 1 < a.size ∧ ib1 < b.size ∧ SameS st st') ∧ ia + ib + 1 ≤ ia1 + ib1)) ?_ ?_ ?_) ?_)
    · rintro j c st2 _ hj ⟨out, ia1, ib1, ac, bc, rfl, ⟨M, hia, hib, S2⟩, hm⟩
      dsimp only
      refine wpS_bind (elem_at (show ib1 < b.size by (first | lia | omega)) ?_)
      refine wpS_bind (elem_at (show ia1 < a.size by (first | lia | omega)) ?_)
      obtain ⟨tx, ex⟩ := K_int iB hib
      obtain ⟨ty, ey⟩ := K_int iA (show ia1 < a.size by (first | lia | omega))
      refine wpS_bind (lt_pair (S2.1.trans hk) ex ey ?_)
      dsimp only
      by_cases hw : K b ib1 < K a ia1
      · rw [decide_eq_true hw]
        simp only [if_true]
        refine wpS_bind (elem_at hib ?_)
        have M1 := M.pushB hib sB (le_drop sA (by rw [← K_at hib]; (first | lia | omega)))
        by_cases e : ib1 + 1 = b.size
        · rw [if_pos (by simpa using e)]
          exact wpS_pure (.inl ⟨_, _, rfl, M1.done sA sB (.inl e), S2⟩)
        · rw [if_neg (by simpa using e)]
          split
          · exact wpS_pure (.inr ⟨_, _, _, _, _, rfl, ⟨M1, hia, by (first | lia | omega), S2⟩, by (first | lia | omega)⟩)
          · exact wpS_pure ⟨_, _, _, _, _, rfl, ⟨M1, hia, by (first | lia | omega), S2⟩, by (first | lia | omega)⟩
      · rw [decide_eq_false hw]
        simp only [Bool.false_eq_true, if_false]
        refine wpS_bind (elem_at (show ia1 < a.size by (first | lia | omega)) ?_)
        have M1 := M.pushA (show ia1 < a.size by (first | lia | omega)) sA (le_drop sB (by rw [← K_at (show ia1 < a.size by (first | lia | omega))]; (first | lia | omega)))
        by_cases e : ia1 + 1 + 1 = a.size
        · rw [if_pos (by simpa using e)]
          exact wpS_pure (.inl ⟨_, _, rfl, M1.last sB e (lastLe _), S2⟩)
        · rw [if_neg (by simpa using e)]
          split
          · exact wpS_pure (.inr ⟨_, _, _, _, _, rfl, ⟨M1, by (first | lia | omega), hib, S2⟩, by (first | lia | omega)⟩)
          · exact wpS_pure ⟨_, _, _, _, _, rfl, ⟨M1, by (first | lia | omega), hib, S2⟩, by (first | lia | omega)⟩
    · rintro c st2 ⟨out, ia1, ib1, ac, bc, rfl, q, hm⟩
      exact .inr ⟨_, _, _, _, _, rfl, q, by (first | lia | omega)⟩
    · exact ⟨_, _, _, _, _, rfl, ⟨M, hia, hib, S1⟩, by (first | lia | omega)⟩
    · rintro c st2 (⟨r, rest, rfl, hr, S2⟩ | ⟨out, ia1, ib1, ac, bc, rfl, ⟨M, hia, hib, S2⟩, hm2⟩)
      · dsimp only
        exact wpS_pure ⟨_, _, rfl, hr, S2⟩
      · dsimp only
        refine wpS_bind (wpS_rule ?_)
        refine wpS_bind (wpS_mono (wpS_forRange (I := fun j c st' => ∃ out ia2 ib2 mg ac bc, c = (none, out, ia2, ib2, mg, ac, bc) ∧ (MSt a b out ia2 ib2 ∧ ia2 + 1 < a.size ∧ ib2 < b.size ∧ SameS st st') ∧ ia1 + ib1 ≤ ia2 + ib2)
          (Q := fun c st' => (∃ r rest, c = (some r, rest) ∧ Merged a b r ∧ SameS st st') ∨ (∃ out ia2 ib2 mg ac bc, c = (none, out, ia2, ib2, mg, ac, bc) ∧ (MSt a b out ia2 ib2 ∧ ia2 + 1 < a.size ∧ ib2 < b.size ∧ SameS st st') ∧ ia1 + ib1 ≤ ia2 + ib2)) ?_ ?_ ?_) ?_)
        · rintro j c st2 _ hj ⟨out, ia, ib, mg, ac, bc, rfl, ⟨M, hia, hib, S2⟩, hm3⟩
          dsimp only
          revert mg
          refine wpS_jp1 (fun _ => rfl) fun MG => ?_
          refine wpS_bind (wpS_modify ?_)
          have S' : SameS st (SortSt.mk' (kindOf st2) (arrOf st2) (pendingOf st2) MG (failedOf st2)) := S2.trans ⟨rfl, rfl, rfl, rfl⟩
          refine wpS_bind (elem_at (show ib < b.size by (first | lia | omega)) ?_)
          obtain ⟨tx, ex⟩ := K_int iB (show ib < b.size by (first | lia | omega))
          refine wpS_bind (gal (left := false) (S'.1.trans hk) iA ex (by (first | lia | omega)) (by (first | lia | omega)) (fun i j h1 h2 => srt_K sA (by (first | lia | omega)) (by (first | lia | omega))) fun k1 hk1 u1 u2 => ?_)
          dsimp only
          have TA : ∀ i (h : ia + i < a.size), i < k1 → ∀ y ∈ b.toList.drop ib, le' a[ia + i] y := fun i h hi => le_drop sB (by
            have := u1 i hi
            unfold bey at this
            rw [← K_at h]
            simp at this
            (first | lia | omega))
          have M0' := M.takeA sA k1 (by (first | lia | omega)) TA
          have HA : ∀ m, k1 ≤ m → ia + m < a.size → K b ib ≤ K a (ia + m) := fun m h1 h2 => by
            have := u2 m h1 (by (first | lia | omega))
            unfold bey at this
            simp at this
            (first | lia | omega)
          generalize hx : out = x, hy : ia = y
          revert x y
          refine wpS_jp2 (fun out ia' => MSt a b out ia' ib ∧ ia ≤ ia' ∧ ia' + 1 < a.size ∧ K b ib ≤ K a ia') ?_ fun jp => ?_
          · rintro out' ia' ⟨M0, hia3, hia4, HA⟩
            clear M0' TA u1 u2 hk1
            have hib0 : ib < b.size := by (first | lia | omega)
            have hia5 : ia' < a.size := by (first | lia | omega)
            refine wpS_bind (elem_at hib0 ?_)
            have M1 := M0.pushB hib0 sB (le_drop sA (by rw [← K_at hib0]; exact HA))
            by_cases e1 : ib + 1 = b.size
            · rw [if_pos (by simpa using e1)]
              exact wpS_pure (.inl ⟨_, _, rfl, M1.done sA sB (.inl e1), S'⟩)
            · rw [if_neg (by simpa using e1)]
              refine wpS_bind (elem_at hia5 ?_)
              obtain ⟨ty, ey⟩ := K_int iA hia5
              refine wpS_bind (gal (left := true) (S'.1.trans hk) iB ey (by (first | lia | omega)) (by (first | lia | omega)) (fun i j h1 h2 => srt_K sB (by (first | lia | omega)) (by (first | lia | omega))) fun k2 hk2 t1 t2 => ?_)
              dsimp only
              have TB : ∀ i (h : (ib + 1) + i < b.size), i < k2 → ∀ y ∈ a.toList.drop ia', le' b[(ib + 1) + i] y := fun i h hi => le_drop sA (by
                have := t1 i hi
                unfold bey at this
                rw [← K_at h]
                simp at this
                (first | lia | omega))
              have M2' := M1.takeB sB k2 (by (first | lia | omega)) TB
              have HB : ∀ m, k2 ≤ m → (ib + 1) + m < b.size → ∀ y ∈ b.toList.drop ((ib + 1) + m), le' (a[ia']'hia5) y := fun m h1 h2 => le_drop sB (by
                have := t2 m h1 (by (first | lia | omega))
                unfold bey at this
                rw [← K_at hia5]
                simp at this
                (first | lia | omega))
              generalize hx : out'.push b[ib] = x, hy : ib + 1 = y
              revert x y
              refine wpS_jp2 (fun out ib2 => MSt a b out ia' ib2 ∧ (ib + 1) ≤ ib2 ∧ ib2 < b.size ∧ ∀ y ∈ b.toList.drop ib2, le' (a[ia']'hia5) y) ?_ fun jp => ?_
              · rintro out2 ib2 ⟨M2, hib5, hib6, HB⟩
                refine wpS_bind (elem_at hia5 ?_)
                have M3 := M2.pushA hia5 sA HB
                by_cases e3 : ia' + 1 + 1 = a.size
                · rw [if_pos (by simpa using e3)]
                  exact wpS_pure (.inl ⟨_, _, rfl, M3.last sB e3 (lastLe _), S'⟩)
                · rw [if_neg (by simpa using e3)]
                  have hz1 : ia' + 1 + 1 < a.size := by (first | lia | omega)
                  have hz2 : ia1 + ib1 ≤ ia' + 1 + ib2 := by (first | lia | omega)
                  split
                  · exact wpS_pure (.inr ⟨_, _, _, _, _, _, rfl, ⟨M3, hz1, hib6, S'⟩, hz2⟩)
                  · exact wpS_pure ⟨_, _, _, _, _, _, rfl, ⟨M3, hz1, hib6, S'⟩, hz2⟩

              · by_cases k0 : k2 > 0
                · rw [if_pos k0]
                  by_cases e2 : (ib + 1) + k2 = b.size
                  · rw [if_pos (by simpa using e2)]
                    exact wpS_pure (.inl ⟨_, _, rfl, M2'.done sA sB (.inl e2), S'⟩)
                  · rw [if_neg (by simpa using e2)]
                    exact jp _ _ ⟨M2', by (first | lia | omega), by (first | lia | omega), HB k2 (Nat.le_refl _) (by (first | lia | omega))⟩
                · rw [if_neg k0]
                  exact jp _ _ ⟨M1, Nat.le_refl _, by (first | lia | omega), HB 0 (by (first | lia | omega)) (by (first | lia | omega))⟩

          · by_cases k0 : k1 > 0
            · rw [if_pos k0]
              by_cases e4 : ia + k1 + 1 = a.size
              · rw [if_pos (by simpa using e4)]
                exact wpS_pure (.inl ⟨_, _, rfl, M0'.last sB e4 (lastLe _), S'⟩)
              · rw [if_neg (by simpa using e4)]
                by_cases e5 : ia + k1 = a.size
                · rw [if_pos (by simpa using e5)]
                  exact wpS_pure (.inl ⟨_, _, rfl, M0'.done sA sB (.inr e5), S'⟩)
                · rw [if_neg (by simpa using e5)]
                  exact jp _ _ ⟨M0', by (first | lia | omega), by (first | lia | omega), HA k1 (Nat.le_refl _) (by (first | lia | omega))⟩
            · rw [if_neg k0]
              exact jp _ _ ⟨M, Nat.le_refl _, hia, HA 0 (by (first | lia | omega)) (by (first | lia | omega))⟩
        · rintro c st2 ⟨out, ia2, ib2, mg, ac, bc, rfl, q, hm⟩
          exact .inr ⟨_, _, _, _, _, _, rfl, q, hm⟩
        · exact ⟨_, _, _, _, _, _, rfl, ⟨M, hia, hib, S2⟩, Nat.le_refl _⟩
        · rintro c st3 (⟨r, rest, rfl, hr, S3⟩ | ⟨out, ia2, ib2, mg, ac, bc, rfl, ⟨M, hia, hib, S3⟩, hm3⟩)
          · dsimp only
            exact wpS_pure ⟨_, _, rfl, hr, S3⟩
          · dsimp only
            refine wpS_bind (wpS_modify ?_)
            exact wpS_pure ⟨_, _, _, _, rfl, ⟨M, hia, hib, S3.trans ⟨rfl, rfl, rfl, rfl⟩⟩, by (first | lia | omega)⟩
  · rintro c st1 ⟨out, ia, ib, mg, rfl, ⟨M, hia, hib, S1⟩, hm⟩
    exfalso
    (first | lia | omega)
  · exact ⟨_, _, _, _, rfl, ⟨M1, by (first | lia | omega), by (first | lia | omega), SameS.refl _⟩, by (first | lia | omega)⟩
  · rintro c st1 ⟨r, rest, rfl, hr, S1⟩
    exact wpS_pure (h r st1 S1 hr)
end
end Mine
end PartS3
section PartS4
set_option maxHeartbeats 400000
namespace Mine
structure MHt (a b out : Array Keyed) (na nb : Nat) : Prop where
  perm : (a.toList.take na ++ (b.toList.take nb ++ out.toList.reverse)).Perm (a.toList ++ b.toList)
  srt : out.toList.reverse.Pairwise le'
  le : ∀ x ∈ a.toList.take na ++ b.toList.take nb, ∀ y ∈ out.toList, le' x y
theorem take_at {a : Array Keyed} {i : Nat} (h : i < a.size) : a.toList.take (i + 1) = a.toList.take i ++ [a[i]] := by
  rw [List.take_succ]
  congr 1
  simp [h]
theorem mem_take_at {a : Array Keyed} {i : Nat} {y : Keyed} (h : y ∈ a.toList.take i) : ∃ j, j < i ∧ ∃ hj : j < a.size, y = a[j] := by
  obtain ⟨k, hk, e⟩ := List.mem_iff_getElem.mp h
  rw [List.getElem_take] at e
  simp at hk
  exact ⟨k, by (first | lia | omega), by (first | lia | omega), by rw [← e]; simp⟩
theorem le_take {a : Array Keyed} {c : Keyed} {i : Nat} (sA : a.toList.Pairwise le') (h : ∀ j, j + 1 = i → K a j ≤ numOf c.1) (hi : i ≤ a.size) : ∀ y ∈ a.toList.take i, le' y c := by
  intro y hy
  obtain ⟨j, hij, hj, rfl⟩ := mem_take_at hy
  have := srt_K sA (show j ≤ i - 1 by (first | lia | omega)) (by (first | lia | omega))
  have h2 := h (i - 1) (by (first | lia | omega))
  rw [K_at hj] at this
  exact Int.le_trans this h2
theorem MHt.pushA {a b out : Array Keyed} {na nb : Nat} (m : MHt a b out (na + 1) nb) (h : na < a.size) (sA : a.toList.Pairwise le') (hb : ∀ y ∈ b.toList.take nb, le' y a[na]) : MHt a b (out.push a[na]) na nb := by
  have e := take_at h
  refine ⟨?_, ?_, ?_⟩
  · have := m.perm; rw [e] at this
    refine List.Perm.trans ?_ this
    rw [Array.toList_push, List.reverse_append, List.append_assoc]
    refine List.Perm.append_left _ ?_
    exact List.perm_middle
  · rw [Array.toList_push, List.reverse_append]
    refine List.pairwise_cons.mpr ⟨fun y hy => m.le _ ?_ y (List.mem_reverse.mp hy), m.srt⟩
    rw [e]; simp
  · intro x hx y hy
    rw [Array.toList_push] at hy
    rcases List.mem_append.mp hy with hy | hy
    · refine m.le x ?_ y hy
      rw [e]
      rcases List.mem_append.mp hx with hx | hx
      · simp [hx]
      · simp [hx]
    · rw [List.mem_singleton.mp hy]
      rcases List.mem_append.mp hx with hx | hx
      · refine le_take sA (fun j hj => ?_) (by (first | lia | omega)) x hx
        rw [← K_at h]
        exact srt_K sA (by (first | lia | omega)) h
      · exact hb x hx
theorem MHt.pushB {a b out : Array Keyed} {na nb : Nat} (m : MHt a b out na (nb + 1)) (h : nb < b.size) (sB : b.toList.Pairwise le') (ha : ∀ y ∈ a.toList.take na, le' y b[nb]) : MHt a b (out.push b[nb]) na nb := by
  have e := take_at h
  refine ⟨?_, ?_, ?_⟩
  · have := m.perm; rw [e] at this
    rw [Array.toList_push, List.reverse_append]
    simpa [List.append_assoc] using this
  · rw [Array.toList_push, List.reverse_append]
    refine List.pairwise_cons.mpr ⟨fun y hy => m.le _ ?_ y (List.mem_reverse.mp hy), m.srt⟩
    rw [e]; simp
  · intro x hx y hy
    rw [Array.toList_push] at hy
    rcases List.mem_append.mp hy with hy | hy
    · refine m.le x ?_ y hy
      rw [e]
      rcases List.mem_append.mp hx with hx | hx
      · simp [hx]
      · simp [hx]
    · rw [List.mem_singleton.mp hy]
      rcases List.mem_append.mp hx with hx | hx
      · exact ha x hx
      · refine le_take sB (fun j hj => ?_) (by (first | lia | omega)) x hx
        rw [← K_at h]
        exact srt_K sB (by (first | lia | omega)) h
theorem extract_low {a : Array Keyed} {i j : Nat} (h : i < a.size) (hij : i < j) : (a.extract i j).reverse = (a.extract (i + 1) j).reverse.push a[i] := by
  apply Array.ext'
  rw [Array.toList_reverse, Array.toList_push, Array.toList_reverse, Array.toList_extract, Array.toList_extract, ← List.reverse_cons]
  congr 1
  rw [List.extract_eq_take_drop, List.extract_eq_take_drop, drop_at h, show j - i = (j - (i + 1)) + 1 by (first | lia | omega), List.take_succ_cons]
theorem MHt.takeA {a b out : Array Keyed} {nb : Nat} (sA : a.toList.Pairwise le') : ∀ (k at' na : Nat), at' + k = na → MHt a b out na nb → na ≤ a.size → (∀ i (h : i < a.size), at' ≤ i → i < na → ∀ y ∈ b.toList.take nb, le' y a[i]) → MHt a b (out ++ (a.extract at' na).reverse) at' nb
  | 0, at', na, e, m, _, _ => by
    have : at' = na := by (first | lia | omega)
    subst this
    rw [Array.extract_empty_of_stop_le_start (Nat.le_refl _), Array.reverse_empty, Array.append_empty]; exact m
  | k + 1, at', na, e, m, hn, hb => by
    have := MHt.takeA sA k (at' + 1) na (by (first | lia | omega)) m hn (fun i h h1 h2 => hb i h (by (first | lia | omega)) h2)
    rw [extract_low (by (first | lia | omega)) (by (first | lia | omega)), ← Array.push_append]
    exact this.pushA (by (first | lia | omega)) sA (hb at' (by (first | lia | omega)) (Nat.le_refl _) (by (first | lia | omega)))
theorem MHt.takeB {a b out : Array Keyed} {na : Nat} (sB : b.toList.Pairwise le') : ∀ (k at' nb : Nat), at' + k = nb → MHt a b out na nb → nb ≤ b.size → (∀ i (h : i < b.size), at' ≤ i → i < nb → ∀ y ∈ a.toList.take na, le' y b[i]) → MHt a b (out ++ (b.extract at' nb).reverse) na at'
  | 0, at', nb, e, m, _, _ => by
    have : at' = nb := by (first | lia | omega)
    subst this
    rw [Array.extract_empty_of_stop_le_start (Nat.le_refl _), Array.reverse_empty, Array.append_empty]; exact m
  | k + 1, at', nb, e, m, hn, hb => by
    have := MHt.takeB sB k (at' + 1) nb (by (first | lia | omega)) m hn (fun i h h1 h2 => hb i h (by (first | lia | omega)) h2)
    rw [extract_low (by (first | lia | omega)) (by (first | lia | omega)), ← Array.push_append]
    exact this.pushB (by (first | lia | omega)) sB (hb at' (by (first | lia | omega)) (Nat.le_refl _) (by (first | lia | omega)))
theorem toList_init (a : Array Keyed) (i : Nat) : (a.extract 0 i).toList = a.toList.take i := by simp
theorem MHt.done {a b out : Array Keyed} {na nb : Nat} (m : MHt a b out na nb) (sA : a.toList.Pairwise le') (sB : b.toList.Pairwise le') (h : na = 0 ∨ nb = 0) : Merged a b (a.extract 0 na ++ b.extract 0 nb ++ out.reverse) := by
  refine ⟨?_, ?_⟩
  · rw [Array.toList_append, Array.toList_append, toList_init, toList_init, Array.toList_reverse, List.append_assoc]
    exact m.perm
  · rw [Array.toList_append, Array.toList_append, toList_init, toList_init, Array.toList_reverse, List.pairwise_append]
    refine ⟨?_, m.srt, fun x hx y hy => m.le x hx y (List.mem_reverse.mp hy)⟩
    rcases h with h | h
    · rw [h, List.take_zero, List.nil_append]
      exact List.Pairwise.sublist (List.take_sublist _ _) sB
    · rw [h, List.take_zero, List.append_nil]
      exact List.Pairwise.sublist (List.take_sublist _ _) sA
theorem MHt.first {a b out : Array Keyed} {na nb : Nat} (m : MHt a b out na nb) (sA : a.toList.Pairwise le') (h : nb = 1) (hb : 0 < b.size) (hl : ∀ y ∈ a.toList.take na, le' b[0] y) : Merged a b (b.extract 0 nb ++ a.extract 0 na ++ out.reverse) := by
  subst h
  have e := take_at hb
  rw [List.take_zero, List.nil_append] at e
  have m1 := m.perm
  have m2 := m.le
  rw [e] at m1 m2
  refine ⟨?_, ?_⟩
  · rw [Array.toList_append, Array.toList_append, toList_init, toList_init, Array.toList_reverse, e]
    refine List.Perm.trans ?_ m1
    rw [← List.append_assoc]
    exact List.Perm.append_right _ List.perm_append_comm
  · rw [Array.toList_append, Array.toList_append, toList_init, toList_init, Array.toList_reverse, e, List.pairwise_append]
    refine ⟨?_, m.srt, fun x hx y hy => m2 x ?_ y (List.mem_reverse.mp hy)⟩
    · exact List.pairwise_cons.mpr ⟨hl, List.Pairwise.sublist (List.take_sublist _ _) sA⟩
    · rcases List.mem_append.mp hx with q | q
      · exact List.mem_append_right _ q
      · exact List.mem_append_left _ q
end Mine
end PartS4
section PartS5
set_option maxHeartbeats 1000000
namespace Mine
def mergeHiG : Array Keyed → Array Keyed → StateT SortSt Sem (Array Keyed) := sortPriv% PySem.Builtin.mergeHi
section
variable {prog : Program} {w : World} {A : Around} {E : Value → Shared → Prop} {s : Shared}
theorem wpS_mergeHi {a b : Array Keyed} {st : SortSt} {Q : Array Keyed → SortSt → Prop} (hk : kindOf st = oneType') (iA : IntKeys a) (iB : IntKeys b) (sA : a.toList.Pairwise le') (sB : b.toList.Pairwise le') (hA : 0 < a.size) (hB : 0 < b.size)
    (h0 : K b 0 ≤ K a 0) (hl : K b (b.size - 1) ≤ K a (a.size - 1)) (h : ∀ r st', SameS st st' → Merged a b r → Q r st') : wpS (model prog w) A E s (mergeHiG a b) Q st := by
  have firstLe : ∀ (na : Nat), ∀ y ∈ a.toList.take na, le' b[0] y := by
    intro na y hy
    obtain ⟨j, hij, hj, rfl⟩ := mem_take_at hy
    have := srt_K sA (Nat.zero_le j) hj
    unfold le'
    rw [← K_at hj, ← K_at hB]
    (first | lia | omega)
  unfold mergeHiG
  refine wpS_bind (wpS_rule ?_)
  obtain ⟨z, hz⟩ : ∃ z, a.size = z + 1 := ⟨a.size - 1, by (first | lia | omega)⟩
  rw [show a.size - 1 = z by (first | lia | omega)] at hl ⊢
  refine wpS_bind (elem_at (show z < a.size by (first | lia | omega)) ?_)
  dsimp only
  have M00 : MHt a b #[] (z + 1) b.size := ⟨by
    rw [List.take_of_length_le (by simp; (first | lia | omega)), List.take_of_length_le (by simp)]; simp, by simp, by simp⟩
  have M1 : MHt a b #[a[z]] z b.size := M00.pushA (show z < a.size by (first | lia | omega)) sA (le_take sB (fun j hj => by
    rw [← K_at (show z < a.size by (first | lia | omega)), show j = b.size - 1 by (first | lia | omega)]; exact hl) (Nat.le_refl _))
  by_cases e1 : z = 0
  · rw [if_pos (by simpa using e1)]
    exact wpS_pure (h _ _ (SameS.refl _) (M1.done sA sB (.inl e1)))
  rw [if_neg (by simpa using e1)]
  by_cases e2 : b.size = 1
  · rw [if_pos (by simpa using e2)]
    exact wpS_pure (h _ _ (SameS.refl _) (M1.first sA e2 hB (firstLe _)))
  rw [if_neg (by simpa using e2)]
  refine wpS_bind (wpS_get ?_)
  refine wpS_bind (wpS_mono (wpS_forRange (I := fun i c st' => ∃ na nb out mg, c = (none, na, nb, out, mg) ∧ (MHt a b out na nb ∧ 1 ≤ na ∧ 2 ≤ nb ∧ na ≤ a.size ∧ nb ≤ b.size ∧ SameS st st') ∧ i + 1 + na + nb ≤ a.size + b.size)
    (Q := fun c st' => ∃ r rest, c = (some r, rest) ∧ Merged a b r ∧ SameS st st') ?_ ?_ ?_) ?_)
  · rintro i c st1 _ hi ⟨na, nb, out, mg, rfl, ⟨M, hna, hnb, hna2, hnb2, S1⟩, hm⟩
    dsimp only
    refine wpS_bind (wpS_mono (wpS_forRange (I := fun j c st' => ∃ na1 nb1 out ac bc, c = (none, na1, nb1, out, ac, bc) ∧ (MHt a b out na1 nb1 ∧ 1 ≤ na1 ∧ 2 ≤ nb1 ∧ na1 ≤ a.size ∧ nb1 ≤ b.size ∧ SameS st st') ∧ j + na1 + nb1 ≤ na + nb)
      (Q := fun c st' => (∃ r rest, c = (some r, rest) ∧ Merged a b r ∧ SameS st st') ∨ (∃ na1 nb1 out ac bc, c = (none, na1, nb1, out, ac, bc) ∧ (MHt a b out na1 nb1 ∧ 1 ≤ na1 ∧ 2 ≤ nb1 ∧ na1 ≤ a.size ∧ nb1 ≤ b.size ∧ SameS st st') ∧ 1 + na1 + nb1 ≤ na + nb)) ?_ ?_ ?_) ?_)
    · rintro j c st2 _ hj ⟨na1, nb1, out, ac, bc, rfl, ⟨M, hna, hnb, hna2, hnb2, S2⟩, hm⟩
      obtain ⟨p, rfl⟩ : ∃ p, na1 = p + 1 := ⟨na1 - 1, by (first | lia | omega)⟩
      obtain ⟨q, rfl⟩ : ∃ q, nb1 = q + 1 := ⟨nb1 - 1, by (first | lia | omega)⟩
      simp only [Nat.add_sub_cancel]
      refine wpS_bind (elem_at (show q < b.size by (first | lia | omega)) ?_)
      refine wpS_bind (elem_at (show p < a.size by (first | lia | omega)) ?_)
      obtain ⟨tx, ex⟩ := K_int iB (show q < b.size by (first | lia | omega))
      obtain ⟨ty, ey⟩ := K_int iA (show p < a.size by (first | lia | omega))
      refine wpS_bind (lt_pair (S2.1.trans hk) ex ey ?_)
      dsimp only
      by_cases hw : K b q < K a p
      · rw [decide_eq_true hw]
        simp only [if_true]
        refine wpS_bind (elem_at (show p < a.size by (first | lia | omega)) ?_)
        have M1 := M.pushA (show p < a.size by (first | lia | omega)) sA (le_take sB (fun j hj => by
          rw [← K_at (show p < a.size by (first | lia | omega)), show j = q by (first | lia | omega)]; (first | lia | omega)) (by (first | lia | omega)))
        by_cases e : p = 0
        · rw [if_pos (by simpa using e)]
          exact wpS_pure (.inl ⟨_, _, rfl, M1.done sA sB (.inl e), S2⟩)
        · rw [if_neg (by simpa using e)]
          split
          · exact wpS_pure (.inr ⟨_, _, _, _, _, rfl, ⟨M1, by (first | lia | omega), by (first | lia | omega), by (first | lia | omega), by (first | lia | omega), S2⟩, by (first | lia | omega)⟩)
          · exact wpS_pure ⟨_, _, _, _, _, rfl, ⟨M1, by (first | lia | omega), by (first | lia | omega), by (first | lia | omega), by (first | lia | omega), S2⟩, by (first | lia | omega)⟩
      · rw [decide_eq_false hw]
        simp only [Bool.false_eq_true, if_false]
        refine wpS_bind (elem_at (show q < b.size by (first | lia | omega)) ?_)
        have M1 := M.pushB (show q < b.size by (first | lia | omega)) sB (le_take sA (fun j hj => by
          rw [← K_at (show q < b.size by (first | lia | omega)), show j = p by (first | lia | omega)]; (first | lia | omega)) (by (first | lia | omega)))
        by_cases e : q = 1
        · rw [if_pos (by simpa using e)]
          exact wpS_pure (.inl ⟨_, _, rfl, M1.first sA e hB (firstLe _), S2⟩)
        · rw [if_neg (by simpa using e)]
          split
          · exact wpS_pure (.inr ⟨_, _, _, _, _, rfl, ⟨M1, by (first | lia | omega), by (first | lia | omega), by (first | lia | omega), by (first | lia | omega), S2⟩, by (first | lia | omega)⟩)
          · exact wpS_pure ⟨_, _, _, _, _, rfl, ⟨M1, by (first | lia | omega), by (first | lia | omega), by (first | lia | omega), by (first | lia | omega), S2⟩, by (first | lia | omega)⟩
    · rintro c st2 ⟨na1, nb1, out, ac, bc, rfl, q, hm⟩
      exact .inr ⟨_, _, _, _, _, rfl, q, by (first | lia | omega)⟩
    · exact ⟨_, _, _, _, _, rfl, ⟨M, hna, hnb, hna2, hnb2, S1⟩, by (first | lia | omega)⟩
    · rintro c st2 (⟨r, rest, rfl, hr, S2⟩ | ⟨na1, nb1, out, ac, bc, rfl, ⟨M, hna1, hnb1, hna3, hnb3, S2⟩, hm2⟩)
      · dsimp only
        exact wpS_pure ⟨_, _, rfl, hr, S2⟩
      · dsimp only
        refine wpS_bind (wpS_rule ?_)
        refine wpS_bind (wpS_mono (wpS_forRange (I := fun j c st' => ∃ na2 nb2 out mg ac bc, c = (none, na2, nb2, out, mg, ac, bc) ∧ (MHt a b out na2 nb2 ∧ 1 ≤ na2 ∧ 2 ≤ nb2 ∧ na2 ≤ a.size ∧ nb2 ≤ b.size ∧ SameS st st') ∧ na2 + nb2 ≤ na1 + nb1)
          (Q := fun c st' => (∃ r rest, c = (some r, rest) ∧ Merged a b r ∧ SameS st st') ∨ (∃ na2 nb2 out mg ac bc, c = (none, na2, nb2, out, mg, ac, bc) ∧ (MHt a b out na2 nb2 ∧ 1 ≤ na2 ∧ 2 ≤ nb2 ∧ na2 ≤ a.size ∧ nb2 ≤ b.size ∧ SameS st st') ∧ na2 + nb2 ≤ na1 + nb1)) ?_ ?_ ?_) ?_)
        · rintro j c st2 _ hj ⟨na2, nb2, out, mg, ac, bc, rfl, ⟨M, hna4, hnb4, hna5, hnb5, S2⟩, hm3⟩
          obtain ⟨p, rfl⟩ : ∃ p, na2 = p + 1 := ⟨na2 - 1, by (first | lia | omega)⟩
          obtain ⟨q, rfl⟩ : ∃ q, nb2 = q + 1 := ⟨nb2 - 1, by (first | lia | omega)⟩
          simp only [Nat.add_sub_cancel]
          revert mg
          refine wpS_jp1 (fun _ => rfl) fun MG => ?_
          refine wpS_bind (wpS_modify ?_)
          have S' : SameS st (SortSt.mk' (kindOf st2) (arrOf st2) (pendingOf st2) MG (failedOf st2)) := S2.trans ⟨rfl, rfl, rfl, rfl⟩
          refine wpS_bind (elem_at (show q < b.size by (first | lia | omega)) ?_)
          obtain ⟨tx, ex⟩ := K_int iB (show q < b.size by (first | lia | omega))
          refine wpS_bind (gal (left := false) (S'.1.trans hk) iA ex (by (first | lia | omega)) (by (first | lia | omega)) (fun i j h1 h2 => srt_K sA (by (first | lia | omega)) (by (first | lia | omega))) fun at1 hk1 u1 u2 => ?_)
          dsimp only
          have TA : ∀ i (h : i < a.size), at1 ≤ i → i < p + 1 → ∀ y ∈ b.toList.take (q + 1), le' y a[i] := fun i h h1 h2 => le_take sB (fun j hj => by
            have := u2 i h1 h2
            unfold bey at this
            rw [← K_at h]
            simp at this
            have : j = q := by (first | lia | omega)
            subst this
            (first | lia | omega)) (by (first | lia | omega))
          have M0' := MHt.takeA sA (p + 1 - at1) at1 (p + 1) (by (first | lia | omega)) M (by (first | lia | omega)) TA
          have HA : ∀ y ∈ a.toList.take at1, le' y b[q] := le_take sA (fun j hj => by
            have := u1 j (by (first | lia | omega))
            unfold bey at this
            rw [← K_at (show q < b.size by (first | lia | omega))]
            simp at this
            (first | lia | omega)) (by (first | lia | omega))
          by_cases k0 : p + 1 - at1 > 0
          · rw [if_pos k0]
            by_cases e4 : at1 = 0
            · rw [if_pos (by simpa using e4)]
              exact wpS_pure (.inl ⟨_, _, rfl, M0'.done sA sB (.inl e4), S'⟩)
            · rw [if_neg (by simpa using e4)]
              have M0 := M0'
              generalize hna' : at1 = na' at *
              refine wpS_bind (elem_at (show q < b.size by (first | lia | omega)) ?_)
              have M1 := M0.pushB (show q < b.size by (first | lia | omega)) sB HA
              by_cases e1 : q = 1
              · rw [if_pos (by simpa using e1)]
                exact wpS_pure (.inl ⟨_, _, rfl, M1.first sA e1 hB (firstLe _), S'⟩)
              · rw [if_neg (by simpa using e1)]
                obtain ⟨p', rfl⟩ : ∃ p', na' = p' + 1 := ⟨na' - 1, by (first | lia | omega)⟩
                simp only [Nat.add_sub_cancel]
                refine wpS_bind (elem_at (show p' < a.size by (first | lia | omega)) ?_)
                obtain ⟨ty, ey⟩ := K_int iA (show p' < a.size by (first | lia | omega))
                refine wpS_bind (gal (left := true) (S'.1.trans hk) iB ey (by (first | lia | omega)) (by (first | lia | omega)) (fun i j h1 h2 => srt_K sB (by (first | lia | omega)) (by (first | lia | omega))) fun at2 hk2 t1 t2 => ?_)
                dsimp only
                have TB : ∀ i (h : i < b.size), at2 ≤ i → i < q → ∀ y ∈ a.toList.take (p' + 1), le' y b[i] := fun i h h1 h2 => le_take sA (fun j hj => by
                  have := t2 i h1 h2
                  unfold bey at this
                  rw [← K_at h]
                  simp at this
                  have : j = p' := by (first | lia | omega)
                  subst this
                  (first | lia | omega)) (by (first | lia | omega))
                have M2' := MHt.takeB sB (q - at2) at2 q (by (first | lia | omega)) M1 (by (first | lia | omega)) TB
                have HB : ∀ y ∈ b.toList.take at2, le' y a[p'] := le_take sB (fun j hj => by
                  have := t1 j (by (first | lia | omega))
                  unfold bey at this
                  rw [← K_at (show p' < a.size by (first | lia | omega))]
                  simp at this
                  (first | lia | omega)) (by (first | lia | omega))
                by_cases k0 : q - at2 > 0
                · rw [if_pos k0]
                  by_cases e2 : at2 = 1
                  · rw [if_pos (by simpa using e2)]
                    exact wpS_pure (.inl ⟨_, _, rfl, M2'.first sA e2 hB (firstLe _), S'⟩)
                  · rw [if_neg (by simpa using e2)]
                    by_cases e5 : at2 = 0
                    · rw [if_pos (by simpa using e5)]
                      exact wpS_pure (.inl ⟨_, _, rfl, M2'.done sA sB (.inr e5), S'⟩)
                    · rw [if_neg (by simpa using e5)]
                      have M2 := M2'
                      refine wpS_bind (elem_at (show p' < a.size by (first | lia | omega)) ?_)
                      have M3 := M2.pushA (show p' < a.size by (first | lia | omega)) sA HB
                      by_cases e3 : p' = 0
                      · rw [if_pos (by simpa using e3)]
                        exact wpS_pure (.inl ⟨_, _, rfl, M3.done sA sB (.inl e3), S'⟩)
                      · rw [if_neg (by simpa using e3)]
                        split
                        · exact wpS_pure (.inr ⟨_, _, _, _, _, _, rfl, ⟨M3, by (first | lia | omega), by (first | lia | omega), by (first | lia | omega), by (first | lia | omega), S'⟩, by (first | lia | omega)⟩)
                        · exact wpS_pure ⟨_, _, _, _, _, _, rfl, ⟨M3, by (first | lia | omega), by (first | lia | omega), by (first | lia | omega), by (first | lia | omega), S'⟩, by (first | lia | omega)⟩

                · rw [if_neg k0]
                  have ez : at2 = q := by (first | lia | omega)
                  subst ez
                  have M2 := M1
                  refine wpS_bind (elem_at (show p' < a.size by (first | lia | omega)) ?_)
                  have M3 := M2.pushA (show p' < a.size by (first | lia | omega)) sA HB
                  by_cases e3 : p' = 0
                  · rw [if_pos (by simpa using e3)]
                    exact wpS_pure (.inl ⟨_, _, rfl, M3.done sA sB (.inl e3), S'⟩)
                  · rw [if_neg (by simpa using e3)]
                    split
                    · exact wpS_pure (.inr ⟨_, _, _, _, _, _, rfl, ⟨M3, by (first | lia | omega), by (first | lia | omega), by (first | lia | omega), by (first | lia | omega), S'⟩, by (first | lia | omega)⟩)
                    · exact wpS_pure ⟨_, _, _, _, _, _, rfl, ⟨M3, by (first | lia | omega), by (first | lia | omega), by (first | lia | omega), by (first | lia | omega), S'⟩, by (first | lia | omega)⟩

          · rw [if_neg k0]
            have ez : at1 = p + 1 := by (first | lia | omega)
            subst ez
            have M0 := M
            refine wpS_bind (elem_at (show q < b.size by (first | lia | omega)) ?_)
            have M1 := M0.pushB (show q < b.size by (first | lia | omega)) sB HA
            by_cases e1 : q = 1
            · rw [if_pos (by simpa using e1)]
              exact wpS_pure (.inl ⟨_, _, rfl, M1.first sA e1 hB (firstLe _), S'⟩)
            · rw [if_neg (by simpa using e1)]
              obtain ⟨p', hp'⟩ : ∃ p', p' = p := ⟨p, rfl⟩
              subst hp'
              refine wpS_bind (elem_at (show p' < a.size by (first | lia | omega)) ?_)
              obtain ⟨ty, ey⟩ := K_int iA (show p' < a.size by (first | lia | omega))
              refine wpS_bind (gal (left := true) (S'.1.trans hk) iB ey (by (first | lia | omega)) (by (first | lia | omega)) (fun i j h1 h2 => srt_K sB (by (first | lia | omega)) (by (first | lia | omega))) fun at2 hk2 t1 t2 => ?_)
              dsimp only
              have TB : ∀ i (h : i < b.size), at2 ≤ i → i < q → ∀ y ∈ a.toList.take (p' + 1), le' y b[i] := fun i h h1 h2 => le_take sA (fun j hj => by
                have := t2 i h1 h2
                unfold bey at this
                rw [← K_at h]
                simp at this
                have : j = p' := by (first | lia | omega)
                subst this
                (first | lia | omega)) (by (first | lia | omega))
              have M2' := MHt.takeB sB (q - at2) at2 q (by (first | lia | omega)) M1 (by (first | lia | omega)) TB
              have HB : ∀ y ∈ b.toList.take at2, le' y a[p'] := le_take sB (fun j hj => by
                have := t1 j (by (first | lia | omega))
                unfold bey at this
                rw [← K_at (show p' < a.size by (first | lia | omega))]
                simp at this
                (first | lia | omega)) (by (first | lia | omega))
              by_cases k0 : q - at2 > 0
              · rw [if_pos k0]
                by_cases e2 : at2 = 1
                · rw [if_pos (by simpa using e2)]
                  exact wpS_pure (.inl ⟨_, _, rfl, M2'.first sA e2 hB (firstLe _), S'⟩)
                · rw [if_neg (by simpa using e2)]
                  by_cases e5 : at2 = 0
                  · rw [if_pos (by simpa using e5)]
                    exact wpS_pure (.inl ⟨_, _, rfl, M2'.done sA sB (.inr e5), S'⟩)
                  · rw [if_neg (by simpa using e5)]
                    have M2 := M2'
                    refine wpS_bind (elem_at (show p' < a.size by (first | lia | omega)) ?_)
                    have M3 := M2.pushA (show p' < a.size by (first | lia | omega)) sA HB
                    by_cases e3 : p' = 0
                    · rw [if_pos (by simpa using e3)]
                      exact wpS_pure (.inl ⟨_, _, rfl, M3.done sA sB (.inl e3), S'⟩)
                    · rw [if_neg (by simpa using e3)]
                      split
                      · exact wpS_pure (.inr ⟨_, _, _, _, _, _, rfl, ⟨M3, by (first | lia | omega), by (first | lia | omega), by (first | lia | omega), by (first | lia | omega), S'⟩, by (first | lia | omega)⟩)
                      · exact wpS_pure ⟨_, _, _, _, _, _, rfl, ⟨M3, by (first | lia | omega), by (first | lia | omega), by (first | lia | omega), by (first | lia | omega), S'⟩, by (first | lia | omega)⟩

              · rw [if_neg k0]
                have ez : at2 = q := by (first | lia | omega)
                subst ez
                have M2 := M1
                refine wpS_bind (elem_at (show p' < a.size by (first | lia | omega)) ?_)
                have M3 := M2.pushA (show p' < a.size by (first | lia | omega)) sA HB
                by_cases e3 : p' = 0
                · rw [if_pos (by simpa using e3)]
                  exact wpS_pure (.inl ⟨_, _, rfl, M3.done sA sB (.inl e3), S'⟩)
                · rw [if_neg (by simpa using e3)]
                  split
                  · exact wpS_pure (.inr ⟨_, _, _, _, _, _, rfl, ⟨M3, by (first | lia | omega), by (first | lia | omega), by (first | lia | omega), by (first | lia | omega), S'⟩, by (first | lia | omega)⟩)
                  · exact wpS_pure ⟨_, _, _, _, _, _, rfl, ⟨M3, by (first | lia | omega), by (first | lia | omega), by (first | lia | omega), by (first | lia | omega), S'⟩, by (first | lia | omega)⟩
        · rintro c st2 ⟨na2, nb2, out, mg, ac, bc, rfl, q, hm⟩
          exact .inr ⟨_, _, _, _, _, _, rfl, q, hm⟩
        · exact ⟨_, _, _, _, _, _, rfl, ⟨M, hna1, hnb1, hna3, hnb3, S2⟩, Nat.le_refl _⟩
        · rintro c st3 (⟨r, rest, rfl, hr, S3⟩ | ⟨na2, nb2, out, mg, ac, bc, rfl, ⟨M, hna4, hnb4, hna5, hnb5, S3⟩, hm3⟩)
          · dsimp only
            exact wpS_pure ⟨_, _, rfl, hr, S3⟩
          · dsimp only
            refine wpS_bind (wpS_modify ?_)
            exact wpS_pure ⟨_, _, _, _, rfl, ⟨M, hna4, hnb4, hna5, hnb5, S3.trans ⟨rfl, rfl, rfl, rfl⟩⟩, by (first | lia | omega)⟩
  · rintro c st1 ⟨na, nb, out, mg, rfl, ⟨M, hna, hnb, hna2, hnb2, S1⟩, hm⟩
    exfalso
    (first | lia | omega)
  · exact ⟨_, _, _, _, rfl, ⟨M1, by (first | lia | omega), by (first | lia | omega), by (first | lia | omega), by (first | lia | omega), SameS.refl _⟩, by (first | lia | omega)⟩
  · rintro c st1 ⟨r, rest, rfl, hr, S1⟩
    exact wpS_pure (h r st1 S1 hr)
end
end Mine
end PartS5
section PartS6
set_option maxHeartbeats 1000000
namespace Mine
theorem lay_seg : ∀ (l : List Keyed) (i off : Nat) (arr : Array Keyed), off + i + l.length ≤ arr.size →
    ((l.zipIdx i).foldl (fun a (x : Keyed × Nat) => a.setIfInBounds (off + x.2) x.1) arr).toList = arr.toList.take (off + i) ++ l ++ arr.toList.drop (off + i + l.length)
  | [], i, off, arr, _ => by simp
  | p :: l, i, off, arr, h => by
    rw [List.zipIdx_cons, List.foldl_cons]
    have h' : off + i < arr.size := by simp at h; (first | lia | omega)
    have := lay_seg l (i + 1) off (arr.setIfInBounds (off + i) p) (by simp at h ⊢; (first | lia | omega))
    rw [this]
    simp only [Array.toList_setIfInBounds]
    have e1 : (arr.toList.set (off + i) p).take (off + (i + 1)) = arr.toList.take (off + i) ++ [p] := by
      rw [← Nat.add_assoc, List.take_add_one, List.take_set_of_le (Nat.le_refl _), List.getElem?_set_self (by simpa using h')]
      rfl
    have e2 : (arr.toList.set (off + i) p).drop (off + (i + 1) + l.length) = arr.toList.drop (off + i + (p :: l).length) := by
      rw [List.drop_set_of_lt (by (first | lia | omega))]
      congr 1
      simp; (first | lia | omega)
    rw [e1, e2]
    simp
theorem intKeys_sub {a b : Array Keyed} (h : IntKeys a) (m : ∀ x ∈ b.toList, x ∈ a.toList) : IntKeys b := fun p hp => h p (m p hp)
theorem ext_list (a : Array Keyed) (i j : Nat) : (a.extract i j).toList = (a.toList.drop i).take (j - i) := by simp
theorem ext_mem {a : Array Keyed} {i j : Nat} {x : Keyed} (h : x ∈ (a.extract i j).toList) : ∃ m, i ≤ m ∧ m < j ∧ ∃ hm : m < a.size, x = a[m] := by
  obtain ⟨k, hk, e⟩ := List.mem_iff_getElem.mp h
  simp at hk
  refine ⟨i + k, by (first | lia | omega), by (first | lia | omega), by (first | lia | omega), ?_⟩
  rw [← e]; simp
theorem srt_of {l : List Keyed} (h : ∀ i j (hi : i < l.length) (hj : j < l.length), i < j → le' l[i] l[j]) : l.Pairwise le' := List.pairwise_iff_getElem.mpr h
section
variable {prog : Program} {w : World} {A : Around} {E : Value → Shared → Prop} {s : Shared}
theorem wpS_set {σ : Type} {Q : PUnit → σ → Prop} {st st' : σ} (h : Q ⟨⟩ st') : wpS (model prog w) A E s (set st' : StateT σ Sem PUnit) Q st := by
  unfold wpS; rw [StateT.run_set]; exact wpAny_pure ⟨rfl, h⟩
theorem wpS_mergeAt {st : SortSt} {n1 n2 p1 p2 : Nat} {Q : Bool → SortSt → Prop} (hk : PyProof.Rows.kindOf st = oneType') (hf : failedOf st = none) (hp : pendingOf st = #[(0, n1, p1), (n1, n2, p2)]) (iA : IntKeys (arrOf st)) (hsz : (arrOf st).size = n1 + n2) (h1 : 0 < n1) (h2 : 0 < n2)
    (KA : ∀ i j, i ≤ j → j < n1 → K (arrOf st) i ≤ K (arrOf st) j) (KB : ∀ i j, n1 ≤ i → i ≤ j → j < n1 + n2 → K (arrOf st) i ≤ K (arrOf st) j)
    (h : ∀ st' : SortSt, PyProof.Rows.kindOf st' = oneType' → failedOf st' = none → (arrOf st').toList.Perm (arrOf st).toList → (arrOf st').toList.Pairwise le' → pendingOf st' = #[(0, n1 + n2, p1)] → Q true st') : wpS (model prog w) A E s (mergeAt' 0) Q st := by
  obtain ⟨kd, arr, pend, mg, fl⟩ := st
  replace hk : kd = oneType' := hk
  replace hf : fl = none := hf
  replace hp : pend = #[(0, n1, p1), (n1, n2, p2)] := hp
  replace iA : IntKeys arr := iA
  replace hsz : arr.size = n1 + n2 := hsz
  replace KA : ∀ i j, i ≤ j → j < n1 → K arr i ≤ K arr j := KA
  replace KB : ∀ i j, n1 ≤ i → i ≤ j → j < n1 + n2 → K arr i ≤ K arr j := KB
  replace h : ∀ st' : SortSt, PyProof.Rows.kindOf st' = oneType' → failedOf st' = none → (arrOf st').toList.Perm arr.toList → (arrOf st').toList.Pairwise le' → pendingOf st' = #[(0, n1 + n2, p1)] → Q true st' := h
  subst hk hf hp
  have leK : ∀ {i j : Nat} (hi : i < arr.size) (hj : j < arr.size), K arr i ≤ K arr j → le' arr[i] arr[j] := fun hi hj q => by
    unfold le'; rw [← K_at hi, ← K_at hj]; exact q
  have whole : (∀ i j, i < n1 → n1 ≤ j → j < n1 + n2 → K arr i ≤ K arr j) → arr.toList.Pairwise le' := fun q => by
    refine srt_of fun i j hi hj hij => ?_
    have hi' : i < arr.size := by simpa using hi
    have hj' : j < arr.size := by simpa using hj
    have := leK hi' hj' (by
      by_cases a : j < n1
      · exact KA i j (by (first | lia | omega)) a
      · by_cases b : i < n1
        · exact q i j b (by (first | lia | omega)) (by (first | lia | omega))
        · exact KB i j (by (first | lia | omega)) (by (first | lia | omega)) (by (first | lia | omega)))
    simpa using this
  unfold mergeAt'
  refine wpS_bind (wpS_get ?_)
  dsimp only
  rw [show (#[(0, n1, p1), (n1, n2, p2)][0]?, #[(0, n1, p1), (n1, n2, p2)][0 + 1]?) = (some (0, n1, p1), some (n1, n2, p2)) from rfl]
  dsimp only
  have hpend : (#[(0, n1, p1), (n1, n2, p2)].setIfInBounds 0 (0, n1 + n2, p1)).eraseIdxIfInBounds (0 + 1) = #[(0, n1 + n2, p1)] := by
    apply Array.ext'
    simp
  rw [hpend]
  refine wpS_bind (wpS_set ?_)
  refine wpS_bind (elem_at (show n1 < arr.size by (first | lia | omega)) ?_)
  obtain ⟨tx, ex⟩ := K_int iA (show n1 < arr.size by (first | lia | omega))
  refine wpS_bind (gal (left := false) rfl iA ex (by (first | lia | omega)) h1 (fun i j a b => by rw [Nat.zero_add, Nat.zero_add]; exact KA i j a b) fun k hk u1 u2 => ?_)
  dsimp only
  have v1 : ∀ i, i < k → K arr i ≤ K arr n1 := fun i hi => by
    have := u1 i hi
    unfold bey at this
    simp at this
    exact this
  have v2 : ∀ i, k ≤ i → i < n1 → K arr n1 < K arr i := fun i hi hj => by
    have := u2 i hi hj
    unfold bey at this
    simp at this
    exact this
  by_cases e1 : n1 - k = 0
  · rw [if_pos (by simpa using e1)]
    refine wpS_pure (h _ rfl rfl (List.Perm.refl _) (whole fun i j a b c => Int.le_trans (v1 i (by (first | lia | omega))) (KB n1 j (Nat.le_refl _) b c)) rfl)
  rw [if_neg (by simpa using e1)]
  rw [show 0 + k + (n1 - k) - 1 = n1 - 1 by (first | lia | omega)]
  refine wpS_bind (elem_at (show n1 - 1 < arr.size by (first | lia | omega)) ?_)
  obtain ⟨ty, ey⟩ := K_int iA (show n1 - 1 < arr.size by (first | lia | omega))
  refine wpS_bind (gal (left := true) rfl iA ey (by (first | lia | omega)) (by (first | lia | omega)) (fun i j a b => KB _ _ (by (first | lia | omega)) (by (first | lia | omega)) (by (first | lia | omega))) fun nb hnb t1 t2 => ?_)
  dsimp only
  have w1 : ∀ i, i < nb → K arr (n1 + i) < K arr (n1 - 1) := fun i hi => by
    have := t1 i hi
    unfold bey at this
    simpa using this
  have w2 : ∀ i, nb ≤ i → i < n2 → K arr (n1 - 1) ≤ K arr (n1 + i) := fun i hi hj => by
    have := t2 i hi hj
    unfold bey at this
    simpa using this
  by_cases e2 : nb = 0
  · rw [if_pos (by simpa using e2)]
    refine wpS_pure (h _ rfl rfl (List.Perm.refl _) (whole fun i j a b c => ?_) rfl)
    have a1 := KA i (n1 - 1) (by (first | lia | omega)) (by (first | lia | omega))
    have a2 := w2 (j - n1) (by (first | lia | omega)) (by (first | lia | omega))
    rw [show n1 + (j - n1) = j by (first | lia | omega)] at a2
    (first | lia | omega)
  rw [if_neg (by simpa using e2)]
  rw [Nat.zero_add]
  have xs : (arr.extract k n1).size = n1 - k := by simp; (first | lia | omega)
  have ys : (arr.extract n1 (n1 + nb)).size = nb := by simp; (first | lia | omega)
  have Kx : ∀ i, i < n1 - k → K (arr.extract k n1) i = K arr (k + i) := fun i hi => by rw [K_at (by (first | lia | omega)), K_at (show k + i < arr.size by (first | lia | omega))]; simp
  have Ky : ∀ i, i < nb → K (arr.extract n1 (n1 + nb)) i = K arr (n1 + i) := fun i hi => by rw [K_at (by (first | lia | omega)), K_at (show n1 + i < arr.size by (first | lia | omega))]; simp
  have sX : (arr.extract k n1).toList.Pairwise le' := srt_of fun i j hi hj hij => by
    simp at hi hj
    have := leK (i := k + i) (j := k + j) (by (first | lia | omega)) (by (first | lia | omega)) (KA _ _ (by (first | lia | omega)) (by (first | lia | omega)))
    simpa using this
  have sY : (arr.extract n1 (n1 + nb)).toList.Pairwise le' := srt_of fun i j hi hj hij => by
    simp at hi hj
    have := leK (i := n1 + i) (j := n1 + j) (by (first | lia | omega)) (by (first | lia | omega)) (KB _ _ (by (first | lia | omega)) (by (first | lia | omega)) (by (first | lia | omega)))
    simpa using this
  have iX : IntKeys (arr.extract k n1) := intKeys_sub iA fun x hx => by obtain ⟨m, _, _, hm, rfl⟩ := ext_mem hx; simp
  have iY : IntKeys (arr.extract n1 (n1 + nb)) := intKeys_sub iA fun x hx => by obtain ⟨m, _, _, hm, rfl⟩ := ext_mem hx; simp
  have c0 : K (arr.extract n1 (n1 + nb)) 0 ≤ K (arr.extract k n1) 0 := by
    rw [Kx 0 (by (first | lia | omega)), Ky 0 (by (first | lia | omega))]
    have := v2 k (Nat.le_refl _) (by (first | lia | omega))
    simp at this ⊢
    (first | lia | omega)
  have cl : K (arr.extract n1 (n1 + nb)) ((arr.extract n1 (n1 + nb)).size - 1) ≤ K (arr.extract k n1) ((arr.extract k n1).size - 1) := by
    rw [xs, ys, Kx _ (by (first | lia | omega)), Ky _ (by (first | lia | omega))]
    have := w1 (nb - 1) (by (first | lia | omega))
    rw [show k + (n1 - k - 1) = n1 - 1 by (first | lia | omega)]
    (first | lia | omega)
  have fin : ∀ (r : Array Keyed) (st' : SortSt), SameS (SortSt.mk' oneType' arr #[(0, n1 + n2, p1)] mg none) st' → Merged (arr.extract k n1) (arr.extract n1 (n1 + nb)) r →
      Q true (SortSt.mk' (PyProof.Rows.kindOf st') (List.foldl (fun a (x : Keyed × Nat) => a.setIfInBounds (k + x.2) x.1) (arrOf st') r.toList.zipIdx) (pendingOf st') (gallopOf st') (failedOf st')) ∧ failedOf st' = none := by
    intro r st' S m
    obtain ⟨S1, S2, S3, S4⟩ := S
    have S2' : arrOf st' = arr := S2
    have hrl : r.toList.length = n1 - k + nb := by
      have := m.1.length_eq
      rw [List.length_append] at this
      simp only [Array.length_toList] at this ⊢
      (first | lia | omega)
    have e := lay_seg r.toList 0 k arr (by (first | lia | omega))
    simp only [Nat.add_zero] at e
    rw [hrl] at e
    have hL : arr.toList = arr.toList.take k ++ ((arr.extract k n1).toList ++ (arr.extract n1 (n1 + nb)).toList) ++ arr.toList.drop (k + (n1 - k + nb)) := by
      rw [ext_list, ext_list]
      have q1 : arr.toList.drop k = (arr.toList.drop k).take (n1 - k) ++ arr.toList.drop n1 := by
        have := (List.take_append_drop (n1 - k) (arr.toList.drop k)).symm
        rw [List.drop_drop, show k + (n1 - k) = n1 by (first | lia | omega)] at this
        exact this
      have q2 : arr.toList.drop n1 = (arr.toList.drop n1).take (n1 + nb - n1) ++ arr.toList.drop (k + (n1 - k + nb)) := by
        have := (List.take_append_drop (n1 + nb - n1) (arr.toList.drop n1)).symm
        rw [List.drop_drop, show n1 + (n1 + nb - n1) = k + (n1 - k + nb) by (first | lia | omega)] at this
        exact this
      conv => lhs; rw [← List.take_append_drop k arr.toList, q1, q2]
      simp only [List.append_assoc]
    refine ⟨h _ S1 S4 ?_ ?_ S3, S4⟩
    · show (List.foldl _ (arrOf st') _).toList.Perm _
      rw [S2', e]
      conv => rhs; rw [hL]
      exact List.Perm.append_right _ (List.Perm.append_left _ m.1)
    · show (List.foldl _ (arrOf st') _).toList.Pairwise _
      rw [S2', e]
      have mem : ∀ x ∈ r.toList, (∃ j, k ≤ j ∧ j < n1 ∧ ∃ hj : j < arr.size, x = arr[j]) ∨ (∃ j, n1 ≤ j ∧ j < n1 + nb ∧ ∃ hj : j < arr.size, x = arr[j]) := fun x hx => by
        rcases List.mem_append.mp (m.1.mem_iff.mp hx) with q | q
        · exact .inl (ext_mem q)
        · exact .inr (ext_mem q)
      rw [List.pairwise_append, List.pairwise_append]
      refine ⟨⟨?_, m.2, ?_⟩, ?_, ?_⟩
      · refine srt_of fun i j hi hj hij => ?_
        simp at hi hj
        have := leK (i := i) (j := j) (by (first | lia | omega)) (by (first | lia | omega)) (KA _ _ (by (first | lia | omega)) (by (first | lia | omega)))
        simpa using this
      · intro x hx y hy
        obtain ⟨i, hi, hia, rfl⟩ := mem_take_at hx
        rcases mem y hy with ⟨j, j1, j2, hj, rfl⟩ | ⟨j, j1, j2, hj, rfl⟩
        · exact leK hia hj (KA i j (by (first | lia | omega)) (by (first | lia | omega)))
        · exact leK hia hj (Int.le_trans (v1 i hi) (KB n1 j (Nat.le_refl _) j1 (by (first | lia | omega))))
      · refine srt_of fun i j hi hj hij => ?_
        simp at hi hj
        have := leK (i := k + (n1 - k + nb) + i) (j := k + (n1 - k + nb) + j) (by (first | lia | omega)) (by (first | lia | omega)) (KB _ _ (by (first | lia | omega)) (by (first | lia | omega)) (by (first | lia | omega)))
        simpa using this
      · intro x hx y hy
        obtain ⟨j, j1, hj, rfl⟩ := mem_drop_at hy
        rcases List.mem_append.mp hx with hx | hx
        · obtain ⟨i, hi, hia, rfl⟩ := mem_take_at hx
          exact leK hia hj (Int.le_trans (v1 i hi) (KB n1 j (Nat.le_refl _) (by (first | lia | omega)) (by (first | lia | omega))))
        · rcases mem x hx with ⟨i, i1, i2, hi, rfl⟩ | ⟨i, i1, i2, hi, rfl⟩
          · refine leK hi hj (Int.le_trans (KA i (n1 - 1) (by (first | lia | omega)) (by (first | lia | omega))) ?_)
            have := w2 (j - n1) (by (first | lia | omega)) (by (first | lia | omega))
            rw [show n1 + (j - n1) = j by (first | lia | omega)] at this
            exact this
          · exact leK hi hj (KB i j i1 (by (first | lia | omega)) (by (first | lia | omega)))
  split
  · refine wpS_bind (wpS_mergeLo rfl iX iY sX sY (by (first | lia | omega)) (by (first | lia | omega)) c0 cl fun r st' S m => ?_)
    obtain ⟨f1, f2⟩ := fin r st' S m
    refine wpS_bind (wpS_modify ?_)
    refine wpS_bind (wpS_get ?_)
    refine wpS_pure ?_
    show Q (Option.isNone (failedOf st')) _
    rw [f2]
    exact f1
  · refine wpS_bind (wpS_mergeHi rfl iX iY sX sY (by (first | lia | omega)) (by (first | lia | omega)) c0 cl fun r st' S m => ?_)
    obtain ⟨f1, f2⟩ := fin r st' S m
    refine wpS_bind (wpS_modify ?_)
    refine wpS_bind (wpS_get ?_)
    refine wpS_pure ?_
    show Q (Option.isNone (failedOf st')) _
    rw [f2]
    exact f1
end
end Mine
end PartS6
section PartS7
set_option maxHeartbeats 1000000
namespace Mine
/-! a run that begins at lo -/
structure SB (a₀ : Array Keyed) (pd : Array (Nat × Nat × Nat)) (lo : Nat) (st : SortSt) : Prop where
  perm : (arrOf st).Perm a₀
  kind : PyProof.Rows.kindOf st = oneType'
  failed : failedOf st = none
  pend : pendingOf st = pd
  low : ∀ i, i < lo → K (arrOf st) i = K a₀ i
def Asc (xs : Array Keyed) (lo k : Nat) : Prop := ∀ i j, i ≤ j → j < k → K xs (lo + i) ≤ K xs (lo + j)
def Dsc (xs : Array Keyed) (lo k : Nat) : Prop := ∀ i j, i ≤ j → j < k → K xs (lo + j) ≤ K xs (lo + i)
section
variable {prog : Program} {w : World} {A : Around} {E : Value → Shared → Prop} {s : Shared} {a₀ : Array Keyed} {pd : Array (Nat × Nat × Nat)} {lo : Nat}
theorem SB.size {st : SortSt} (h : SB a₀ pd lo st) : (arrOf st).size = a₀.size := h.perm.size_eq
theorem SB.set {st : SortSt} (h : SB a₀ pd lo st) {xs : Array Keyed} (hp : xs.Perm (arrOf st)) (hl : ∀ i, i < lo → K xs i = K (arrOf st) i) : SB a₀ pd lo (setArr st xs) :=
  ⟨hp.trans h.perm, h.kind, h.failed, h.pend, fun i hi => (hl i hi).trans (h.low i hi)⟩
theorem SB.ints {st : SortSt} (h : SB a₀ pd lo st) (h0 : IntKeys a₀) : IntKeys (arrOf st) := fun p hp => h0 p ((Array.perm_iff_toList_perm.mp h.perm).mem_iff.mp hp)
theorem wpS_lo {st : SortSt} {i j : Nat} {Q : Option Bool → SortSt → Prop} (hB : SB a₀ pd lo st) (h0 : IntKeys a₀) (hi : i < a₀.size) (hj : j < a₀.size)
    (h : Q (some (decide (K (arrOf st) i < K (arrOf st) j))) st) : wpS (model prog w) A E s (ltAt' i j) Q st := by
  have hi' : i < (arrOf st).size := by rw [hB.size]; exact hi
  have hj' : j < (arrOf st).size := by rw [hB.size]; exact hj
  obtain ⟨t, e⟩ := K_int (hB.ints h0) hi'
  obtain ⟨u, f⟩ := K_int (hB.ints h0) hj'
  refine wpS_ltAt (t := t) (u := u) (p := (arrOf st)[i].2) (q := (arrOf st)[j].2) hB.kind ?_ ?_ h
  · rw [getElem?_pos _ i hi']; exact congrArg some (Prod.ext e rfl)
  · rw [getElem?_pos _ j hj']; exact congrArg some (Prod.ext f rfl)

theorem wpS_binLo {st : SortSt} {n ok : Nat} {Q : Bool → SortSt → Prop} (h0 : IntKeys a₀) (hn : lo + n ≤ a₀.size) (hok : ok ≤ n) (hB : SB a₀ pd lo st) (hs : Asc (arrOf st) lo ok)
    (h : ∀ st', SB a₀ pd lo st' → Asc (arrOf st') lo n → Q true st') : wpS (model prog w) A E s (binarySort' lo n ok) Q st := by
  unfold binarySort'
  refine wpS_bind (wpS_mono (wpS_forRange (I := fun k c st' => c = (none, ()) ∧ SB a₀ pd lo st' ∧ Asc (arrOf st') lo (min k n))
    (Q := fun c st' => c = (none, ()) ∧ SB a₀ pd lo st' ∧ Asc (arrOf st') lo n) ?_ ?_ ?_) ?_)
  · rintro k c st' hak hkn ⟨rfl, hB', hs'⟩
    rw [show min k n = k by (first | lia | omega)] at hs'
    refine wpS_bind (wpS_mono (wpS_forRange (I := fun x c st'' => st' = st'' ∧ ∃ l r, c = (none, l, r) ∧ l ≤ r ∧ r ≤ k ∧ r - l ≤ k - x ∧
        (∀ i, i < l → K (arrOf st') (lo + i) ≤ K (arrOf st') (lo + k)) ∧ (∀ i, r ≤ i → i < k → K (arrOf st') (lo + k) < K (arrOf st') (lo + i)))
      (Q := fun c st'' => st' = st'' ∧ ∃ l, c = (none, l, l) ∧ l ≤ k ∧
        (∀ i, i < l → K (arrOf st') (lo + i) ≤ K (arrOf st') (lo + k)) ∧ (∀ i, l ≤ i → i < k → K (arrOf st') (lo + k) < K (arrOf st') (lo + i))) ?_ ?_ ?_) ?_)
    · rintro x c st'' _ hxk ⟨rfl, l, r, rfl, hlr, hrk, hm, hlo, hhi⟩
      dsimp only
      by_cases hge : l ≥ r
      · rw [if_pos hge]
        have : l = r := by (first | lia | omega)
        subst this
        exact wpS_pure ⟨rfl, l, rfl, hrk, hlo, hhi⟩
      · rw [if_neg hge]
        refine wpS_bind (wpS_lo hB' h0 (by (first | lia | omega)) (by (first | lia | omega)) ?_)
        dsimp only
        by_cases hless : K (arrOf st') (lo + k) < K (arrOf st') (lo + (l + r) / 2)
        · rw [decide_eq_true hless]
          simp only [if_true]
          refine wpS_pure ⟨rfl, l, (l + r) / 2, rfl, by (first | lia | omega), by (first | lia | omega), by (first | lia | omega), hlo, fun i q1 q2 => ?_⟩
          exact Int.lt_of_lt_of_le hless (hs' _ _ q1 q2)
        · rw [decide_eq_false hless]
          simp only [Bool.false_eq_true, if_false]
          refine wpS_pure ⟨rfl, (l + r) / 2 + 1, r, rfl, by (first | lia | omega), by (first | lia | omega), by (first | lia | omega), fun i q1 => ?_, hhi⟩
          exact Int.le_trans (hs' i ((l + r) / 2) (by (first | lia | omega)) (by (first | lia | omega))) (Int.not_lt.mp hless)
    · rintro c st'' ⟨rfl, l, r, rfl, hlr, hrk, hm, hlo, hhi⟩
      have : l = r := by (first | lia | omega)
      subst this
      exact ⟨rfl, l, rfl, hrk, hlo, hhi⟩
    · exact ⟨rfl, 0, k, rfl, by (first | lia | omega), by (first | lia | omega), by (first | lia | omega), fun i hi => by (first | lia | omega), fun i q1 q2 => by (first | lia | omega)⟩
    · rintro c st'' ⟨rfl, l, rfl, hlk, hlo, hhi⟩
      dsimp only
      refine wpS_bind (wpS_modify (wpS_pure ?_))
      have hks : lo + k < (arrOf st').size := by rw [hB'.size]; (first | lia | omega)
      have kb : ∀ x, K (bubble (arrOf st') (lo + k) (lo + k - (lo + l))) x = if x = lo + l then K (arrOf st') (lo + k) else if lo + l < x ∧ x ≤ lo + k then K (arrOf st') (x - 1) else K (arrOf st') x := fun x => by
        rw [K_bubble hks (by (first | lia | omega)), show lo + k - (lo + k - (lo + l)) = lo + l by (first | lia | omega)]
      refine ⟨rfl, hB'.set (bubble_perm _ _ _) (fun i hi => (kb i).trans (by rw [if_neg (by (first | lia | omega)), if_neg (by (first | lia | omega))])), ?_⟩
      rw [show min (k + 1) n = k + 1 by (first | lia | omega)]
      intro i j hij hj
      show K (bubble (arrOf st') (lo + k) (lo + k - (lo + l))) (lo + i) ≤ K (bubble (arrOf st') (lo + k) (lo + k - (lo + l))) (lo + j)
      rw [kb, kb]
      by_cases a1 : i < l
      · rw [if_neg (by (first | lia | omega)), if_neg (by (first | lia | omega))]
        by_cases b1 : j < l
        · rw [if_neg (by (first | lia | omega)), if_neg (by (first | lia | omega))]; exact hs' _ _ hij (by (first | lia | omega))
        · by_cases b2 : j = l
          · rw [if_pos (by (first | lia | omega))]; exact hlo i a1
          · rw [if_neg (by (first | lia | omega)), if_pos (by (first | lia | omega)), show lo + j - 1 = lo + (j - 1) by (first | lia | omega)]; exact hs' _ _ (by (first | lia | omega)) (by (first | lia | omega))
      · by_cases a2 : i = l
        · rw [if_pos (by (first | lia | omega))]
          by_cases b2 : j = l
          · rw [if_pos (by (first | lia | omega))]; exact Int.le_refl _
          · rw [if_neg (by (first | lia | omega)), if_pos (by (first | lia | omega)), show lo + j - 1 = lo + (j - 1) by (first | lia | omega)]
            exact Int.le_of_lt (hhi _ (by (first | lia | omega)) (by (first | lia | omega)))
        · rw [if_neg (by (first | lia | omega)), if_pos (by (first | lia | omega)), if_neg (by (first | lia | omega)), if_pos (by (first | lia | omega)), show lo + j - 1 = lo + (j - 1) by (first | lia | omega), show lo + i - 1 = lo + (i - 1) by (first | lia | omega)]
          exact hs' _ _ (by (first | lia | omega)) (by (first | lia | omega))
  · rintro c st' ⟨hc, hB', hs'⟩
    refine ⟨hc, hB', ?_⟩
    rwa [show min (max (max ok 1) n) n = n by (first | lia | omega)] at hs'
  · refine ⟨rfl, hB, fun i j hij hj => ?_⟩
    by_cases h1 : ok = 0
    · have : i = j := by (first | lia | omega)
      subst this; exact Int.le_refl _
    · exact hs i j hij (by (first | lia | omega))
  · rintro c st' ⟨rfl, hB', hs'⟩
    exact wpS_pure (h st' hB' hs')
end
end Mine
end PartS7
section PartS8
set_option maxHeartbeats 1000000
namespace Mine
theorem asc_succ {xs : Array Keyed} {lo x : Nat} (hs : Asc xs lo x) (hx : 1 ≤ x) (h : ¬ K xs (lo + x) < K xs (lo + x - 1)) : Asc xs lo (x + 1) := by
  intro i j hij hj
  by_cases a : j < x
  · exact hs i j hij a
  · have : j = x := by (first | lia | omega)
    subst this
    by_cases b : i = j
    · subst b; exact Int.le_refl _
    · have := hs i (j - 1) (by (first | lia | omega)) (by (first | lia | omega))
      rw [show lo + (j - 1) = lo + j - 1 by (first | lia | omega)] at this
      (first | lia | omega)
theorem dsc_succ {xs : Array Keyed} {lo x : Nat} (hs : Dsc xs lo x) (hx : 1 ≤ x) (h : K xs (lo + x) ≤ K xs (lo + x - 1)) : Dsc xs lo (x + 1) := by
  intro i j hij hj
  by_cases a : j < x
  · exact hs i j hij a
  · have : j = x := by (first | lia | omega)
    subst this
    by_cases b : i = j
    · subst b; exact Int.le_refl _
    · have := hs i (j - 1) (by (first | lia | omega)) (by (first | lia | omega))
      rw [show lo + (j - 1) = lo + j - 1 by (first | lia | omega)] at this
      (first | lia | omega)
theorem dsc_of {xs ys : Array Keyed} {lo n : Nat} (e : ∀ y, K ys y = K xs y) (h : Dsc xs lo n) : Dsc ys lo n := fun i j hij hj => by rw [e, e]; exact h i j hij hj
section
variable {prog : Program} {w : World} {A : Around} {E : Value → Shared → Prop} {s : Shared} {a₀ : Array Keyed} {pd : Array (Nat × Nat × Nat)} {lo : Nat}
theorem wpS_cntLo {st : SortSt} {nrem : Nat} {Q : Option Nat → SortSt → Prop} (h0 : IntKeys a₀) (hn : lo + nrem ≤ a₀.size) (h1 : 1 ≤ nrem) (hB : SB a₀ pd lo st)
    (h : ∀ m (st' : SortSt), SB a₀ pd lo st' → 1 ≤ m → m ≤ nrem → Asc (arrOf st') lo m → Q (some m) st') : wpS (model prog w) A E s (countRun' lo nrem) Q st := by
  unfold countRun'
  refine wpS_bind (wpS_mono (wpS_forRange (I := fun x c st' => st = st' ∧ c = (none, x) ∧ Asc (arrOf st) lo x)
    (Q := fun c st' => st = st' ∧ ∃ n, c = (none, n) ∧ 1 ≤ n ∧ n ≤ nrem ∧ Asc (arrOf st) lo n ∧ (n = nrem ∨ K (arrOf st) (lo + n) < K (arrOf st) (lo + n - 1))) ?_ ?_ ?_) ?_)
  · rintro x c st' hx1 hx2 ⟨rfl, rfl, hs⟩
    dsimp only
    refine wpS_bind (wpS_lo hB h0 (by (first | lia | omega)) (by (first | lia | omega)) ?_)
    dsimp only
    by_cases hless : K (arrOf st) (lo + x) < K (arrOf st) (lo + x - 1)
    · rw [decide_eq_true hless]
      simp only [if_true]
      exact wpS_pure ⟨rfl, x, rfl, by (first | lia | omega), by (first | lia | omega), hs, .inr hless⟩
    · rw [decide_eq_false hless]
      simp only [Bool.false_eq_true, if_false]
      exact wpS_pure ⟨rfl, rfl, asc_succ hs hx1 hless⟩
  · rintro c st' ⟨rfl, rfl, hs⟩
    rw [show max 1 nrem = nrem by (first | lia | omega)] at hs ⊢
    exact ⟨rfl, nrem, rfl, h1, Nat.le_refl _, hs, .inl rfl⟩
  · refine ⟨rfl, rfl, fun i j hij hj => ?_⟩
    have : i = j := by (first | lia | omega)
    subst this; exact Int.le_refl _
  · rintro c st' ⟨rfl, n, rfl, n1, n2, hs, hnx⟩
    dsimp only
    by_cases en : n = nrem
    · rw [if_pos (by simpa using en)]
      exact wpS_pure (h n st hB n1 n2 hs)
    rw [if_neg (by simpa using en)]
    have hnx : K (arrOf st) (lo + n) < K (arrOf st) (lo + n - 1) := by
      rcases hnx with q | q
      · exact absurd q en
      · exact q
    by_cases e1 : n > 1
    · rw [if_pos e1]
      refine wpS_bind (wpS_lo hB h0 (by (first | lia | omega)) (by (first | lia | omega)) ?_)
      dsimp only
      by_cases hrose : K (arrOf st) lo < K (arrOf st) (lo + n - 1)
      · rw [decide_eq_true hrose]
        simp only [if_true]
        exact wpS_pure (h n st hB n1 n2 hs)
      · rw [decide_eq_false hrose]
        simp only [Bool.false_eq_true, if_false]
        have alleq : ∀ y, y < n → K (arrOf st) (lo + y) = K (arrOf st) (lo + n - 1) := fun y hy => by
          have a1 := hs 0 y (Nat.zero_le _) hy
          have a2 := hs y (n - 1) (by (first | lia | omega)) (by (first | lia | omega))
          rw [show lo + (n - 1) = lo + n - 1 by (first | lia | omega)] at a2
          rw [Nat.add_zero] at a1
          (first | lia | omega)
        have hm' : lo + n ≤ (arrOf st).size := by rw [hB.size]; (first | lia | omega)
        have ke : ∀ y, K (mirror (arrOf st) lo (lo + n) ((lo + n - lo) / 2)) y = K (arrOf st) y := K_mirror_equal hm' (fun y y1 y2 => by
          have := alleq (y - lo) (by (first | lia | omega))
          rw [show lo + (y - lo) = y by (first | lia | omega)] at this
          exact this)
        have D0 : Dsc (arrOf st) lo n := fun i j hij hj => by rw [alleq i (by (first | lia | omega)), alleq j hj]; exact Int.le_refl _
        refine wpS_bind (wpS_reverse ?_)
        have BX : SB a₀ pd lo (setArr st (mirror (arrOf st) lo (lo + n) ((lo + n - lo) / 2))) := hB.set (mirror_perm _ _ _ _) (fun i _ => ke i)
        have DX : Dsc (arrOf (setArr st (mirror (arrOf st) lo (lo + n) ((lo + n - lo) / 2)))) lo (n + 1) := dsc_of (fun y => ke y) (dsc_succ D0 n1 (Int.le_of_lt hnx))
        generalize setArr st (mirror (arrOf st) lo (lo + n) ((lo + n - lo) / 2)) = sX at *
        refine wpS_bind (wpS_rule ?_)
        refine wpS_bind (wpS_mono (wpS_forRange (I := fun x c st' => ∃ neq, c = (none, x, neq) ∧ SB a₀ pd lo st' ∧ Dsc (arrOf st') lo x ∧ neq + 1 ≤ x ∧ (∀ y, x - (neq + 1) ≤ y → y < x → K (arrOf st') (lo + y) = K (arrOf st') (lo + x - 1)))
          (Q := fun c st' => ∃ m neq, c = (none, m, neq) ∧ m ≤ nrem ∧ SB a₀ pd lo st' ∧ Dsc (arrOf st') lo m ∧ neq + 1 ≤ m ∧ (∀ y, m - (neq + 1) ≤ y → y < m → K (arrOf st') (lo + y) = K (arrOf st') (lo + m - 1))) ?_ ?_ ?_) ?_)
        · rintro x c st' hx1 hx2 ⟨neq, rfl, B', D', ne1, eq1⟩
          dsimp only
          refine wpS_bind (wpS_lo B' h0 (by (first | lia | omega)) (by (first | lia | omega)) ?_)
          dsimp only
          by_cases hless : K (arrOf st') (lo + x) < K (arrOf st') (lo + x - 1)
          · rw [decide_eq_true hless]
            simp only [if_true]
            by_cases hq : neq > 0
            · rw [if_pos hq]
              refine wpS_bind (wpS_reverse ?_)
              have hm' : lo + x ≤ (arrOf st').size := by rw [B'.size]; (first | lia | omega)
              have ke : ∀ y, K (mirror (arrOf st') (lo + x - (neq + 1)) (lo + x) ((lo + x - (lo + x - (neq + 1))) / 2)) y = K (arrOf st') y := K_mirror_equal hm' (fun y y1 y2 => by
                have := eq1 (y - lo) (by (first | lia | omega)) (by (first | lia | omega))
                rw [show lo + (y - lo) = y by (first | lia | omega)] at this
                exact this)
              refine wpS_pure ⟨0, rfl, B'.set (mirror_perm _ _ _ _) (fun i _ => ke i), ?_, by (first | lia | omega), ?_⟩
              · refine dsc_of (fun y => ke y) (dsc_succ D' (by (first | lia | omega)) (Int.le_of_lt hless))
              · intro y y1 y2
                have : y = x := by (first | lia | omega)
                subst this
                rfl
            · rw [if_neg hq]
              refine wpS_pure ⟨0, rfl, B', dsc_succ D' (by (first | lia | omega)) (Int.le_of_lt hless), by (first | lia | omega), ?_⟩
              intro y y1 y2
              have : y = x := by (first | lia | omega)
              subst this
              rfl
          · rw [decide_eq_false hless]
            simp only [Bool.false_eq_true, if_false]
            refine wpS_bind (wpS_lo B' h0 (by (first | lia | omega)) (by (first | lia | omega)) ?_)
            dsimp only
            by_cases hlarge : K (arrOf st') (lo + x - 1) < K (arrOf st') (lo + x)
            · rw [decide_eq_true hlarge]
              simp only [if_true]
              exact wpS_pure ⟨x, neq, rfl, by (first | lia | omega), B', D', ne1, eq1⟩
            · rw [decide_eq_false hlarge]
              simp only [Bool.false_eq_true, if_false]
              have heq : K (arrOf st') (lo + x) = K (arrOf st') (lo + x - 1) := by (first | lia | omega)
              refine wpS_pure ⟨neq + 1, rfl, B', dsc_succ D' (by (first | lia | omega)) (by (first | lia | omega)), by (first | lia | omega), ?_⟩
              intro y y1 y2
              show K (arrOf st') (lo + y) = K (arrOf st') (lo + x)
              by_cases e : y = x
              · rw [e]
              · rw [heq]; exact eq1 y (by (first | lia | omega)) (by (first | lia | omega))
        · rintro c st' ⟨neq, rfl, B', D', ne1, eq1⟩
          rw [show max (n + 1) nrem = nrem by (first | lia | omega)] at D' eq1 ne1 ⊢
          exact ⟨nrem, neq, rfl, Nat.le_refl _, B', D', ne1, eq1⟩
        · refine ⟨0, rfl, BX, DX, by (first | lia | omega), ?_⟩
          intro y y1 y2
          have : y = n := by (first | lia | omega)
          subst this
          rfl
        · rintro c sW ⟨m, neq, rfl, m2, BW, DW, ne1, eq1⟩
          dsimp only
          have m1 : 1 ≤ m := by (first | lia | omega)
          by_cases hq : neq > 0
          · rw [if_pos hq]
            have hm' : lo + m ≤ (arrOf sW).size := by rw [BW.size]; (first | lia | omega)
            have ke : ∀ y, K (mirror (arrOf sW) (lo + m - (neq + 1)) (lo + m) ((lo + m - (lo + m - (neq + 1))) / 2)) y = K (arrOf sW) y := K_mirror_equal hm' (fun y y1 y2 => by
              have := eq1 (y - lo) (by (first | lia | omega)) (by (first | lia | omega))
              rw [show lo + (y - lo) = y by (first | lia | omega)] at this
              exact this)
            refine wpS_bind (wpS_reverse ?_)
            have BY : SB a₀ pd lo (setArr sW (mirror (arrOf sW) (lo + m - (neq + 1)) (lo + m) ((lo + m - (lo + m - (neq + 1))) / 2))) := BW.set (mirror_perm _ _ _ _) (fun i _ => ke i)
            have DY : Dsc (arrOf (setArr sW (mirror (arrOf sW) (lo + m - (neq + 1)) (lo + m) ((lo + m - (lo + m - (neq + 1))) / 2)))) lo m := dsc_of (fun y => ke y) DW
            generalize setArr sW (mirror (arrOf sW) (lo + m - (neq + 1)) (lo + m) ((lo + m - (lo + m - (neq + 1))) / 2)) = sY at *
            have hmy : lo + m ≤ (arrOf sY).size := by rw [BY.size]; (first | lia | omega)
            have kmy : ∀ x, K (mirror (arrOf sY) lo (lo + m) ((lo + m - lo) / 2)) x = if lo ≤ x ∧ x < lo + m then K (arrOf sY) (lo + (lo + m) - 1 - x) else K (arrOf sY) x := fun x => K_mirror hmy x
            refine wpS_bind (wpS_reverse ?_)
            have BZ : SB a₀ pd lo (setArr sY (mirror (arrOf sY) lo (lo + m) ((lo + m - lo) / 2))) := BY.set (mirror_perm _ _ _ _) fun i hi => (kmy i).trans (by rw [if_neg (by (first | lia | omega))])
            have AZ : Asc (arrOf (setArr sY (mirror (arrOf sY) lo (lo + m) ((lo + m - lo) / 2)))) lo m := fun i j hij hj => by
              show K (mirror (arrOf sY) lo (lo + m) ((lo + m - lo) / 2)) (lo + i) ≤ K (mirror (arrOf sY) lo (lo + m) ((lo + m - lo) / 2)) (lo + j)
              rw [kmy, kmy, if_pos (by (first | lia | omega)), if_pos (by (first | lia | omega)), show lo + (lo + m) - 1 - (lo + i) = lo + (m - 1 - i) by (first | lia | omega), show lo + (lo + m) - 1 - (lo + j) = lo + (m - 1 - j) by (first | lia | omega)]
              exact DY _ _ (by (first | lia | omega)) (by (first | lia | omega))
            generalize setArr sY (mirror (arrOf sY) lo (lo + m) ((lo + m - lo) / 2)) = sZ at *
            refine wpS_bind (wpS_mono (wpS_forRange (I := fun x c st' => sZ = st' ∧ c = (none, x) ∧ Asc (arrOf sZ) lo x)
              (Q := fun c st' => sZ = st' ∧ ∃ n, c = (none, n) ∧ 1 ≤ n ∧ n ≤ nrem ∧ Asc (arrOf sZ) lo n) ?_ ?_ ?_) ?_)
            · rintro x c st' hx1 hx2 ⟨rfl, rfl, hs⟩
              dsimp only
              refine wpS_bind (wpS_lo BZ h0 (by (first | lia | omega)) (by (first | lia | omega)) ?_)
              dsimp only
              by_cases hless : K (arrOf sZ) (lo + x) < K (arrOf sZ) (lo + x - 1)
              · rw [decide_eq_true hless]
                simp only [if_true]
                exact wpS_pure ⟨rfl, x, rfl, by (first | lia | omega), by (first | lia | omega), hs⟩
              · rw [decide_eq_false hless]
                simp only [Bool.false_eq_true, if_false]
                exact wpS_pure ⟨rfl, rfl, asc_succ hs (by (first | lia | omega)) hless⟩
            · rintro c st' ⟨rfl, rfl, hs⟩
              rw [show max m nrem = nrem by (first | lia | omega)] at hs ⊢
              exact ⟨rfl, nrem, rfl, by (first | lia | omega), Nat.le_refl _, hs⟩
            · exact ⟨rfl, rfl, AZ⟩
            · rintro c st' ⟨rfl, n', rfl, q1, q2, q3⟩
              dsimp only
              exact wpS_pure (h n' sZ BZ q1 q2 q3)

          · rw [if_neg hq]
            have BY := BW
            have DY := DW
            generalize sW = sY at *
            have hmy : lo + m ≤ (arrOf sY).size := by rw [BY.size]; (first | lia | omega)
            have kmy : ∀ x, K (mirror (arrOf sY) lo (lo + m) ((lo + m - lo) / 2)) x = if lo ≤ x ∧ x < lo + m then K (arrOf sY) (lo + (lo + m) - 1 - x) else K (arrOf sY) x := fun x => K_mirror hmy x
            refine wpS_bind (wpS_reverse ?_)
            have BZ : SB a₀ pd lo (setArr sY (mirror (arrOf sY) lo (lo + m) ((lo + m - lo) / 2))) := BY.set (mirror_perm _ _ _ _) fun i hi => (kmy i).trans (by rw [if_neg (by (first | lia | omega))])
            have AZ : Asc (arrOf (setArr sY (mirror (arrOf sY) lo (lo + m) ((lo + m - lo) / 2)))) lo m := fun i j hij hj => by
              show K (mirror (arrOf sY) lo (lo + m) ((lo + m - lo) / 2)) (lo + i) ≤ K (mirror (arrOf sY) lo (lo + m) ((lo + m - lo) / 2)) (lo + j)
              rw [kmy, kmy, if_pos (by (first | lia | omega)), if_pos (by (first | lia | omega)), show lo + (lo + m) - 1 - (lo + i) = lo + (m - 1 - i) by (first | lia | omega), show lo + (lo + m) - 1 - (lo + j) = lo + (m - 1 - j) by (first | lia | omega)]
              exact DY _ _ (by (first | lia | omega)) (by (first | lia | omega))
            generalize setArr sY (mirror (arrOf sY) lo (lo + m) ((lo + m - lo) / 2)) = sZ at *
            refine wpS_bind (wpS_mono (wpS_forRange (I := fun x c st' => sZ = st' ∧ c = (none, x) ∧ Asc (arrOf sZ) lo x)
              (Q := fun c st' => sZ = st' ∧ ∃ n, c = (none, n) ∧ 1 ≤ n ∧ n ≤ nrem ∧ Asc (arrOf sZ) lo n) ?_ ?_ ?_) ?_)
            · rintro x c st' hx1 hx2 ⟨rfl, rfl, hs⟩
              dsimp only
              refine wpS_bind (wpS_lo BZ h0 (by (first | lia | omega)) (by (first | lia | omega)) ?_)
              dsimp only
              by_cases hless : K (arrOf sZ) (lo + x) < K (arrOf sZ) (lo + x - 1)
              · rw [decide_eq_true hless]
                simp only [if_true]
                exact wpS_pure ⟨rfl, x, rfl, by (first | lia | omega), by (first | lia | omega), hs⟩
              · rw [decide_eq_false hless]
                simp only [Bool.false_eq_true, if_false]
                exact wpS_pure ⟨rfl, rfl, asc_succ hs (by (first | lia | omega)) hless⟩
            · rintro c st' ⟨rfl, rfl, hs⟩
              rw [show max m nrem = nrem by (first | lia | omega)] at hs ⊢
              exact ⟨rfl, nrem, rfl, by (first | lia | omega), Nat.le_refl _, hs⟩
            · exact ⟨rfl, rfl, AZ⟩
            · rintro c st' ⟨rfl, n', rfl, q1, q2, q3⟩
              dsimp only
              exact wpS_pure (h n' sZ BZ q1 q2 q3)
    · rw [if_neg e1]
      have en1 : n = 1 := by (first | lia | omega)
      have BX := hB
      have D0 : Dsc (arrOf st) lo n := fun i j hij hj => by
        have : i = j := by (first | lia | omega)
        subst this; exact Int.le_refl _
      have DX : Dsc (arrOf st) lo (n + 1) := dsc_succ D0 n1 (Int.le_of_lt hnx)
      generalize st = sX at *
      refine wpS_bind (wpS_rule ?_)
      refine wpS_bind (wpS_mono (wpS_forRange (I := fun x c st' => ∃ neq, c = (none, x, neq) ∧ SB a₀ pd lo st' ∧ Dsc (arrOf st') lo x ∧ neq + 1 ≤ x ∧ (∀ y, x - (neq + 1) ≤ y → y < x → K (arrOf st') (lo + y) = K (arrOf st') (lo + x - 1)))
        (Q := fun c st' => ∃ m neq, c = (none, m, neq) ∧ m ≤ nrem ∧ SB a₀ pd lo st' ∧ Dsc (arrOf st') lo m ∧ neq + 1 ≤ m ∧ (∀ y, m - (neq + 1) ≤ y → y < m → K (arrOf st') (lo + y) = K (arrOf st') (lo + m - 1))) ?_ ?_ ?_) ?_)
      · rintro x c st' hx1 hx2 ⟨neq, rfl, B', D', ne1, eq1⟩
        dsimp only
        refine wpS_bind (wpS_lo B' h0 (by (first | lia | omega)) (by (first | lia | omega)) ?_)
        dsimp only
        by_cases hless : K (arrOf st') (lo + x) < K (arrOf st') (lo + x - 1)
        · rw [decide_eq_true hless]
          simp only [if_true]
          by_cases hq : neq > 0
          · rw [if_pos hq]
            refine wpS_bind (wpS_reverse ?_)
            have hm' : lo + x ≤ (arrOf st').size := by rw [B'.size]; (first | lia | omega)
            have ke : ∀ y, K (mirror (arrOf st') (lo + x - (neq + 1)) (lo + x) ((lo + x - (lo + x - (neq + 1))) / 2)) y = K (arrOf st') y := K_mirror_equal hm' (fun y y1 y2 => by
              have := eq1 (y - lo) (by (first | lia | omega)) (by (first | lia | omega))
              rw [show lo + (y - lo) = y by (first | lia | omega)] at this
              exact this)
            refine wpS_pure ⟨0, rfl, B'.set (mirror_perm _ _ _ _) (fun i _ => ke i), ?_, by (first | lia | omega), ?_⟩
            · refine dsc_of (fun y => ke y) (dsc_succ D' (by (first | lia | omega)) (Int.le_of_lt hless))
            · intro y y1 y2
              have : y = x := by (first | lia | omega)
              subst this
              rfl
          · rw [if_neg hq]
            refine wpS_pure ⟨0, rfl, B', dsc_succ D' (by (first | lia | omega)) (Int.le_of_lt hless), by (first | lia | omega), ?_⟩
            intro y y1 y2
            have : y = x := by (first | lia | omega)
            subst this
            rfl
        · rw [decide_eq_false hless]
          simp only [Bool.false_eq_true, if_false]
          refine wpS_bind (wpS_lo B' h0 (by (first | lia | omega)) (by (first | lia | omega)) ?_)
          dsimp only
          by_cases hlarge : K (arrOf st') (lo + x - 1) < K (arrOf st') (lo + x)
          · rw [decide_eq_true hlarge]
            simp only [if_true]
            exact wpS_pure ⟨x, neq, rfl, by (first | lia | omega), B', D', ne1, eq1⟩
          · rw [decide_eq_false hlarge]
            simp only [Bool.false_eq_true, if_false]
            have heq : K (arrOf st') (lo + x) = K (arrOf st') (lo + x - 1) := by (first | lia | omega)
            refine wpS_pure ⟨neq + 1, rfl, B', dsc_succ D' (by (first | lia | omega)) (by (first | lia | omega)), by (first | lia | omega), ?_⟩
            intro y y1 y2
            show K (arrOf st') (lo + y) = K (arrOf st') (lo + x)
            by_cases e : y = x
            · rw [e]
            · rw [heq]; exact eq1 y (by (first | lia | omega)) (by (first | lia | omega))
      · rintro c st' ⟨neq, rfl, B', D', ne1, eq1⟩
        rw [show max (n + 1) nrem = nrem by (first | lia | omega)] at D' eq1 ne1 ⊢
        exact ⟨nrem, neq, rfl, Nat.le_refl _, B', D', ne1, eq1⟩
      · refine ⟨0, rfl, BX, DX, by (first | lia | omega), ?_⟩
        intro y y1 y2
        have : y = n := by (first | lia | omega)
        subst this
        rfl
      · rintro c sW ⟨m, neq, rfl, m2, BW, DW, ne1, eq1⟩
        dsimp only
        have m1 : 1 ≤ m := by (first | lia | omega)
        by_cases hq : neq > 0
        · rw [if_pos hq]
          have hm' : lo + m ≤ (arrOf sW).size := by rw [BW.size]; (first | lia | omega)
          have ke : ∀ y, K (mirror (arrOf sW) (lo + m - (neq + 1)) (lo + m) ((lo + m - (lo + m - (neq + 1))) / 2)) y = K (arrOf sW) y := K_mirror_equal hm' (fun y y1 y2 => by
            have := eq1 (y - lo) (by (first | lia | omega)) (by (first | lia | omega))
            rw [show lo + (y - lo) = y by (first | lia | omega)] at this
            exact this)
          refine wpS_bind (wpS_reverse ?_)
          have BY : SB a₀ pd lo (setArr sW (mirror (arrOf sW) (lo + m - (neq + 1)) (lo + m) ((lo + m - (lo + m - (neq + 1))) / 2))) := BW.set (mirror_perm _ _ _ _) (fun i _ => ke i)
          have DY : Dsc (arrOf (setArr sW (mirror (arrOf sW) (lo + m - (neq + 1)) (lo + m) ((lo + m - (lo + m - (neq + 1))) / 2)))) lo m := dsc_of (fun y => ke y) DW
          generalize setArr sW (mirror (arrOf sW) (lo + m - (neq + 1)) (lo + m) ((lo + m - (lo + m - (neq + 1))) / 2)) = sY at *
          have hmy : lo + m ≤ (arrOf sY).size := by rw [BY.size]; (first | lia | omega)
          have kmy : ∀ x, K (mirror (arrOf sY) lo (lo + m) ((lo + m - lo) / 2)) x = if lo ≤ x ∧ x < lo + m then K (arrOf sY) (lo + (lo + m) - 1 - x) else K (arrOf sY) x := fun x => K_mirror hmy x
          refine wpS_bind (wpS_reverse ?_)
          have BZ : SB a₀ pd lo (setArr sY (mirror (arrOf sY) lo (lo + m) ((lo + m - lo) / 2))) := BY.set (mirror_perm _ _ _ _) fun i hi => (kmy i).trans (by rw [if_neg (by (first | lia | omega))])
          have AZ : Asc (arrOf (setArr sY (mirror (arrOf sY) lo (lo + m) ((lo + m - lo) / 2)))) lo m := fun i j hij hj => by
            show K (mirror (arrOf sY) lo (lo + m) ((lo + m - lo) / 2)) (lo + i) ≤ K (mirror (arrOf sY) lo (lo + m) ((lo + m - lo) / 2)) (lo + j)
            rw [kmy, kmy, if_pos (by (first | lia | omega)), if_pos (by (first | lia | omega)), show lo + (lo + m) - 1 - (lo + i) = lo + (m - 1 - i) by (first | lia | omega), show lo + (lo + m) - 1 - (lo + j) = lo + (m - 1 - j) by (first | lia | omega)]
            exact DY _ _ (by (first | lia | omega)) (by (first | lia | omega))
          generalize setArr sY (mirror (arrOf sY) lo (lo + m) ((lo + m - lo) / 2)) = sZ at *
          refine wpS_bind (wpS_mono (wpS_forRange (I := fun x c st' => sZ = st' ∧ c = (none, x) ∧ Asc (arrOf sZ) lo x)
            (Q := fun c st' => sZ = st' ∧ ∃ n, c = (none, n) ∧ 1 ≤ n ∧ n ≤ nrem ∧ Asc (arrOf sZ) lo n) ?_ ?_ ?_) ?_)
          · rintro x c st' hx1 hx2 ⟨rfl, rfl, hs⟩
            dsimp only
            refine wpS_bind (wpS_lo BZ h0 (by (first | lia | omega)) (by (first | lia | omega)) ?_)
            dsimp only
            by_cases hless : K (arrOf sZ) (lo + x) < K (arrOf sZ) (lo + x - 1)
            · rw [decide_eq_true hless]
              simp only [if_true]
              exact wpS_pure ⟨rfl, x, rfl, by (first | lia | omega), by (first | lia | omega), hs⟩
            · rw [decide_eq_false hless]
              simp only [Bool.false_eq_true, if_false]
              exact wpS_pure ⟨rfl, rfl, asc_succ hs (by (first | lia | omega)) hless⟩
          · rintro c st' ⟨rfl, rfl, hs⟩
            rw [show max m nrem = nrem by (first | lia | omega)] at hs ⊢
            exact ⟨rfl, nrem, rfl, by (first | lia | omega), Nat.le_refl _, hs⟩
          · exact ⟨rfl, rfl, AZ⟩
          · rintro c st' ⟨rfl, n', rfl, q1, q2, q3⟩
            dsimp only
            exact wpS_pure (h n' sZ BZ q1 q2 q3)

        · rw [if_neg hq]
          have BY := BW
          have DY := DW
          generalize sW = sY at *
          have hmy : lo + m ≤ (arrOf sY).size := by rw [BY.size]; (first | lia | omega)
          have kmy : ∀ x, K (mirror (arrOf sY) lo (lo + m) ((lo + m - lo) / 2)) x = if lo ≤ x ∧ x < lo + m then K (arrOf sY) (lo + (lo + m) - 1 - x) else K (arrOf sY) x := fun x => K_mirror hmy x
          refine wpS_bind (wpS_reverse ?_)
          have BZ : SB a₀ pd lo (setArr sY (mirror (arrOf sY) lo (lo + m) ((lo + m - lo) / 2))) := BY.set (mirror_perm _ _ _ _) fun i hi => (kmy i).trans (by rw [if_neg (by (first | lia | omega))])
          have AZ : Asc (arrOf (setArr sY (mirror (arrOf sY) lo (lo + m) ((lo + m - lo) / 2)))) lo m := fun i j hij hj => by
            show K (mirror (arrOf sY) lo (lo + m) ((lo + m - lo) / 2)) (lo + i) ≤ K (mirror (arrOf sY) lo (lo + m) ((lo + m - lo) / 2)) (lo + j)
            rw [kmy, kmy, if_pos (by (first | lia | omega)), if_pos (by (first | lia | omega)), show lo + (lo + m) - 1 - (lo + i) = lo + (m - 1 - i) by (first | lia | omega), show lo + (lo + m) - 1 - (lo + j) = lo + (m - 1 - j) by (first | lia | omega)]
            exact DY _ _ (by (first | lia | omega)) (by (first | lia | omega))
          generalize setArr sY (mirror (arrOf sY) lo (lo + m) ((lo + m - lo) / 2)) = sZ at *
          refine wpS_bind (wpS_mono (wpS_forRange (I := fun x c st' => sZ = st' ∧ c = (none, x) ∧ Asc (arrOf sZ) lo x)
            (Q := fun c st' => sZ = st' ∧ ∃ n, c = (none, n) ∧ 1 ≤ n ∧ n ≤ nrem ∧ Asc (arrOf sZ) lo n) ?_ ?_ ?_) ?_)
          · rintro x c st' hx1 hx2 ⟨rfl, rfl, hs⟩
            dsimp only
            refine wpS_bind (wpS_lo BZ h0 (by (first | lia | omega)) (by (first | lia | omega)) ?_)
            dsimp only
            by_cases hless : K (arrOf sZ) (lo + x) < K (arrOf sZ) (lo + x - 1)
            · rw [decide_eq_true hless]
              simp only [if_true]
              exact wpS_pure ⟨rfl, x, rfl, by (first | lia | omega), by (first | lia | omega), hs⟩
            · rw [decide_eq_false hless]
              simp only [Bool.false_eq_true, if_false]
              exact wpS_pure ⟨rfl, rfl, asc_succ hs (by (first | lia | omega)) hless⟩
          · rintro c st' ⟨rfl, rfl, hs⟩
            rw [show max m nrem = nrem by (first | lia | omega)] at hs ⊢
            exact ⟨rfl, nrem, rfl, by (first | lia | omega), Nat.le_refl _, hs⟩
          · exact ⟨rfl, rfl, AZ⟩
          · rintro c st' ⟨rfl, n', rfl, q1, q2, q3⟩
            dsimp only
            exact wpS_pure (h n' sZ BZ q1 q2 q3)
end
end Mine
end PartS8
section PartS9
set_option maxHeartbeats 1000000
namespace Mine
section
variable {prog : Program} {w : World} {A : Around} {E : Value → Shared → Prop} {s : Shared} {a₀ : Array Keyed}
/-- behind the first run -/
structure R1 (a₀ : Array Keyed) (n1 : Nat) (st : SortSt) : Prop where
  perm : (arrOf st).Perm a₀
  kind : PyProof.Rows.kindOf st = oneType'
  failed : failedOf st = none
  pend : pendingOf st = #[(0, n1, 0)]
  srt : SortedTo (arrOf st) n1
/-- behind both -/
structure R2 (a₀ : Array Keyed) (n1 n2 pw : Nat) (st : SortSt) : Prop where
  perm : (arrOf st).Perm a₀
  kind : PyProof.Rows.kindOf st = oneType'
  failed : failedOf st = none
  pend : pendingOf st = #[(0, n1, pw), (n1, n2, 0)]
  ka : ∀ i j, i ≤ j → j < n1 → K (arrOf st) i ≤ K (arrOf st) j
  kb : ∀ i j, n1 ≤ i → i ≤ j → j < n1 + n2 → K (arrOf st) i ≤ K (arrOf st) j
theorem perm_ints {a b : Array Keyed} (p : a.Perm b) (h : IntKeys b) : IntKeys a := fun x hx => h x ((Array.perm_iff_toList_perm.mp p).mem_iff.mp hx)
theorem wpS_runs2 {st : SortSt} {Q : Unit → SortSt → Prop} (h0 : IntKeys a₀) (hB : SBase a₀ st) (h64 : 64 ≤ a₀.size) (h69 : a₀.size < 128)
    (h : ∀ st' : SortSt, (arrOf st').Perm a₀ → failedOf st' = none → SortedTo (arrOf st') a₀.size → Q () st') : wpS (model prog w) A E s sortRuns' Q st := by
  obtain ⟨mr, hmr, hmr1, hmr2⟩ : ∃ mr, minRun' a₀.size a₀.size 0 = mr ∧ a₀.size ≤ 2 * mr ∧ mr ≤ a₀.size := by
    refine ⟨a₀.size / 2 + a₀.size % 2, ?_, by (first | lia | omega), by (first | lia | omega)⟩
    obtain ⟨f, hf⟩ : ∃ f, a₀.size = f + 1 + 1 := ⟨a₀.size - 2, by (first | lia | omega)⟩
    have : minRun' (f + 1 + 1) a₀.size 0 = a₀.size / 2 + a₀.size % 2 := by
      rw [minRun'_succ, if_neg (by (first | lia | omega)), minRun'_succ, if_pos (by (first | lia | omega))]
      (first | lia | omega)
    rwa [← hf] at this
  unfold sortRuns'
  refine wpS_bind (wpS_get ?_)
  dsimp only
  rw [show (arrOf st).size = a₀.size from hB.size]
  unfold minRun' at hmr
  rw [hmr]
  refine wpS_bind (wpS_mono (wpS_forRange
    (I := fun x c st' => (x = 0 ∧ c = (none, 0) ∧ SBase a₀ st') ∨ (∃ n1, 1 ≤ x ∧ mr ≤ n1 ∧ n1 ≤ a₀.size ∧ (x = 1 ∨ n1 = a₀.size) ∧ c = (none, n1) ∧ R1 a₀ n1 st') ∨
      (∃ n1 pw, 0 < n1 ∧ n1 < a₀.size ∧ c = (none, a₀.size) ∧ R2 a₀ n1 (a₀.size - n1) pw st'))
    (Q := fun c st' => c = (none, a₀.size) ∧ (R1 a₀ a₀.size st' ∨ ∃ n1 pw, 0 < n1 ∧ n1 < a₀.size ∧ R2 a₀ n1 (a₀.size - n1) pw st')) ?_ ?_ (.inl ⟨rfl, rfl, hB⟩)) ?_)
  · rintro x c st' _ hx (⟨rfl, rfl, hB'⟩ | ⟨n1, hx1, hn1, hn1s, hxo, rfl, R⟩ | ⟨n1, pw, q1, q2, rfl, R⟩)
    · dsimp only
      rw [if_neg (by (first | lia | omega)), Nat.sub_zero]
      refine wpS_bind (wpS_countRun h0 (Nat.le_refl _) (by (first | lia | omega)) hB' fun m st2 hB2 hm1 hm2 hs2 => ?_)
      dsimp only
      by_cases hlt : m < mr
      · rw [if_pos hlt]
        refine wpS_bind (wpS_rule ?_)
        rw [show min a₀.size mr = mr by (first | lia | omega)]
        refine wpS_bind (wpS_binarySort h0 (by (first | lia | omega)) (by (first | lia | omega)) hB2 hs2 fun st3 hB3 hs3 => ?_)
        simp only [Bool.not_true, Bool.false_eq_true, if_false]
        refine wpS_bind (wpS_get ?_)
        rw [show (pendingOf st3).back? = none by rw [hB3.pend]; rfl]
        dsimp only
        refine wpS_bind (wpS_modify (wpS_pure (.inr (.inl ⟨mr, by (first | lia | omega), Nat.le_refl _, hmr2, .inl (by first | trivial | rfl), by rw [Nat.zero_add], ?_⟩))))
        exact ⟨hB3.perm, hB3.kind, hB3.failed, by show (pendingOf st3).push _ = _; rw [hB3.pend]; rfl, hs3⟩
      · rw [if_neg hlt]
        refine wpS_bind (wpS_get ?_)
        rw [show (pendingOf st2).back? = none by rw [hB2.pend]; rfl]
        dsimp only
        refine wpS_bind (wpS_modify (wpS_pure (.inr (.inl ⟨m, by (first | lia | omega), by (first | lia | omega), hm2, .inl rfl, by rw [Nat.zero_add], ?_⟩))))
        exact ⟨hB2.perm, hB2.kind, hB2.failed, by show (pendingOf st2).push _ = _; rw [hB2.pend]; rfl, hs2⟩
    · dsimp only
      by_cases hge : n1 ≥ a₀.size
      · rw [if_pos hge]
        have : n1 = a₀.size := by (first | lia | omega)
        subst this
        exact wpS_pure ⟨rfl, .inl R⟩
      · rw [if_neg hge]
        have hlt : n1 < a₀.size := by (first | lia | omega)
        have hn1 : 1 ≤ n1 := by (first | lia | omega)
        have i1 : IntKeys (arrOf st') := perm_ints R.perm h0
        have sz1 : (arrOf st').size = a₀.size := R.perm.size_eq
        have B1 : SB (arrOf st') #[(0, n1, 0)] n1 st' := ⟨Array.Perm.refl _, R.kind, R.failed, R.pend, fun _ _ => rfl⟩
        refine wpS_bind (wpS_cntLo i1 (by (first | lia | omega)) (by (first | lia | omega)) B1 fun m st2 B2 hm1 hm2 A2 => ?_)
        dsimp only
        by_cases hlm : m < mr
        · rw [if_pos hlm]
          refine wpS_bind (wpS_rule ?_)
          rw [show min (a₀.size - n1) mr = a₀.size - n1 by (first | lia | omega)]
          refine wpS_bind (wpS_binLo i1 (by (first | lia | omega)) hm2 B2 A2 fun st3 B3 A3 => ?_)
          simp only [Bool.not_true, Bool.false_eq_true, if_false]
          refine wpS_bind (wpS_get ?_)
          rw [show (pendingOf st3).back? = some (0, n1, 0) by rw [B3.pend]; rfl]
          dsimp only
          refine wpS_bind (wpS_mono (wpS_forRange (I := fun _ c st'' => st3 = st'' ∧ c = (none, ())) (Q := fun c st'' => st3 = st'' ∧ c = (none, ())) ?_ (fun _ _ hh => hh) ⟨rfl, rfl⟩) ?_)
          · rintro y c st'' _ _ ⟨rfl, rfl⟩
            refine wpS_bind (wpS_get ?_)
            have pe : (sortPriv% PySem.Builtin.SortState.pending) st3 = #[(0, n1, 0)] := B3.pend
            rw [pe, if_neg (by simp)]
            exact wpS_pure ⟨rfl, rfl⟩
          · rintro c st'' ⟨rfl, rfl⟩
            dsimp only
            refine wpS_bind (wpS_modify ?_)
            refine wpS_bind (wpS_modify ?_)
            refine wpS_pure (.inr (.inr ⟨n1, power' a₀.size (2 * 0 + n1) (2 * 0 + n1 + n1 + (a₀.size - n1)) a₀.size, ?_, hlt, ?_, ?_⟩))
            · exact Nat.lt_of_lt_of_le Nat.zero_lt_one hn1
            · exact Prod.ext rfl (show n1 + (a₀.size - n1) = a₀.size by (first | lia | omega))
            · refine ⟨B3.perm.trans R.perm, B3.kind, B3.failed, ?_, fun i j hij hj => ?_, fun i j hi hij hj => ?_⟩
              · show ((pendingOf st3).modify _ _).push _ = _
                rw [B3.pend]
                apply Array.ext'
                simp
                have pe : (sortPriv% PySem.Builtin.SortState.pending) st3 = #[(0, n1, 0)] := B3.pend
                rw [pe]
                rfl
              · show K (arrOf st3) i ≤ K (arrOf st3) j
                rw [B3.low i (by (first | lia | omega)), B3.low j hj]
                exact R.srt i j hij hj
              · have := A3 (i - n1) (j - n1) (by (first | lia | omega)) (by (first | lia | omega))
                rw [show n1 + (i - n1) = i by (first | lia | omega), show n1 + (j - n1) = j by (first | lia | omega)] at this
                exact this
        · rw [if_neg hlm]
          have em : m = a₀.size - n1 := by (first | lia | omega)
          subst em
          have B3 := B2
          have A3 := A2
          generalize st2 = st3 at *
          refine wpS_bind (wpS_get ?_)
          rw [show (pendingOf st3).back? = some (0, n1, 0) by rw [B3.pend]; rfl]
          dsimp only
          refine wpS_bind (wpS_mono (wpS_forRange (I := fun _ c st'' => st3 = st'' ∧ c = (none, ())) (Q := fun c st'' => st3 = st'' ∧ c = (none, ())) ?_ (fun _ _ hh => hh) ⟨rfl, rfl⟩) ?_)
          · rintro y c st'' _ _ ⟨rfl, rfl⟩
            refine wpS_bind (wpS_get ?_)
            have pe : (sortPriv% PySem.Builtin.SortState.pending) st3 = #[(0, n1, 0)] := B3.pend
            rw [pe, if_neg (by simp)]
            exact wpS_pure ⟨rfl, rfl⟩
          · rintro c st'' ⟨rfl, rfl⟩
            dsimp only
            refine wpS_bind (wpS_modify ?_)
            refine wpS_bind (wpS_modify ?_)
            refine wpS_pure (.inr (.inr ⟨n1, power' a₀.size (2 * 0 + n1) (2 * 0 + n1 + n1 + (a₀.size - n1)) a₀.size, ?_, hlt, ?_, ?_⟩))
            · exact Nat.lt_of_lt_of_le Nat.zero_lt_one hn1
            · exact Prod.ext rfl (show n1 + (a₀.size - n1) = a₀.size by (first | lia | omega))
            · refine ⟨B3.perm.trans R.perm, B3.kind, B3.failed, ?_, fun i j hij hj => ?_, fun i j hi hij hj => ?_⟩
              · show ((pendingOf st3).modify _ _).push _ = _
                rw [B3.pend]
                apply Array.ext'
                simp
                have pe : (sortPriv% PySem.Builtin.SortState.pending) st3 = #[(0, n1, 0)] := B3.pend
                rw [pe]
                rfl
              · show K (arrOf st3) i ≤ K (arrOf st3) j
                rw [B3.low i (by (first | lia | omega)), B3.low j hj]
                exact R.srt i j hij hj
              · have := A3 (i - n1) (j - n1) (by (first | lia | omega)) (by (first | lia | omega))
                rw [show n1 + (i - n1) = i by (first | lia | omega), show n1 + (j - n1) = j by (first | lia | omega)] at this
                exact this
    · dsimp only
      rw [if_pos (Nat.le_refl _)]
      exact wpS_pure ⟨rfl, .inr ⟨n1, pw, q1, q2, R⟩⟩
  · rintro c st' (⟨hx, _, _⟩ | ⟨n1, hx1, hn1, hn1s, hxo, rfl, R⟩ | ⟨n1, pw, q1, q2, rfl, R⟩)
    · (first | lia | omega)
    · have : n1 = a₀.size := by (first | lia | omega)
      subst this
      exact ⟨rfl, .inl R⟩
    · exact ⟨rfl, .inr ⟨n1, pw, q1, q2, R⟩⟩
  · rintro c st' ⟨rfl, hR⟩
    dsimp only
    refine wpS_bind (wpS_mono (wpS_forRange (I := fun y c st'' => c = (none, ()) ∧ ((∃ n1 pw, 0 < n1 ∧ n1 < a₀.size ∧ R2 a₀ n1 (a₀.size - n1) pw st'' ∧ y = 0) ∨ ((arrOf st'').Perm a₀ ∧ failedOf st'' = none ∧ SortedTo (arrOf st'') a₀.size ∧ ∃ z, pendingOf st'' = #[z])))
      (Q := fun c st'' => c = (none, ()) ∧ (arrOf st'').Perm a₀ ∧ failedOf st'' = none ∧ SortedTo (arrOf st'') a₀.size) ?_ ?_ ?_) ?_)
    · rintro y c st'' _ _ ⟨rfl, (⟨n1, pw, q1, q2, R, rfl⟩ | ⟨r1, r2, r3, z, r4⟩)⟩
      · refine wpS_bind (wpS_get ?_)
        have pe : (sortPriv% PySem.Builtin.SortState.pending) st'' = #[(0, n1, pw), (n1, a₀.size - n1, 0)] := R.pend
        rw [pe, if_neg (by simp)]
        have i2 : IntKeys (arrOf st'') := perm_ints R.perm h0
        have sz2 : (arrOf st'').size = n1 + (a₀.size - n1) := by rw [R.perm.size_eq]; (first | lia | omega)
        refine wpS_bind (wpS_mergeAt R.kind R.failed R.pend i2 sz2 q1 (by (first | lia | omega)) R.ka R.kb fun st3 k3 f3 p3 s3 d3 => ?_)
        simp only [Bool.not_true, Bool.false_eq_true, if_false]
        refine wpS_pure ⟨rfl, .inr ⟨(Array.perm_iff_toList_perm.mpr p3).trans R.perm, f3, fun i j hij hj => ?_, _, d3⟩⟩
        exact srt_K s3 hij (by rw [(Array.perm_iff_toList_perm.mpr p3).size_eq, R.perm.size_eq]; exact hj)
      · refine wpS_bind (wpS_get ?_)
        have pe : (sortPriv% PySem.Builtin.SortState.pending) st'' = #[z] := r4
        rw [pe, if_pos (by simp)]
        exact wpS_pure ⟨rfl, r1, r2, r3⟩
    · rintro c st'' ⟨rfl, (⟨n1, pw, q1, q2, R, e⟩ | ⟨r1, r2, r3, z, r4⟩)⟩
      · (first | lia | omega)
      · exact ⟨rfl, r1, r2, r3⟩
    · refine ⟨rfl, ?_⟩
      rcases hR with R | ⟨n1, pw, q1, q2, R⟩
      · exact .inr ⟨R.perm, R.failed, R.srt, _, R.pend⟩
      · exact .inl ⟨n1, pw, q1, q2, R, rfl⟩
    · rintro c st'' ⟨rfl, r1, r2, r3⟩
      exact wpS_pure (h st'' r1 r2 r3)
end
end Mine
end PartS9
section PartS10
set_option maxHeartbeats 1000000
namespace Mine
section
variable {prog : Program} {w : World} {A : Around} {E : Value → Shared → Prop} {s : Shared}
theorem sort128 {a : Addr} {vs : List Value} {ns : List Int} {n : Nat} {P : PySem.Fin → Shared → Prop} (ho : s.heap.get? a = some (seqObj "list" vs.toArray n)) (hI : IntsAre vs ns) (h128 : vs.length < 128)
    (h : ∀ (out : Array Value) (ns' : List Int), IntsAre out.toList ns' → ns'.Perm ns → ns'.Pairwise (· ≤ ·) → P (.done (.ret .none)) { s with heap := sortedHeap s.heap a vs out }) :
    wpAny (model prog w) A (Builtin.«list.sort» ⟨[.ref a], []⟩) P E s := by
  by_cases h64 : vs.length < 64
  · exact list_sort_tree ho hI h64 h
  rw [list_sort_plain]
  have ha : a < s.heap.objs.size := Heap.lt_size ho
  refine wpAny_bind (listItems_at ho rfl ?_)
  refine wpAny_bind (listUpdate_at ho rfl ?_)
  obtain ⟨e1, ho1⟩ : ∃ e1, (s.heap.update a (Obj.mapSeq fun _ => #[])).get? a = some (seqObj "list" #[] e1) := ⟨_, get?_update_seq ho (fun _ => #[])⟩
  refine wpAny_bind (seqEpoch_at ho1 rfl ?_)
  refine wpAny_bind (wpAny_newTuple ?_)
  refine wpAny_bind (wpAny_newList ?_)
  refine wpAny_holding ?_
  have ho6 : (((s.heap.update a (Obj.mapSeq fun _ => #[])).push (seqObj "tuple" vs.toArray 0)).push (seqObj "list" #[] 0)).get? a = some (seqObj "list" #[] e1) := by
    rw [Heap.get?_push_ne _ _ _ (by rw [size_push', Heap.size_update]; exact Nat.ne_of_lt (Nat.lt_succ_of_lt ha)), Heap.get?_push_ne _ _ _ (by rw [Heap.size_update]; exact Nat.ne_of_lt ha)]
    exact ho1
  dsimp only
  have hsz : vs.toArray.size = vs.length := by simp
  rw [if_neg (by (first | lia | omega)), if_neg (by (first | lia | omega))]
  obtain ⟨v₁, v₂, rest, rfl⟩ : ∃ v₁ v₂ rest, vs = v₁ :: v₂ :: rest := by
    match vs, h64 with
    | [], h2 => simp at h2
    | [_], h2 => simp at h2
    | v₁ :: v₂ :: rest, _ => exact ⟨v₁, v₂, rest, rfl⟩
  rw [keyKind_ints hI]
  refine wpAny_bind (wpAny_pure ?_)
  refine wpAny_bind (wpAny_mono (wpS_runs2 (a₀ := pairsOf (v₁ :: v₂ :: rest)) (st := SortSt.mk' oneType' ((v₁ :: v₂ :: rest).toArray.zip (v₁ :: v₂ :: rest).toArray) #[] 7 none)
    (Q := fun _ st' => (arrOf st').Perm (pairsOf (v₁ :: v₂ :: rest)) ∧ failedOf st' = none ∧ SortedTo (arrOf st') (pairsOf (v₁ :: v₂ :: rest)).size)
    hI.intKeys ⟨Array.Perm.refl _, rfl, rfl, rfl⟩ (by rw [pairsOf_size]; (first | lia | omega)) (by rw [pairsOf_size]; exact h128) fun st' a1 a2 a3 => ⟨a1, a2, a3⟩) ?_ fun _ _ e => e)
  rintro ⟨⟨⟩, st'⟩ s' ⟨rfl, hp, hf, hs⟩
  dsimp only
  refine wpAny_bind (seqEpoch_at ho6 rfl ?_)
  refine wpAny_bind (listUpdate_at ho6 rfl ?_ (hsz2 := by refine Nat.le_trans (Nat.le_of_eq ((Array.size_map ..).trans (hp.size_eq.trans (pairsOf_size _)))) ?_; rw [sizeLine_eq]; (first | lia | omega)))
  rw [hf]
  simp only [bne_self_eq_false, Bool.false_eq_true, if_false]
  obtain ⟨ns', h1, h2, h3⟩ := sorted_out hI hp hs
  exact wpAny_pure (h _ ns' h1 h2 h3)
theorem sorted_of {x : Value} {Q : Value → Shared → Prop}
    (hc : wpAny (model prog w) A.in1 (collect x) (fun vs s₁ => ∃ ns, IntsAre vs ns ∧ vs.length < 128 ∧ ∀ D s' out ns', Go s₁ s' → s₁.heap.get? D = none → s'.heap.IsList D out → IntsAre out.toList ns' → ns'.Perm ns → ns'.Pairwise (· ≤ ·) → Ch [] s₁.heap s'.heap → Q (.ref D) s') E s) :
    wpAny (model prog w) A (call (.builtin "sorted") [x]) Q E s := by
  refine Calls.call_function_entry kind_sorted plain_sorted entry_sorted (args_sorted1 _) ?_
  unfold Builtin.«sorted»
  refine wpAny_bind (m := checkCount "sorted" 1 1 _) (wpAny_pure ?_)
  refine wpAny_bind (wpAny_mono hc (fun vs s₁ h₁ => ?_) fun _ _ e => e)
  obtain ⟨ns, hI, h128, k⟩ := h₁
  refine wpAny_bind (wpAny_newList ?_ (by rw [sizeLine_eq]; (first | lia | omega)))
  have hoL : (s₁.heap.push (seqObj "list" vs.toArray 0)).get? s₁.heap.objs.size = some (seqObj "list" vs.toArray 0) := Heap.get?_push_size _ rfl
  refine wpAny_bind (wpAny_holding (wpAny_call_entry slot_list_sort ⟨_, hoL, rfl⟩ entry_list_sort (sort128 hoL hI h128 fun out ns' a1 a2 a3 => ⟨_, rfl, ?_⟩) (args_list_sort _)))
  obtain ⟨e, he⟩ := sortedHeap_at (out := out) hoL
  refine wpAny_pure ⟨_, rfl, k _ _ out ns' ⟨_, _, rfl⟩ (Heap.get?_none_of_le (Nat.le_refl _)) ⟨_, he, rfl, _, rfl⟩ a1 a2 a3 (fun b o _ q => ?_)⟩
  have hlt := Heap.lt_size q
  rw [sortedHeap_old (Nat.ne_of_lt hlt) (by rw [size_push']; exact Nat.lt_succ_of_lt hlt), Heap.get?_push_ne _ _ _ (Nat.ne_of_lt hlt)]
  exact q
end
end Mine
end PartS10
section PartS11
set_option maxHeartbeats 1000000
namespace Mine
/-! a set's table: its places rise -/
def Rise (xs : Array Nat) : Prop := xs.toList.Pairwise (· < ·)
theorem Rise.lt {xs : Array Nat} (h : Rise xs) {i j : Nat} (hij : i < j) (hj : j < xs.size) : xs[i] < xs[j] := by
  have := List.pairwise_iff_getElem.mp h i j (by simp; (first | lia | omega)) (by simpa using hj) hij
  simpa using this
theorem below_go {xs : Array Nat} {j : Nat} (h : Rise xs) : ∀ (fuel lo hi : Nat), hi - lo ≤ fuel → lo ≤ hi → hi ≤ xs.size → (∀ i (hx : i < xs.size), i < lo → xs[i] < j) → (∀ i (hx : i < xs.size), hi ≤ i → j ≤ xs[i]) →
    SetTable.below.go xs j fuel lo hi ≤ xs.size ∧ (∀ i (hx : i < xs.size), i < SetTable.below.go xs j fuel lo hi → xs[i] < j) ∧ (∀ i (hx : i < xs.size), SetTable.below.go xs j fuel lo hi ≤ i → j ≤ xs[i])
  | 0, lo, hi, hf, h1, h2, q1, q2 => by
    have : lo = hi := by (first | lia | omega)
    subst this
    unfold SetTable.below.go
    exact ⟨h2, q1, q2⟩
  | fuel + 1, lo, hi, hf, h1, h2, q1, q2 => by
    unfold SetTable.below.go
    by_cases c : lo < hi
    · rw [if_pos c]
      have hm : (lo + hi) / 2 < xs.size := by (first | lia | omega)
      have hg : xs.getD ((lo + hi) / 2) j = xs[(lo + hi) / 2] := by simp [Array.getD, hm]
      dsimp only
      rw [hg]
      by_cases d : xs[(lo + hi) / 2] < j
      · rw [if_pos d]
        refine below_go h fuel _ hi (by (first | lia | omega)) (by (first | lia | omega)) h2 (fun i hi' hl => ?_) q2
        rcases Nat.lt_or_ge i ((lo + hi) / 2) with e | e
        · exact Nat.lt_trans (h.lt e hm) d
        · have : i = (lo + hi) / 2 := by (first | lia | omega)
          subst this; exact d
      · rw [if_neg d]
        refine below_go h fuel lo _ (by (first | lia | omega)) (by (first | lia | omega)) (by (first | lia | omega)) q1 (fun i hi' hl => ?_)
        rcases Nat.lt_or_ge ((lo + hi) / 2) i with e | e
        · exact Nat.le_trans (Nat.not_lt.mp d) (Nat.le_of_lt (h.lt e hi'))
        · have : i = (lo + hi) / 2 := by (first | lia | omega)
          subst this; exact Nat.not_lt.mp d
    · rw [if_neg c]
      have : lo = hi := by (first | lia | omega)
      subst this
      exact ⟨h2, q1, q2⟩
theorem below_spec {xs : Array Nat} (h : Rise xs) (j : Nat) : SetTable.below xs j ≤ xs.size ∧ (∀ i (hi : i < xs.size), i < SetTable.below xs j → xs[i] < j) ∧ (∀ i (hx : i < xs.size), SetTable.below xs j ≤ i → j ≤ xs[i]) :=
  below_go h xs.size 0 xs.size (by (first | lia | omega)) (Nat.zero_le _) (Nat.le_refl _) (fun _ _ q => by (first | lia | omega)) (fun _ _ q => by (first | lia | omega))
structure TOk (t : SetTable) : Prop where
  rise : Rise t.place
  dum : t.dummies = #[]
theorem slot_empty {t : SetTable} {j : Nat} (h : TOk t) (e : t.slot j = .empty) : j ∉ t.place.toList := by
  intro hm
  obtain ⟨i, hi, e1⟩ := List.mem_iff_getElem.mp hm
  have hi' : i < t.place.size := by simpa using hi
  have ei : t.place[i] = j := by simpa using e1
  obtain ⟨b1, b2, b3⟩ := below_spec h.rise j
  have hb : SetTable.below t.place j = i := by
    rcases Nat.lt_trichotomy (SetTable.below t.place j) i with q | q | q
    · have a1 := b3 _ (by (first | lia | omega)) (Nat.le_refl _)
      have a2 := h.rise.lt q hi'
      (first | lia | omega)
    · exact q
    · have := b2 i hi' q; (first | lia | omega)
  unfold SetTable.slot at e
  dsimp only at e
  rw [hb, getElem?_pos t.place i hi', ei] at e
  simp at e
theorem no_dummy {t : SetTable} (h : TOk t) (j : Nat) : t.slot j ≠ .dummy := by
  unfold SetTable.slot
  dsimp only
  have : SetTable.has t.dummies j = false := by rw [h.dum]; unfold SetTable.has; simp
  rw [this]
  split <;> simp
theorem probe_ok {t : SetTable} (h : TOk t) (hh : Int) : ∀ (fuel : Nat) (p : SetTable.Probe) (m : SetTable.Met), p.dummy = none → SetTable.probe.go t (fun _ => hh + 1) hh fuel p = some m → ∃ j, m = .empty j none ∧ j ∉ t.place.toList
  | 0, p, m, _, e => by unfold SetTable.probe.go at e; cases e
  | fuel + 1, p, m, hd, e => by
    unfold SetTable.probe.go at e
    cases hs : t.slot p.j with
    | empty =>
      rw [hs] at e
      dsimp only at e
      cases e
      exact ⟨p.j, by rw [hd], slot_empty h hs⟩
    | dummy => exact absurd hs (no_dummy h _)
    | live i =>
      rw [hs] at e
      dsimp only at e
      rw [if_neg (by simp; (first | lia | omega))] at e
      refine probe_ok h hh fuel (t.advance p) m ?_ e
      unfold SetTable.advance
      split
      · exact hd
      · exact hd
theorem free_ok {t : SetTable} (h : TOk t) {hh : Int} {slot : Nat} {d : Bool} (e : t.freeSlot hh = some (slot, d)) : slot ∉ t.place.toList := by
  unfold SetTable.freeSlot SetTable.probe at e
  cases hp : SetTable.probe.go t (fun _ => hh + 1) hh (10 * SetTable.turns t.mask) (t.probeStart hh) with
  | none => rw [hp] at e; cases e
  | some m =>
    obtain ⟨j, rfl, hj⟩ := probe_ok h hh _ _ _ rfl hp
    rw [hp] at e
    dsimp only at e
    cases e
    exact hj
theorem put_ok {t : SetTable} (h : TOk t) {j : Nat} (hj : j ∉ t.place.toList) : TOk (t.put j).1 ∧ (t.put j).1.led = t.led := by
  refine ⟨⟨?_, ?_⟩, rfl⟩
  · show Rise (SetTable.insertAt t.place (SetTable.below t.place j) j)
    obtain ⟨b1, b2, b3⟩ := below_spec h.rise j
    unfold Rise
    rw [SetTable.toList_insertAt]
    have m1 : ∀ x ∈ t.place.toList.take (SetTable.below t.place j), x < j := fun x hx => by
      obtain ⟨i, hi, e⟩ := List.mem_iff_getElem.mp hx
      rw [List.getElem_take] at e
      simp at hi
      have := b2 i (by (first | lia | omega)) (by (first | lia | omega))
      simp at e
      (first | lia | omega)
    have m2 : ∀ x ∈ t.place.toList.drop (SetTable.below t.place j), j < x := fun x hx => by
      have hx' : x ∈ t.place.toList := List.mem_of_mem_drop hx
      obtain ⟨i, hi, e⟩ := List.mem_iff_getElem.mp hx
      rw [List.getElem_drop] at e
      simp at hi e
      have := b3 (SetTable.below t.place j + i) (by (first | lia | omega)) (by (first | lia | omega))
      have hne : x ≠ j := fun q => hj (q ▸ hx')
      (first | lia | omega)
    rw [List.pairwise_append]
    refine ⟨List.Pairwise.sublist (List.take_sublist _ _) h.rise, List.pairwise_cons.mpr ⟨m2, List.Pairwise.sublist (List.drop_sublist _ _) h.rise⟩, fun x hx y hy => ?_⟩
    rcases List.mem_cons.mp hy with q | q
    · rw [q]; exact m1 x hx
    · exact Nat.lt_trans (m1 x hx) (m2 y q)
  · show (if SetTable.has t.dummies j then _ else t.dummies) = #[]
    have : SetTable.has t.dummies j = false := by rw [h.dum]; unfold SetTable.has; simp
    rw [this]
    exact h.dum
theorem stand_ok (t : SetTable) (n : Nat) : TOk (t.standIn n) ∧ (t.standIn n).led = t.led := by
  refine ⟨⟨?_, rfl⟩, rfl⟩
  show (Array.range n).toList.Pairwise (· < ·)
  rw [Array.toList_range]
  exact List.pairwise_lt_range
theorem lay_ok {t : SetTable} (h : TOk t) (es : Array (Int × Value)) (hh : Int) (x : Value) : TOk (layNew t es hh x).2.1 ∧ (layNew t es hh x).2.1.led = t.led := by
  unfold layNew
  cases hf : t.freeSlot hh with
  | none => exact stand_ok t _
  | some r =>
    obtain ⟨slot, d⟩ := r
    dsimp only
    have := put_ok h (free_ok h hf)
    unfold SetTable.orStandIn
    split
    · exact this
    · exact ⟨(stand_ok _ _).1, this.2⟩
theorem relay_ok {t : SetTable} (es : Array (Int × Value)) (wanted : Nat) : TOk (relayAll t es wanted).2.1 ∧ (relayAll t es wanted).2.1.led = t.led := by
  unfold relayAll
  cases hr : t.relaid (es.map (·.1)) wanted with
  | none => exact stand_ok t _
  | some r =>
    obtain ⟨t', order⟩ := r
    dsimp only
    split
    · unfold SetTable.relaid SetTable.laid at hr
      cases ho : SetTable.layClean (SetTable.sizeAbove wanted - 1) (es.map (·.1)) with
      | none => rw [ho] at hr; cases hr
      | some owner =>
        rw [ho] at hr
        cases hr
        refine ⟨⟨?_, rfl⟩, rfl⟩
        show (List.map Prod.fst _).Pairwise (· < ·)
        refine List.Pairwise.sublist ?_ (List.pairwise_lt_range (n := SetTable.sizeAbove wanted - 1 + 1))
        have sub : ∀ l : List Nat, (List.map Prod.fst (l.filterMap fun j => (owner.getD j none).map (j, ·))).Sublist l := by
          intro l
          induction l with
          | nil => exact List.Sublist.refl _
          | cons a l ih =>
            rw [List.filterMap_cons]
            cases owner.getD a none with
            | none => exact List.Sublist.cons _ ih
            | some k => exact List.Sublist.cons_cons _ ih
        exact sub _
    · exact stand_ok t _
end Mine
end PartS11
section PartS12
set_option maxHeartbeats 1000000
namespace Mine
/-- a set of ints, its table in order -/
def Apart (prog : Program) (w : World) (l : List (Int × Value)) : Prop := l.Pairwise fun e e' => ∀ k, (intKind prog w).is k e.2 = true → (intKind prog w).is k e'.2 = true → False
def SX (prog : Program) (w : World) (h : Heap) (a : Addr) (S : Int → Bool) (n : Nat) : Prop :=
  ∃ o es ep t, h.get? a = some o ∧ o.ExactSet ∧ o.data = .set es ep t ∧ ElemsOf (intKind prog w) es.toList ∧ (∀ k, S k = true ↔ ∃ e ∈ es.toList, (intKind prog w).is k e.2 = true) ∧ es.size = n ∧ t.fits es.size = true ∧
    TOk t ∧ t.led = !w.params.followText "set-order" ∧ Apart prog w es.toList
theorem Apart.perm {prog : Program} {w : World} {l l' : List (Int × Value)} (h : Apart prog w l) (p : l'.Perm l) : Apart prog w l' :=
  (p.pairwise_iff (fun q k a b => q k b a)).mpr h
section
variable {prog : Program} {w : World} {A : Around} {E : Value → Shared → Prop} {s : Shared}
theorem SX.store {h : Heap} {a : Addr} {o : Obj} {es : Array (Int × Value)} {ep : Nat} {t : SetTable} (ho : h.get? a = some o) (hex : o.ExactSet) (hd : o.data = .set es ep t)
    {es' : Array (Int × Value)} {t' : SetTable} {S' : Int → Bool} {n : Nat} (hel : ElemsOf (intKind prog w) es'.toList) (hmem : ∀ k, S' k = true ↔ ∃ e ∈ es'.toList, (intKind prog w).is k e.2 = true) (hn : es'.size = n) (hf : t'.fits es'.size = true) (ht : TOk t') (hl : t'.led = !w.params.followText "set-order") (hap : Apart prog w es'.toList) :
    (h.update a (Obj.putSet es' t')).get? a = some { o with data := .set es' (ep + 1) t' } ∧ SX prog w (h.update a (Obj.putSet es' t')) a S' n := by
  have hg : (h.update a (Obj.putSet es' t')).get? a = some { o with data := .set es' (ep + 1) t' } := by
    have := Heap.get?_update_self (Obj.putSet es' t') ho (by rw [putSet_of es' t' hd]; rfl)
    rw [putSet_of es' t' hd] at this; exact this
  exact ⟨hg, _, es', ep + 1, t', hg, hex, rfl, hel, hmem, hn, hf, ht, hl, hap⟩
theorem addX {a : Addr} {S : Int → Bool} {n : Nat} {k : Int} {x : Value} {Q : Bool → Shared → Prop} (hkey : (intKind prog w).is k x = true) (hsc : x.scannable = true) (hpk : plainKind x = true) (hS : SX prog w s.heap a S n) (hroom : n + 1 < scanBound)
    (h : ∀ h', Heap.SameBut a s.heap h' → SX prog w h' a (fun k' => S k' || decide (k' = k)) (if S k then n else n + 1) → Q (!S k) { s with heap := h' }) :
    wpAny (model prog w) A (setAddHashed a x ((intKind prog w).hash k)) Q E s := by
  obtain ⟨o, es, ep, t, ho, hex, hd, hel, hmem, hn, hf, hto, hle, hap⟩ := hS
  have hb : es.size < scanBound := by (first | lia | omega)
  unfold setAddHashed setAddHashedIn
  refine wpAny_holding (wpAny_bind (wpAny_setState_of ho hd hf ?_))
  dsimp only
  rw [byScan_of hsc hb hel]
  simp only [↓reduceIte]
  unfold setAddByScan
  refine wpAny_bind ?_
  refine wpAny_bind (wpAny_rule ?_)
  refine wpAny_bind (wpAny_setScan_of hkey ho hd hf hel ?_)
  cases hr : List.findIdx? (fun e => (intKind prog w).is k e.2) es.toList with
  | some j =>
    dsimp only
    obtain ⟨hj, hpj, _⟩ := List.findIdx?_eq_some_iff_getElem.mp hr
    have hSk : S k = true := (hmem k).mpr ⟨es.toList[j], List.getElem_mem hj, hpj⟩
    refine wpAny_pure (wpAny_pure ?_)
    have e : s = { s with heap := s.heap } := by cases s; rfl
    have := h s.heap (Heap.SameBut.refl a s.heap) ⟨o, es, ep, t, ho, hex, hd, hel, fun k' => by
      rw [Bool.or_eq_true, decide_eq_true_eq, ← hmem k']
      exact ⟨fun hk => hk.elim id (fun e => e ▸ hSk), .inl⟩, by rw [hSk]; exact hn, hf, hto, hle, hap⟩
    rw [hSk] at this; rw [e]; exact this
  | none =>
    dsimp only
    have hno : ∀ e ∈ es.toList, (intKind prog w).is k e.2 = false := fun e he => by simpa using List.findIdx?_eq_none_iff.mp hr e he
    have hSk : S k = false := by
      cases hk : S k with
      | false => rfl
      | true => obtain ⟨e, he, hp⟩ := (hmem k).mp hk; rw [hno e he] at hp; cases hp
    have hperm := layNew_perm t es ((intKind prog w).hash k) x
    have hfits := layNew_fits t es ((intKind prog w).hash k) x
    have hlo := lay_ok hto es ((intKind prog w).hash k) x
    generalize hL : layNew t es ((intKind prog w).hash k) x = L at hperm hfits hlo ⊢
    obtain ⟨es1, t1, wasDummy, gave⟩ := L
    dsimp only at hperm hfits hlo ⊢
    rw [Array.toList_push] at hperm
    have hel1 : ElemsOf (intKind prog w) es1.toList := (hel.push hkey hsc).perm hperm
    have hmem1 : ∀ k', (S k' || decide (k' = k)) = true ↔ ∃ e ∈ es1.toList, (intKind prog w).is k' e.2 = true := mem_push_iff hkey hmem hperm
    have hap1 : Apart prog w es1.toList := Apart.perm (List.pairwise_append.mpr ⟨hap, List.pairwise_singleton _ _, fun e he e' he' k' q1 q2 => by
      rw [List.mem_singleton.mp he'] at q2
      have : k' = k := (intKind prog w).inj x k' k q2 hkey
      subst this
      rw [hno e he] at q1; cases q1⟩) hperm
    have hsz1 : es1.size = n + 1 := by rw [← Array.length_toList, hperm.length_eq, List.length_append, Array.length_toList, hn]; rfl
    have hgw : ∀ (b : Bool) {s₁ : Shared} {Q' : Unit → Shared → Prop}, Q' () s₁ → wpAny (model prog w) A (match b with | true => rule "set.scan.the-table-gave-way" | false => pure ()) Q' E s₁ :=
      fun b s₁ Q' hq => by cases b <;> first | exact wpAny_pure hq | exact wpAny_rule hq
    refine wpAny_bind (hgw _ ?_)
    have tail : ∀ (t2 : SetTable), t2.fits es1.size = true → TOk t2 → t2.led = !w.params.followText "set-order" →
        wpAny (model prog w) A (storeSet a es1 t2) (fun _ s₁ => ∃ o1, s₁ = { s with heap := s.heap.update a (Obj.putSet es1 t2) } ∧ s₁.heap.get? a = some o1 ∧ o1.ExactSet ∧ o1.data = .set es1 (ep + 1) t2 ∧ SX prog w s₁.heap a (fun k' => S k' || decide (k' = k)) (n + 1)) E s := by
      intro t2 f2 ok2 l2
      obtain ⟨g1, g2⟩ := SX.store (prog := prog) (w := w) ho hex hd hel1 hmem1 hsz1 f2 ok2 l2 hap1
      exact wpAny_storeSet_of ho hd ⟨_, rfl, g1, hex, rfl, g2⟩ (fits_of_scanBound (by (first | lia | omega)))
    have hend : ∀ h', Heap.SameBut a s.heap h' → SX prog w h' a (fun k' => S k' || decide (k' = k)) (n + 1) → Q true { s with heap := h' } := by
      intro h' hsb hS'; have := h h' hsb; rw [hSk] at this; exact this hS'
    have fin : ∀ (t2 : SetTable), t2.fits es1.size = true → TOk t2 → t2.led = !w.params.followText "set-order" → True := fun _ _ _ _ => trivial
    split
    · refine wpAny_bind ?_
      rw [hashByValue_scannable 8 hsc]
      refine wpAny_pure ?_
      rw [hpk]
      simp only [if_true]
      refine wpAny_bind (wpAny_mono (tail t1 hfits hlo.1 (hlo.2.trans hle)) (fun _ s₁ q => ?_) fun _ _ e => e)
      obtain ⟨o1, rfl, g1, x1, d1, sx1⟩ := q
      split
      · have hp := relayAll_perm t1 es1 (SetTable.grown es1.size)
        have hfr := relayAll_fits t1 es1 (SetTable.grown es1.size)
        have hro := relay_ok (t := t1) es1 (SetTable.grown es1.size)
        generalize relayAll t1 es1 (SetTable.grown es1.size) = Rl at hp hfr hro ⊢
        obtain ⟨es2, t3, gave2⟩ := Rl
        dsimp only at hp hfr hro ⊢
        have hsz : es2.size = es1.size := by rw [← Array.length_toList, hp.length_eq, Array.length_toList]
        refine wpAny_bind (hgw _ ?_)
        obtain ⟨_, g3⟩ := SX.store (prog := prog) (w := w) (S' := fun k' => S k' || decide (k' = k)) (n := n + 1) g1 x1 d1 (hel1.perm hp) (fun k' => (hmem1 k').trans ⟨fun ⟨e, he, q⟩ => ⟨e, hp.mem_iff.mpr he, q⟩, fun ⟨e, he, q⟩ => ⟨e, hp.mem_iff.mp he, q⟩⟩) (by (first | lia | omega)) hfr hro.1 (hro.2.trans (hlo.2.trans hle)) (hap1.perm hp)
        refine wpAny_bind (wpAny_storeSet_of g1 d1 ?_ (fits_of_scanBound (by (first | lia | omega))))
        refine wpAny_pure ?_
        dsimp only
        exact wpAny_pure (hend _ ((Heap.SameBut.update s.heap a (Obj.putSet es1 t1)).trans (Heap.SameBut.update _ a _)) g3)
      · refine wpAny_pure ?_
        dsimp only
        exact wpAny_pure (hend _ (Heap.SameBut.update s.heap a (Obj.putSet es1 t1)) sx1)
    · refine wpAny_bind (wpAny_pure ?_)
      simp only [↓reduceIte]
      refine wpAny_bind (wpAny_mono (tail t1 hfits hlo.1 (hlo.2.trans hle)) (fun _ s₁ q => ?_) fun _ _ e => e)
      obtain ⟨o1, rfl, g1, x1, d1, sx1⟩ := q
      split
      · have hp := relayAll_perm t1 es1 (SetTable.grown es1.size)
        have hfr := relayAll_fits t1 es1 (SetTable.grown es1.size)
        have hro := relay_ok (t := t1) es1 (SetTable.grown es1.size)
        generalize relayAll t1 es1 (SetTable.grown es1.size) = Rl at hp hfr hro ⊢
        obtain ⟨es2, t3, gave2⟩ := Rl
        dsimp only at hp hfr hro ⊢
        have hsz : es2.size = es1.size := by rw [← Array.length_toList, hp.length_eq, Array.length_toList]
        refine wpAny_bind (hgw _ ?_)
        obtain ⟨_, g3⟩ := SX.store (prog := prog) (w := w) (S' := fun k' => S k' || decide (k' = k)) (n := n + 1) g1 x1 d1 (hel1.perm hp) (fun k' => (hmem1 k').trans ⟨fun ⟨e, he, q⟩ => ⟨e, hp.mem_iff.mpr he, q⟩, fun ⟨e, he, q⟩ => ⟨e, hp.mem_iff.mp he, q⟩⟩) (by (first | lia | omega)) hfr hro.1 (hro.2.trans (hlo.2.trans hle)) (hap1.perm hp)
        refine wpAny_bind (wpAny_storeSet_of g1 d1 ?_ (fits_of_scanBound (by (first | lia | omega))))
        refine wpAny_pure ?_
        dsimp only
        exact wpAny_pure (hend _ ((Heap.SameBut.update s.heap a (Obj.putSet es1 t1)).trans (Heap.SameBut.update _ a _)) g3)
      · refine wpAny_pure ?_
        dsimp only
        exact wpAny_pure (hend _ (Heap.SameBut.update s.heap a (Obj.putSet es1 t1)) sx1)
end
end Mine
end PartS12
section PartS13
set_option maxHeartbeats 3200000
namespace Mine
section
variable {prog : Program} {w : World} {A : Around} {R : Result → Shared → Prop} {I : Addr} {fp wr : List Addr} {G : Array GenState → Array GenState → Prop} {n : Nat} {P : Nat → Value → Prop} {St : Nat → Shared → Prop}
theorem SX.congr {h : Heap} {a : Addr} {S S' : Int → Bool} {n n' : Nat} (hS : SX prog w h a S n) (e : ∀ k, S k = S' k) (en : n = n') : SX prog w h a S' n' := by
  have : S = S' := funext e
  subst this; subst en; exact hS
theorem SX.keep {h h' : Heap} {a : Addr} {S : Int → Bool} {n : Nat} (hS : SX prog w h a S n) (k : ∀ o, h.get? a = some o → h'.get? a = some o) : SX prog w h' a S n := by
  obtain ⟨o, es, ep, t, ho, r⟩ := hS
  exact ⟨o, es, ep, t, k o ho, r⟩
theorem update_loopX (W : WalksS prog w A.in1 I fp wr G n P St) (S : Addr) (hSf : S ∉ fp) (val : Nat → Int) (hval : ∀ i v, P i v → ∃ t, v = .int (val i) t) (hb : n + 1 < scanBound) :
    ∀ (k i : Nat) (s : Shared), n - i = k → i ≤ n → St i s → SX prog w s.heap S (fun k' => (firstMet val i).any (· == k')) (firstMet val i).length →
      (∀ s', Moved (S :: wr) G s s' → SX prog w s'.heap S (fun k' => (firstMet val n).any (· == k')) (firstMet val n).length → R (.ok (.ret .none)) s') →
      codeAny (model prog w) A (.builtin "set.update.loop" ⟨[.ref S, .ref I], []⟩) R s := by
  have hSw : S ∉ wr := fun h => hSf (W.sub _ h)
  have hsub : ∀ b ∈ wr, b ∈ S :: wr := fun b hb => List.mem_cons_of_mem _ hb
  intro k
  induction k with
  | zero =>
    intro i s hk hi hst hS hR
    have hin : i = n := by (first | lia | omega)
    subst hin
    refine codeAny_builtin F.entry_set_update_loop ?_
    rw [Around.under_plainId F.plain_set_update_loop _]
    show wpAny _ A.in1 (pyNext (.ref I) >>= _) _ _ s
    refine wpAny_bind (W.done s _ _ hst fun s' hm => ?_)
    show wpAny _ A.in1 (ret Value.none) _ _ s'
    exact wpAny_pure (hR s' (hm.mono hsub) (hS.keep fun o e => hm.heap S o hSw e))
  | succ k ih =>
    intro i s hk hi hst hS hR
    have hlt : i < n := by (first | lia | omega)
    refine codeAny_builtin F.entry_set_update_loop ?_
    rw [Around.under_plainId F.plain_set_update_loop _]
    show wpAny _ A.in1 (pyNext (.ref I) >>= _) _ _ s
    refine wpAny_bind (W.item i s _ _ hlt hst fun v s' hP hst' hm => ?_)
    obtain ⟨t, rfl⟩ := hval i v hP
    have hS' := hS.keep (h' := s'.heap) fun o e => hm.heap S o hSw e
    show wpAny _ A.in1 (holding [Value.int (val i) t] (setAdd S (.int (val i) t)) >>= _) _ _ s'
    refine wpAny_bind (wpAny_holding ?_)
    unfold setAdd
    refine wpAny_holding ?_
    refine wpAny_bind ((intKind prog w).pyHash (k := val i) (intKind_is _ _ _ _) ?_)
    have hroom : (firstMet val i).length + 1 < scanBound := by have := firstMet_length_le val i; (first | lia | omega)
    refine addX (s := { s' with toks := s'.toks + 1 }) (intKind_is _ _ _ _) rfl rfl hS' hroom fun h' hsb hS2 => ?_
    have hSi : SX prog w h' S (fun k' => (firstMet val (i + 1)).any (· == k')) (firstMet val (i + 1)).length :=
      hS2.congr (fun k' => by rw [firstMet_succ, step_any]) (by rw [firstMet_succ, step_length])
    refine wpAny_pure ⟨plainId_quiet F.plain_set_update_loop _, ih (i + 1) _ (by (first | lia | omega)) hlt (W.frame _ s' _ _ hst' (Nat.le_succ _) fun b hb o e => ?_) hSi fun s'' hm'' hS'' => ?_⟩
    · rw [hsb.2 b (fun h : b = S => hSf (by rw [← h]; exact hb))]; exact e
    · refine hR s'' (Moved.trans W.gtrans ((hm.mono hsub).then_heap (Nat.le_succ _) fun b o hb e => ?_) hm'') hS''
      rw [hsb.2 b (fun h : b = S => hb (by rw [h]; exact List.mem_cons_self))]; exact e
end
section
variable {prog : Program} {w : World} {A : Around} {E : Value → Shared → Prop} {s : Shared}
theorem set_newX (a : Value) {Q₁ : Value → Shared → Prop}
    (h : Q₁ (.ref s.heap.objs.size) { s with heap := s.heap.push { cls := .type "set", dict := none, data := .set #[] 0 (.fresh 0 0 (!w.params.followText "set-order")) } }) :
    codeAny (model prog w) A (.call (.builtin "set.__new__") ⟨[.type "set", a], []⟩) (wants Q₁ E) s := by
  refine codeAny_of_tree ?_
  show wpAny _ A.in1 (do checkBuiltinCall "set.__new__" ⟨[.type "set", a], []⟩; again (.builtin "set.__new__" ⟨[.type "set", a], []⟩)) _ _ s
  refine wpAny_bind (wpAny_of_eq (F.newCall_set_1 a) (wpAny_pure ⟨plainId_quiet F.plain_set_new _, codeAny_builtin F.entry_set_new ?_⟩))
  rw [Around.under_plainId F.plain_set_new _]
  unfold Builtin.«set.__new__» Builtin.Frozenset.newClass
  have hsub := sub_set_self
  obtain ⟨hp, g, d, tk, os⟩ := s
  dsimp only
  wp_walk
  refine wpAny_askSetting (wpAny_pure ?_)
  dsimp only
  simp only [newObj]
  refine wpAny_bind (wpAny_alloc (wpAny_pure ?_))
  exact wpAny_pure h
end
end Mine
end PartS13
section PartS14
set_option maxHeartbeats 3200000
namespace Mine
section
variable {prog : Program} {w : World} {A : Around} {E : Value → Shared → Prop} {s : Shared}
theorem set_list {l : Addr} {items : Array Value} {ns : List Int} {Q : Value → Shared → Prop}
    (hh : A.handled = none) (hl : s.heap.IsList l items) (hi : IntsAre items.toList ns) (hb : items.size + 1 < scanBound)
    (h : ∀ s', Go s s' → SX prog w s'.heap s.heap.objs.size (fun k' => (firstMet (fun i => ns.getD i 0) items.size).any (· == k')) (firstMet (fun i => ns.getD i 0) items.size).length →
      Ch [] s.heap s'.heap → Q (.ref s.heap.objs.size) s') :
    wpAny (model prog w) A (call (.type "set") [.ref l]) Q E s := by
  obtain ⟨c, tl, hmro⟩ := F.called_set.mro
  have hmade := F.called_set.made
  have hsub := F.called_set.sub
  refine wpAny_call (codeAny_of_tree ?_)
  show wpAny _ _ (callAny (.type "set") _) _ _ _
  refine wpAny_pure ⟨Code.quiet_builtin _ (by decide +kernel), codeAny_builtin F.entry_type_call ?_⟩
  rw [Around.under_plain (weight_type_call_type "set" [.ref l] []) rfl]
  have h1 := F.called_set.notType
  have h2 := F.called_set.canCreate
  have hct := F.typeCall_set_1 (.ref l)
  repeat (any_goals (first | assumption | wp_step))
  refine codeAny_mono (set_newX (.ref l) (E := E) (Q₁ := fun obj s₁ => ∃ led : Bool, led = (!w.params.followText "set-order") ∧ obj = .ref s.heap.objs.size ∧ s₁ = { s with heap := s.heap.push { cls := .type "set", dict := none, data := .set #[] 0 (.fresh 0 0 led) } }) ⟨_, rfl, rfl, rfl⟩) fun r s₁ hr => ?_
  cases r with
  | error e => exact hr
  | ok fl =>
    cases fl with
    | ret obj =>
      obtain ⟨led, hled, rfl, rfl⟩ := hr
      have hS : (s.heap.push { cls := .type "set", dict := none, data := .set #[] 0 (.fresh 0 0 led) }).get? s.heap.objs.size = some { cls := .type "set", dict := none, data := .set #[] 0 (.fresh 0 0 led) } := Heap.get?_push_size _ rfl
      have hT : Shared.TypeIs { s with heap := s.heap.push { cls := .type "set", dict := none, data := .set #[] 0 (.fresh 0 0 led) } } (.ref s.heap.objs.size) "set" := ⟨_, hS, rfl⟩
      have hli := F.called_set.init.lookup
      have hbi := F.called_set.init.bind (.ref s.heap.objs.size)
      repeat (any_goals (first | assumption | wp_step))
      refine codeAny_mono (codeAny_call_builtin (R := wants (fun r s₂ => r = .none ∧ Go s s₂ ∧
          SX prog w s₂.heap s.heap.objs.size (fun k' => (firstMet (fun i => ns.getD i 0) items.size).any (· == k')) (firstMet (fun i => ns.getD i 0) items.size).length ∧
          Ch [] s.heap s₂.heap) E) F.called_set.init.plain F.entry_set_init (check_set_init_1 hT ?_)) fun r₂ s₂ hr₂ => ?_
      · obtain ⟨ol, hol, hcl, nl, hdl⟩ := hl
        obtain ⟨ocls, odict, odata, oslots⟩ := ol
        simp only at hcl hdl
        subst hcl; subst hdl
        have hol' : (s.heap.push { cls := .type "set", dict := none, data := .set #[] 0 (.fresh 0 0 led) }).get? l = some { cls := .type "list", dict := odict, data := .seq items nl, slots := oslots } := Heap.get?_push_of_some _ hol
        have hsls := F.sub_list_set
        have hslf := F.sub_list_frozenset
        have hne : (Value.type "list" == Value.type "dict") = false := by decide
        have hl1 : (s.heap.push { cls := .type "set", dict := none, data := .set #[] 0 (.fresh 0 0 led) }).IsList l items := ⟨_, hol', rfl, nl, rfl⟩
        unfold Builtin.«set.__init__» noKeywords Builtin.Frozenset.updateFrom
        generalize hPI : pyIter = PI
        wp_walk
        subst hPI
        refine wpAny_pyIter_list hl1 ?_
        refine wpAny_bind (wpAny_runValue ?_)
        have hlS : l < s.heap.objs.size := Heap.lt_size hol
        have hh3 : A.in1.in1.in1.handled = none := by simp [hh]
        have hneI : l ≠ (s.heap.push { cls := .type "set", dict := none, data := .set #[] 0 (.fresh 0 0 led) }).objs.size := by rw [Heap.size_push]; exact Nat.ne_of_lt (Nat.lt_succ_of_lt hlS)
        have hSf : s.heap.objs.size ∉ [(s.heap.push { cls := .type "set", dict := none, data := .set #[] 0 (.fresh 0 0 led) }).objs.size, l] := by
          rw [Heap.size_push]; simp only [List.mem_cons, List.mem_singleton, List.not_mem_nil, or_false, not_or]
          exact ⟨Nat.ne_of_lt (Nat.lt_succ_self _), Nat.ne_of_gt hlS⟩
        have hval : ∀ (i : Nat) (v : Value), items[i]? = some v → ∃ t, v = .int ((fun i => ns.getD i 0) i) t := fun i v hv =>
          IntsAre.int_at hi i v (by rw [Array.getElem?_toList]; exact hv)
        refine update_loopX ((Walks.list hh3 _ l hneI items).toS) s.heap.objs.size
          hSf (fun i => ns.getD i 0) hval hb (items.size - 0) 0 _ (by (first | lia | omega)) (Nat.zero_le _)
          ⟨⟨_, Heap.get?_push_size _ rfl, rfl, rfl⟩, (hl1.push _)⟩ ?_ ?_
        · refine ⟨_, #[], 0, _, Heap.get?_push_of_some _ hS, ⟨rfl, rfl, rfl⟩, rfl, fun e he => by simp at he, fun k => by simp [firstMet], by simp [firstMet], by rfl, ⟨by show ([] : List Nat).Pairwise _; exact List.Pairwise.nil, rfl⟩, hled, List.Pairwise.nil⟩
        · intro s' hm hS'
          obtain ⟨h', g', d', tk', os'⟩ := s'
          have eg : g' = s.gens := hm.gens
          have ed : d' = s.drawn := hm.drawn
          have eo : os' = s.os := hm.os
          subst eg; subst ed; subst eo
          show wpAny _ _ _ _ _ _
          refine wpAny_pure ?_
          show wpAny _ _ (ret Value.none) _ _ _
          refine wpAny_pure ⟨rfl, ⟨h', tk', rfl⟩, hS', fun b o _ e => ?_⟩
          have hb0 := Heap.lt_size e
          have hb1 : b ≠ s.heap.objs.size := Nat.ne_of_lt hb0
          have hb2 : b ≠ (s.heap.push { cls := .type "set", dict := none, data := .set #[] 0 (.fresh 0 0 led) }).objs.size := by
            rw [Heap.size_push]; exact Nat.ne_of_lt (Nat.lt_succ_of_lt hb0)
          exact hm.heap b o (by simp only [List.mem_cons, List.mem_singleton, List.not_mem_nil, or_false, not_or]; exact ⟨hb1, hb2⟩) (Heap.get?_push_of_some _ (Heap.get?_push_of_some _ e))
      · cases r₂ with
        | error e => exact hr₂
        | ok fl₂ =>
          cases fl₂ with
          | ret r =>
            obtain ⟨rfl, g', hS', hk'⟩ := hr₂
            repeat (any_goals (first | assumption | wp_step))
            exact h _ g' hS' hk'
          | _ => exact hr₂.elim
    | _ => exact hr.elim
end
end Mine
end PartS14
section PartS15
set_option maxHeartbeats 1000000
namespace Mine
theorem pick_go {α : Type} (next : Nat → Nat) : ∀ (fuel k : Nat) (left : List α) (out : Array α), left.length ≤ fuel → (pickOrder.go next fuel k left out).toList.Perm (out.toList ++ left)
  | 0, k, left, out, h => by
    have : left = [] := List.eq_nil_of_length_eq_zero (by (first | lia | omega))
    subst this
    unfold pickOrder.go
    simp
  | fuel + 1, k, left, out, h => by
    unfold pickOrder.go
    by_cases e : left = []
    · subst e; simp
    · have hl : 0 < left.length := List.length_pos_iff.mpr e
      have hm : next k % left.length < left.length := Nat.mod_lt _ hl
      rw [List.getElem?_eq_getElem hm]
      dsimp only
      refine List.Perm.trans (pick_go next fuel (k + 1) _ _ (by rw [List.length_eraseIdx_of_lt hm]; (first | lia | omega))) ?_
      rw [Array.toList_push, List.append_assoc]
      refine List.Perm.append_left _ ?_
      rw [List.eraseIdx_eq_take_drop_succ]
      have e2 : left = left.take (next k % left.length) ++ left[next k % left.length] :: left.drop (next k % left.length + 1) := by
        rw [← List.drop_eq_getElem_cons hm, List.take_append_drop]
      conv => rhs; rw [e2]
      rw [List.singleton_append]
      exact List.perm_middle.symm
theorem pick_perm {α : Type} (next : Nat → Nat) (xs : Array α) : (pickOrder next xs).toList.Perm xs.toList := by
  have := pick_go next xs.size 0 xs.toList #[] (by simp)
  simpa [pickOrder] using this
/-- the next place is the next one that rises -/
theorem below_next {xs : Array Nat} (h : Rise xs) {i : Nat} (hi : i ≤ xs.size) {slot : Nat} (hs : ∀ j (hj : j < xs.size), j < i → xs[j] < slot) (hs2 : ∀ j (hj : j < xs.size), i ≤ j → slot ≤ xs[j]) : SetTable.below xs slot = i := by
  obtain ⟨b1, b2, b3⟩ := below_spec h slot
  rcases Nat.lt_trichotomy (SetTable.below xs slot) i with q | q | q
  · have a1 := b3 (SetTable.below xs slot) (by (first | lia | omega)) (Nat.le_refl _)
    have a2 := hs (SetTable.below xs slot) (by (first | lia | omega)) q
    (first | lia | omega)
  · exact q
  · have a1 := b2 i (by (first | lia | omega)) q
    have a2 := hs2 i (by (first | lia | omega)) (Nat.le_refl _)
    (first | lia | omega)
end Mine
end PartS15
section PartS16
set_option maxHeartbeats 1000000
namespace Mine
section
variable {prog : Program} {w : World} {A : Around} {E : Value → Shared → Prop}
theorem choose_any {src : Source} {n : Nat} {s : Shared} {Q : Nat → Shared → Prop} (hn : n ≠ 0) (h : ∀ i dr, i < n → Q i { s with drawn := dr }) : wpAny (model prog w) A (choose src n) Q E s := fun Γ p hΓ => by
  show Sem.wp _ _ (Sem.choose src n Sem.pure) _ _ _ _
  exact ⟨hn, h _ _ (Nat.mod_lt _ (Nat.pos_of_ne_zero hn))⟩
theorem eraseIdx_perm {α : Type} {l : List α} {i : Nat} (h : i < l.length) : (l[i] :: l.eraseIdx i).Perm l := by
  rw [List.eraseIdx_eq_take_drop_succ]
  have e2 : l = l.take i ++ l[i] :: l.drop (i + 1) := by rw [← List.drop_eq_getElem_cons h, List.take_append_drop]
  conv => rhs; rw [e2]
  exact List.perm_middle.symm
theorem draw_order {α : Type} : ∀ (n : Nat) (xs : List α) (s : Shared) (Q : List α → Shared → Prop), xs.length = n → (∀ ys dr, ys.Perm xs → Q ys { s with drawn := dr }) → wpAny (model prog w) A (drawOrder n xs) Q E s
  | 0, xs, s, Q, h, k => by
    have : xs = [] := List.eq_nil_of_length_eq_zero h
    subst this
    unfold drawOrder
    have := k [] s.drawn (List.Perm.refl _)
    exact wpAny_pure this
  | n + 1, xs, s, Q, h, k => by
    match xs, h, k with
    | x :: r, h, k =>
      unfold drawOrder
      refine wpAny_bind (choose_any (by simp) fun i dr hi => ?_)
      rw [List.getElem?_eq_getElem hi]
      dsimp only
      refine wpAny_bind (draw_order n _ _ _ (by rw [List.length_eraseIdx_of_lt hi]; (first | lia | omega)) fun ys dr' hp => ?_)
      refine wpAny_pure (k _ dr' ?_)
      exact (List.Perm.cons _ hp).trans (eraseIdx_perm hi)
end
end Mine
end PartS16
section PartS17
set_option maxHeartbeats 1000000
namespace Mine
theorem slot_si_next : Slot "set_iterator" "__next__" "set_iterator.__next__" :=
  .of (owner := "set_iterator") (n := "__next__") (by rw [typeLookup_type, builtinLookup_eq_fast]; kernel_rfl) (by decide +kernel) (by decide +kernel) (by decide +kernel)
    (by first | exact .inl (by decide +kernel) | exact .inr (by decide +kernel)) (by rw [isSubtype_type]; kernel_rfl)
theorem entry_si_next : entryFor table "set_iterator.__next__" = some Builtin.«set_iterator.__next__» := entryFor_of_fast (by kernel_rfl)
theorem args_si_next (a : Value) : argsOk "set_iterator.__next__" ⟨[a], []⟩ := by unfold argsOk; kernel_rfl
theorem entry_s_iter : entryFor table "set.__iter__" = some Builtin.«frozenset.__iter__» :=
  entryFor_alias (id' := "frozenset.__iter__") (by kernel_rfl) rfl (by decide +kernel) (by kernel_rfl)
section
variable {prog : Program} {w : World} {A : Around} {E : Value → Shared → Prop} {s : Shared}
/-- an iterator over a set -/
def siObj (first : Value) (i : Nat) (S : Addr) (n ep : Nat) : Obj := { cls := .type "set_iterator", data := .fields #[first, rawInt i, .ref S, rawInt n, rawInt ep] }
theorem iter_set {S : Addr} {o : Obj} {es : Array (Int × Value)} {ep : Nat} {t : SetTable} {Q : Value → Shared → Prop} (ho : s.heap.get? S = some o) (hex : o.ExactSet) (hd : o.data = .set es ep t) (hf : t.fits es.size = true) (hn : es.size ≤ 100)
    (h1 : ((w.params.followText "set-order" = true) ∨ (t.plain = true ∨ es.size ≤ 1)) → Q (.ref s.heap.objs.size) { s with heap := s.heap.push (siObj (rawInt 0) 0 S es.size ep) })
    (h2 : w.params.followText "set-order" = false → t.plain = false → 1 < es.size → ∀ (π : List Nat) dr, π.Perm (List.range es.size) →
      Q (.ref (s.heap.objs.size + 1)) { s with heap := (s.heap.push { cls := .type "tuple", data := .seq (π.map fun (i : Nat) => rawInt ((i : Nat) : Int)).toArray }).push (siObj (.ref s.heap.objs.size) 0 S es.size ep), drawn := dr }) :
    wpAny (model prog w) A (pyIter (.ref S)) Q E s := by
  have hT : s.TypeIs (.ref S) "set" := ⟨o, ho, hex.1⟩
  refine wpAny_pyIter_slot hT F.slot_set_iter (wpAny_call_entry F.slot_set_iter hT entry_s_iter ?_ (F.args_set_iter_1 _))
  unfold Builtin.«frozenset.__iter__»
  refine wpAny_bind (m := Builtin.Frozenset.slot0 _ _) (wpAny_of_eq (a := S) rfl ?_)
  refine wpAny_bind ?_
  unfold Builtin.Frozenset.sizeOf
  refine wpAny_bind (wpAny_setEntries_of ho hd hf (wpAny_pure ?_))
  refine wpAny_bind ?_
  unfold setDrawn
  refine wpAny_bind (wpAny_setState_of ho hd hf ?_)
  dsimp only
  unfold setsByText
  refine wpAny_bind (wpAny_bind (wpAny_askSetting (wpAny_pure ?_)))
  refine wpAny_pure ?_
  dsimp only
  generalize hb : (!(model prog w).w.params.followText "set-order" && _) = b
  change (!w.params.followText "set-order" && (!t.plain && decide (es.size > 1))) = b at hb
  cases b with
  | false =>
    simp only [Bool.false_eq_true, if_false]
    refine wpAny_bind (wpAny_pure ?_)
    refine wpAny_bind (wpAny_setEpoch_of ho hd hf ?_)
    refine wpAny_bind (wpAny_newObj_type ?_)
    refine wpAny_pure ⟨_, rfl, "set_iterator", _, ⟨_, Heap.get?_push_size _ rfl, rfl⟩, slot_si_next.lookup, h1 ?_⟩
    revert hb
    cases w.params.followText "set-order" <;> cases t.plain <;> simp
  | true =>
    simp only [if_true]
    simp only [Bool.and_eq_true, Bool.not_eq_true', decide_eq_true_eq] at hb
    refine wpAny_bind (draw_order _ _ _ _ (by simp) fun π dr hp => ?_)
    refine wpAny_bind (wpAny_newTuple ?_ (by rw [List.length_map, hp.length_eq, List.length_range, sizeLine_eq]; (first | lia | omega)))
    refine wpAny_bind (wpAny_setEpoch_of (s := Shared.mk _ _ _ _ _) (Heap.get?_push_of_some _ ho) hd hf ?_)
    refine wpAny_bind (wpAny_newObj_type ?_)
    refine wpAny_pure ⟨_, rfl, "set_iterator", _, ⟨_, Heap.get?_push_size _ rfl, rfl⟩, slot_si_next.lookup, ?_⟩
    have := h2 hb.1 hb.2.1 hb.2.2 π dr hp
    rw [← Heap.size_push s.heap { cls := .type "tuple", data := .seq (π.map fun (i : Nat) => rawInt ((i : Nat) : Int)).toArray }] at this
    exact this
end
end Mine
end PartS17
section PartS18
set_option maxHeartbeats 1000000
namespace Mine
section
variable {prog : Program} {w : World} {A : Around} {E : Value → Shared → Prop} {s : Shared}
theorem si_slot {I S : Addr} {o : Obj} {es : Array (Int × Value)} {ep slot i nx : Nat} {t : SetTable} {x : Value} {Q : Option Value → Shared → Prop} (hI : s.heap.get? I = some (siObj (rawInt ((slot : Nat) : Int)) i S es.size ep)) (ho : s.heap.get? S = some o) (hd : o.data = .set es ep t) (hf : t.fits es.size = true)
    (hs : ∀ (E' : Value → Shared → Prop) (Q' : Option (Value × Nat) → Shared → Prop), Q' (some (x, nx)) s → wpAny (model prog w) A.in1 (setNext S slot i ep) Q' E' s)
    (h : ∀ h', h'.get? I = some (siObj (rawInt ((nx : Nat) : Int)) (i + 1) S es.size ep) → Heap.SameBut I s.heap h' → Q (some x) { s with heap := h' }) :
    wpAny (model prog w) A (pyNext (.ref I)) Q E s := by
  have hT : s.TypeIs (.ref I) "set_iterator" := ⟨_, hI, rfl⟩
  unfold pyNext
  refine wpAny_bind (wpAny_attempt (wpAny_callSpecial?_slot (name := Str.ofString "__next__") hT slot_si_next
    (wpAny_call_entry slot_si_next hT entry_si_next ?_ (args_si_next _))))
  unfold Builtin.«set_iterator.__next__»
  refine wpAny_bind (wpAny_of_eq (a := (Value.ref I, [])) rfl ?_)
  refine wpAny_bind (wpAny_fieldsOf hI rfl ?_)
  dsimp only
  refine wpAny_bind (wpAny_setEntries_of ho hd hf ?_)
  have hz : ((((es.size : Nat) : Int)) != ((es.size : Nat) : Int)) = false := by simp
  show wpAny _ _ (if ((((es.size : Nat) : Int)) != ((es.size : Nat) : Int)) = true then _ else _) _ _ _
  rw [hz]
  simp only [Bool.false_eq_true, if_false]
  refine wpAny_bind (hs _ _ ?_)
  dsimp only
  refine wpAny_bind (wpAny_setField hI rfl (by simp) ?_)
  have hI1 := Heap.get?_update_self (Obj.mapFields (·.setIfInBounds 0 (rawInt ((nx : Nat) : Int)))) hI rfl
  refine wpAny_bind (wpAny_setField (s := Shared.mk _ _ _ _ _) hI1 rfl (by simp) ?_)
  have hI2 := Heap.get?_update_self (Obj.mapFields (·.setIfInBounds 1 (rawInt (((i : Nat) : Int) + 1)))) hI1 rfl
  refine wpAny_pure ⟨x, rfl, wpAny_pure (h _ ?_ ((Heap.SameBut.update ..).trans (Heap.SameBut.update ..)))⟩
  rw [hI2]
  rfl
end
end Mine
end PartS18
section PartS19
set_option maxHeartbeats 1000000
namespace Mine
section
variable {prog : Program} {w : World} {A : Around} {E : Value → Shared → Prop} {s : Shared}
/-- the end, by slots or by text -/
theorem si_end {I S : Addr} {o : Obj} {es : Array (Int × Value)} {ep slot i : Nat} {t : SetTable} {Q : Option Value → Shared → Prop} (hh : A.handled = none) (hI : s.heap.get? I = some (siObj (rawInt ((slot : Nat) : Int)) i S es.size ep)) (ho : s.heap.get? S = some o) (hd : o.data = .set es ep t) (hf : t.fits es.size = true)
    (hs : ∀ (E' : Value → Shared → Prop) (Q' : Option (Value × Nat) → Shared → Prop), Q' none s → wpAny (model prog w) A.in1 (setNext S slot i ep) Q' E' s)
    (h : ∀ h', Heap.ExtBut I s.heap h' → Q none { s with heap := h' }) :
    wpAny (model prog w) A (pyNext (.ref I)) Q E s := by
  have hT : s.TypeIs (.ref I) "set_iterator" := ⟨_, hI, rfl⟩
  unfold pyNext
  refine wpAny_bind (wpAny_attempt (wpAny_callSpecial?_slot (name := Str.ofString "__next__") hT slot_si_next
    (wpAny_call_entry slot_si_next hT entry_si_next ?_ (args_si_next _))))
  unfold Builtin.«set_iterator.__next__»
  refine wpAny_bind (wpAny_of_eq (a := (Value.ref I, [])) rfl ?_)
  refine wpAny_bind (wpAny_fieldsOf hI rfl ?_)
  dsimp only
  refine wpAny_bind (wpAny_setEntries_of ho hd hf ?_)
  have hz : ((((es.size : Nat) : Int)) != ((es.size : Nat) : Int)) = false := by simp
  show wpAny _ _ (if ((((es.size : Nat) : Int)) != ((es.size : Nat) : Int)) = true then _ else _) _ _ _
  rw [hz]
  simp only [Bool.false_eq_true, if_false]
  refine wpAny_bind (hs _ _ ?_)
  dsimp only
  refine wpAny_bind (wpAny_setField hI rfl (by simp) ?_)
  show wpAny _ _ (newExc (.type "StopIteration") [] >>= _) _ _ _
  refine wpAny_bind ?_
  simp only [newExc, newTuple]
  refine wpAny_bind (wpAny_newObj_type ?_ (by size_fits))
  refine wpAny_bind (m := firstArgMember _ _) (wpAny_of_eq (a := Value.none) (by first | rfl | (simp only [firstArgMember]; rfl)) ?_)
  refine wpAny_newObj_type ?_ (by size_fits)
  simp only [raiseNew]
  refine wpAny_bind (wpAny_handled ?_)
  rw [show A.in1.handled = none from hh]
  refine wpAny_bind (wpAny_pure (wpAny_throw ?_))
  refine wpAny_bind (wpAny_isInstance (T := "StopIteration") (b := true) ⟨_, Heap.get?_push_size _ rfl, rfl⟩ isSubtype_stop ?_)
  exact wpAny_pure (h _ (((Heap.SameBut.update ..).extBut.push _).push _))
end
end Mine
end PartS19
section PartS20
set_option maxHeartbeats 1000000
namespace Mine
section
variable {prog : Program} {w : World} {A : Around} {E : Value → Shared → Prop} {s : Shared}
theorem next_plain {S : Addr} {o : Obj} {es : Array (Int × Value)} {ep slot i : Nat} {t : SetTable} {Q : Option (Value × Nat) → Shared → Prop} (ho : s.heap.get? S = some o) (hd : o.data = .set es ep t) (hf : t.fits es.size = true)
    (hbt : w.params.followText "set-order" = false) (hpl : t.plain = true ∨ es.size ≤ 1) (hled : t.led = true) (g : Nat)
    (h : Q (match es[SetTable.below t.place slot]?, t.place[SetTable.below t.place slot]? with | some (_, x), some j => some (x, j + 1) | _, _ => none) s) :
    wpAny (model prog w) A (setNext S slot g ep) Q E s := by
  unfold setNext
  refine wpAny_bind (wpAny_setState_of ho hd hf ?_)
  dsimp only
  unfold setsByText
  refine wpAny_bind (wpAny_bind (wpAny_askSetting (wpAny_pure ?_)))
  rw [show (model prog w).w.params.followText "set-order" = false from hbt]
  simp only [Bool.false_eq_true, if_false]
  have hdr : (!t.plain && decide (es.size > 1)) = false := by
    rcases hpl with q | q
    · simp [q]
    · simp; intro _; (first | lia | omega)
  show wpAny _ _ (if (!t.plain && decide (es.size > 1)) = true then _ else _) _ _ _
  rw [hdr]
  simp only [Bool.false_eq_true, if_false]
  show wpAny _ _ ((if (!t.led && !es.isEmpty) = true then unsupported "set:maker-not-led" else pure ()) >>= _) _ _ _
  rw [hled]
  simp only [Bool.not_true, Bool.false_and, Bool.false_eq_true, if_false]
  refine wpAny_bind (wpAny_pure ?_)
  exact wpAny_pure h
theorem next_text {S : Addr} {o : Obj} {es : Array (Int × Value)} {ep slot i : Nat} {t : SetTable} {Q : Option (Value × Nat) → Shared → Prop} (ho : s.heap.get? S = some o) (hd : o.data = .set es ep t) (hf : t.fits es.size = true)
    (hbt : w.params.followText "set-order" = true)
    (h : Q (((pickOrder (w.params.setOrder S ep) es)[i]?).map fun e => (e.2, slot)) s) :
    wpAny (model prog w) A (setNext S slot i ep) Q E s := by
  unfold setNext
  refine wpAny_bind (wpAny_setState_of ho hd hf ?_)
  dsimp only
  unfold setsByText
  refine wpAny_bind (wpAny_bind (wpAny_askSetting (wpAny_pure ?_)))
  rw [show (model prog w).w.params.followText "set-order" = true from hbt]
  simp only [if_true]
  have he : (ep != ep) = false := by simp
  rw [he]
  simp only [Bool.false_eq_true, if_false]
  unfold setWalk
  refine wpAny_bind (wpAny_bind (wpAny_setState_of ho hd hf ?_))
  dsimp only
  unfold setsByText
  refine wpAny_bind (wpAny_bind (wpAny_askSetting (wpAny_pure ?_)))
  rw [show (model prog w).w.params.followText "set-order" = true from hbt]
  simp only [if_true]
  refine wpAny_bind (wpAny_askSetting (wpAny_pure ?_))
  exact wpAny_pure h
end
end Mine
end PartS20
section PartS21
set_option maxHeartbeats 1000000
namespace Mine
section
variable {prog : Program} {w : World} {A : Around} {E : Value → Shared → Prop} {s : Shared}
/-- an item, by drawn places -/
theorem si_drawn {I S T : Addr} {o oT : Obj} {es : Array (Int × Value)} {ep i n : Nat} {t : SetTable} {items : Array Value} {p : Nat} {e : Int × Value} {Q : Option Value → Shared → Prop} (hI : s.heap.get? I = some (siObj (.ref T) i S es.size ep)) (ho : s.heap.get? S = some o) (hd : o.data = .set es ep t) (hf : t.fits es.size = true)
    (hT : s.heap.get? T = some oT) (hTd : oT.data = .seq items n) (hi : items[i]? = some (rawInt ((p : Nat) : Int))) (hp : es[p]? = some e)
    (h : ∀ h', h'.get? I = some (siObj (.ref T) (i + 1) S es.size ep) → Heap.SameBut I s.heap h' → Q (some e.2) { s with heap := h' }) :
    wpAny (model prog w) A (pyNext (.ref I)) Q E s := by
  have hTy : s.TypeIs (.ref I) "set_iterator" := ⟨_, hI, rfl⟩
  unfold pyNext
  refine wpAny_bind (wpAny_attempt (wpAny_callSpecial?_slot (name := Str.ofString "__next__") hTy slot_si_next
    (wpAny_call_entry slot_si_next hTy entry_si_next ?_ (args_si_next _))))
  unfold Builtin.«set_iterator.__next__»
  refine wpAny_bind (wpAny_of_eq (a := (Value.ref I, [])) rfl ?_)
  refine wpAny_bind (wpAny_fieldsOf hI rfl ?_)
  dsimp only
  refine wpAny_bind (wpAny_setEntries_of ho hd hf ?_)
  have hz : ((((es.size : Nat) : Int)) != ((es.size : Nat) : Int)) = false := by simp
  show wpAny _ _ (if ((((es.size : Nat) : Int)) != ((es.size : Nat) : Int)) = true then _ else _) _ _ _
  rw [hz]
  simp only [Bool.false_eq_true, if_false]
  refine wpAny_bind (wpAny_seqItems hT hTd ?_)
  dsimp only
  show wpAny _ _ (match items[((i : Nat) : Int).toNat]? with | some (.int place _) => _ | some _ => _ | none => _) _ _ _
  rw [Int.toNat_natCast, hi]
  show wpAny _ _ (setNextDrawn S ((p : Nat) : Int).toNat ((ep : Nat) : Int).toNat >>= _) _ _ _
  rw [Int.toNat_natCast, Int.toNat_natCast]
  refine wpAny_bind ?_
  unfold setNextDrawn
  refine wpAny_bind (wpAny_setState_of ho hd hf ?_)
  dsimp only
  have he : (ep != ep) = false := by simp
  rw [he]
  simp only [Bool.false_eq_true, if_false]
  rw [hp]
  refine wpAny_pure ?_
  refine wpAny_bind (wpAny_setField hI rfl (by simp) ?_)
  have hI1 := Heap.get?_update_self (Obj.mapFields (·.setIfInBounds 1 (rawInt (((i : Nat) : Int) + 1)))) hI rfl
  refine wpAny_pure ⟨e.2, rfl, wpAny_pure (h _ ?_ (Heap.SameBut.update ..))⟩
  rw [hI1]
  rfl
theorem si_drawn_end {I S T : Addr} {o oT : Obj} {es : Array (Int × Value)} {ep i n : Nat} {t : SetTable} {items : Array Value} {Q : Option Value → Shared → Prop} (hh : A.handled = none) (hI : s.heap.get? I = some (siObj (.ref T) i S es.size ep)) (ho : s.heap.get? S = some o) (hd : o.data = .set es ep t) (hf : t.fits es.size = true)
    (hT : s.heap.get? T = some oT) (hTd : oT.data = .seq items n) (hi : items[i]? = none)
    (h : ∀ h', Heap.ExtBut I s.heap h' → Q none { s with heap := h' }) :
    wpAny (model prog w) A (pyNext (.ref I)) Q E s := by
  have hTy : s.TypeIs (.ref I) "set_iterator" := ⟨_, hI, rfl⟩
  unfold pyNext
  refine wpAny_bind (wpAny_attempt (wpAny_callSpecial?_slot (name := Str.ofString "__next__") hTy slot_si_next
    (wpAny_call_entry slot_si_next hTy entry_si_next ?_ (args_si_next _))))
  unfold Builtin.«set_iterator.__next__»
  refine wpAny_bind (wpAny_of_eq (a := (Value.ref I, [])) rfl ?_)
  refine wpAny_bind (wpAny_fieldsOf hI rfl ?_)
  dsimp only
  refine wpAny_bind (wpAny_setEntries_of ho hd hf ?_)
  have hz : ((((es.size : Nat) : Int)) != ((es.size : Nat) : Int)) = false := by simp
  show wpAny _ _ (if ((((es.size : Nat) : Int)) != ((es.size : Nat) : Int)) = true then _ else _) _ _ _
  rw [hz]
  simp only [Bool.false_eq_true, if_false]
  refine wpAny_bind (wpAny_seqItems hT hTd ?_)
  dsimp only
  show wpAny _ _ (match items[((i : Nat) : Int).toNat]? with | some (.int place _) => _ | some _ => _ | none => _) _ _ _
  rw [Int.toNat_natCast, hi]
  dsimp only
  refine wpAny_bind (wpAny_setField hI rfl (by simp) ?_)
  have hI1 := Heap.get?_update_self (Obj.mapFields (·.setIfInBounds 0 (rawInt 0))) hI rfl
  refine wpAny_bind (wpAny_setField (s := Shared.mk _ _ _ _ _) hI1 rfl (by simp) ?_)
  show wpAny _ _ (newExc (.type "StopIteration") [] >>= _) _ _ _
  refine wpAny_bind ?_
  simp only [newExc, newTuple]
  refine wpAny_bind (wpAny_newObj_type ?_ (by size_fits))
  refine wpAny_bind (m := firstArgMember _ _) (wpAny_of_eq (a := Value.none) (by first | rfl | (simp only [firstArgMember]; rfl)) ?_)
  refine wpAny_newObj_type ?_ (by size_fits)
  simp only [raiseNew]
  refine wpAny_bind (wpAny_handled ?_)
  rw [show A.in1.handled = none from hh]
  refine wpAny_bind (wpAny_pure (wpAny_throw ?_))
  refine wpAny_bind (wpAny_isInstance (T := "StopIteration") (b := true) ⟨_, Heap.get?_push_size _ rfl, rfl⟩ isSubtype_stop ?_)
  exact wpAny_pure (h _ ((((Heap.SameBut.update ..).trans (Heap.SameBut.update ..)).extBut.push _).push _))
end
/-- an iterator is its own -/
theorem slot_si_iter : Slot "set_iterator" "__iter__" "set_iterator.__iter__" :=
  .of (owner := "set_iterator") (n := "__iter__") (by rw [typeLookup_type, builtinLookup_eq_fast]; kernel_rfl) (by decide +kernel) (by decide +kernel) (by decide +kernel)
    (by first | exact .inl (by decide +kernel) | exact .inr (by decide +kernel)) (by rw [isSubtype_type]; kernel_rfl)
theorem entry_si_iter : entryFor table "set_iterator.__iter__" = some Builtin.«dict_keyiterator.__iter__» :=
  entryFor_alias (id' := "dict_keyiterator.__iter__") (by kernel_rfl) rfl (by decide +kernel) (by kernel_rfl)
theorem args_si_iter (a : Value) : argsOk "set_iterator.__iter__" ⟨[a], []⟩ := by unfold argsOk; kernel_rfl
section
variable {prog : Program} {w : World} {A : Around} {E : Value → Shared → Prop} {s : Shared}
theorem si_self {I : Addr} {Q : Value → Shared → Prop} (hT : s.TypeIs (.ref I) "set_iterator") (h : Q (.ref I) s) : wpAny (model prog w) A (pyIter (.ref I)) Q E s := by
  refine wpAny_pyIter_slot hT slot_si_iter (wpAny_call_entry slot_si_iter hT entry_si_iter ?_ (args_si_iter _))
  unfold Builtin.«dict_keyiterator.__iter__»
  wp_walk
  exact ⟨_, rfl, "set_iterator", _, hT, slot_si_next.lookup, h⟩
end
end Mine
end PartS21
section PartS22
set_option maxHeartbeats 1000000
namespace Mine
section
variable {prog : Program} {w : World} {A : Around}
abbrev SameG : Array GenState → Array GenState → Prop := fun a b => b = a
theorem fits_size {t : SetTable} {n : Nat} (h : t.fits n = true) : t.place.size = n := by
  unfold SetTable.fits at h
  simp at h
  exact h.1
theorem walks_plain (hh : A.handled = none) {I S : Addr} (hne : S ≠ I) {o : Obj} {es : Array (Int × Value)} {ep : Nat} {t : SetTable} (hd : o.data = .set es ep t) (hf : t.fits es.size = true) (hto : TOk t)
    (hbt : w.params.followText "set-order" = false) (hpl : t.plain = true ∨ es.size ≤ 1) (hled : t.led = true) :
    WalksS prog w A I [I, S] [I] SameG es.size (fun i v => (es.toList.map (·.2))[i]? = some v)
      (fun i s => s.heap.get? S = some o ∧ ∃ slot : Nat, s.heap.get? I = some (siObj (rawInt ((slot : Nat) : Int)) i S es.size ep) ∧ (∀ j (hj : j < t.place.size), j < i → t.place[j] < slot) ∧ (∀ j (hj : j < t.place.size), i ≤ j → slot ≤ t.place[j])) where
  sub := fun b hb => by simp at hb; simp [hb]
  grefl := fun _ => rfl
  gtrans := fun _ _ _ h1 h2 => h2.trans h1
  frame := fun i s h' _ st _ hk => ⟨hk S (by simp) _ st.1, st.2.elim fun slot h => ⟨slot, hk I (by simp) _ h.1, h.2⟩⟩
  item := fun i s Q E hi st hQ => by
    obtain ⟨ho, slot, hI, q1, q2⟩ := st
    have hsz := fits_size hf
    have hb : SetTable.below t.place slot = i := below_next hto.rise (by (first | lia | omega)) q1 q2
    have hi' : i < t.place.size := by (first | lia | omega)
    refine si_slot (x := es[i].2) (nx := t.place[i] + 1) hI ho hd hf (fun E' Q' hq => next_plain (i := i) ho hd hf hbt hpl hled _ ?_) fun h' hI' hs => ?_
    · rw [hb]
      simpa [hi, hi'] using hq
    · refine hQ _ _ (by simp [hi]) ⟨(hs.2 S hne).trans ho, _, hI', ?_, ?_⟩ ⟨fun b o hb e => (hs.2 b (fun q => hb (by simp [q]))).trans e, rfl, rfl, rfl, Nat.le_refl _⟩
      · intro j hj hji
        rcases Nat.lt_or_ge j i with e | e
        · exact Nat.lt_succ_of_lt (hto.rise.lt e hi')
        · have : j = i := by (first | lia | omega)
          subst this; exact Nat.lt_succ_self _
      · intro j hj hji
        exact hto.rise.lt hji hj
  done := fun s Q E st hQ => by
    obtain ⟨ho, slot, hI, q1, q2⟩ := st
    have hsz := fits_size hf
    have hb : SetTable.below t.place slot = es.size := below_next hto.rise (by (first | lia | omega)) q1 q2
    refine si_end hh hI ho hd hf (fun E' Q' hq => next_plain (i := 0) ho hd hf hbt hpl hled _ ?_) fun h' he => hQ _ ⟨fun b o hb e => he b o (fun q => hb (by simp [q])) e, rfl, rfl, rfl, Nat.le_refl _⟩
    rw [hb]
    simpa using hq
  self := fun i s Q E st hQ => by
    obtain ⟨ho, slot, hI, q1, q2⟩ := st
    exact si_self ⟨_, hI, rfl⟩ hQ
theorem walks_text (hh : A.handled = none) {I S : Addr} (hne : S ≠ I) {o : Obj} {es : Array (Int × Value)} {ep : Nat} {t : SetTable} (hd : o.data = .set es ep t) (hf : t.fits es.size = true)
    (hbt : w.params.followText "set-order" = true) :
    WalksS prog w A I [I, S] [I] SameG es.size (fun i v => ((pickOrder (w.params.setOrder S ep) es).toList.map (·.2))[i]? = some v)
      (fun i s => s.heap.get? S = some o ∧ s.heap.get? I = some (siObj (rawInt ((0 : Nat) : Int)) i S es.size ep)) where
  sub := fun b hb => by simp at hb; simp [hb]
  grefl := fun _ => rfl
  gtrans := fun _ _ _ h1 h2 => h2.trans h1
  frame := fun i s h' _ st _ hk => ⟨hk S (by simp) _ st.1, hk I (by simp) _ st.2⟩
  item := fun i s Q E hi st hQ => by
    obtain ⟨ho, hI⟩ := st
    have hl : (pickOrder (w.params.setOrder S ep) es).size = es.size := by
      have := (pick_perm (w.params.setOrder S ep) es).length_eq
      simpa using this
    have hi' : i < (pickOrder (w.params.setOrder S ep) es).size := by (first | lia | omega)
    refine si_slot (x := (pickOrder (w.params.setOrder S ep) es)[i].2) (nx := 0) hI ho hd hf (fun E' Q' hq => next_text ho hd hf hbt ?_) fun h' hI' hs => ?_
    · rw [Array.getElem?_eq_getElem hi']
      exact hq
    · exact hQ _ _ (by simp [hi']) ⟨(hs.2 S hne).trans ho, hI'⟩ ⟨fun b o hb e => (hs.2 b (fun q => hb (by simp [q]))).trans e, rfl, rfl, rfl, Nat.le_refl _⟩
  done := fun s Q E st hQ => by
    obtain ⟨ho, hI⟩ := st
    have hl : (pickOrder (w.params.setOrder S ep) es).size = es.size := by
      have := (pick_perm (w.params.setOrder S ep) es).length_eq
      simpa using this
    refine si_end hh hI ho hd hf (fun E' Q' hq => next_text ho hd hf hbt ?_) fun h' he => hQ _ ⟨fun b o hb e => he b o (fun q => hb (by simp [q])) e, rfl, rfl, rfl, Nat.le_refl _⟩
    rw [Array.getElem?_eq_none (by (first | lia | omega))]
    exact hq
  self := fun i s Q E st hQ => si_self ⟨_, st.2, rfl⟩ hQ
theorem walks_drawn (hh : A.handled = none) {I S T : Addr} (hne : S ≠ I) (hTI : T ≠ I) {o oT : Obj} {es : Array (Int × Value)} {ep n : Nat} {t : SetTable} (hd : o.data = .set es ep t) (hf : t.fits es.size = true) {π : List Nat} (hp : π.Perm (List.range es.size)) (hTd : oT.data = .seq (π.map fun (i : Nat) => rawInt ((i : Nat) : Int)).toArray n) :
    WalksS prog w A I [I, S, T] [I] SameG es.size (fun i v => (π.map fun p => (es.getD p (0, .none)).2)[i]? = some v)
      (fun i s => s.heap.get? S = some o ∧ s.heap.get? T = some oT ∧ s.heap.get? I = some (siObj (.ref T) i S es.size ep)) where
  sub := fun b hb => by simp at hb; simp [hb]
  grefl := fun _ => rfl
  gtrans := fun _ _ _ h1 h2 => h2.trans h1
  frame := fun i s h' _ st _ hk => ⟨hk S (by simp) _ st.1, hk T (by simp) _ st.2.1, hk I (by simp) _ st.2.2⟩
  item := fun i s Q E hi st hQ => by
    obtain ⟨ho, hT, hI⟩ := st
    have hl : π.length = es.size := by rw [hp.length_eq, List.length_range]
    have hi' : i < π.length := by (first | lia | omega)
    have hm : π[i] < es.size := List.mem_range.mp (hp.mem_iff.mp (List.getElem_mem hi'))
    refine si_drawn (p := π[i]) (e := es[π[i]]) hI ho hd hf hT hTd (by simp [hi']) (by simp [hm]) fun h' hI' hs => ?_
    exact hQ _ _ (by simp [hi', hm, Array.getD]) ⟨(hs.2 S hne).trans ho, (hs.2 T hTI).trans hT, hI'⟩ ⟨fun b o hb e => (hs.2 b (fun q => hb (by simp [q]))).trans e, rfl, rfl, rfl, Nat.le_refl _⟩
  done := fun s Q E st hQ => by
    obtain ⟨ho, hT, hI⟩ := st
    have hl : π.length = es.size := by rw [hp.length_eq, List.length_range]
    exact si_drawn_end hh hI ho hd hf hT hTd (by simp [hl]) fun h' he => hQ _ ⟨fun b o hb e => he b o (fun q => hb (by simp [q])) e, rfl, rfl, rfl, Nat.le_refl _⟩
  self := fun i s Q E st hQ => si_self ⟨_, st.2.2, rfl⟩ hQ
theorem range_map_getD {es : Array (Int × Value)} : (List.range es.size).map (fun p => (es.getD p (0, .none)).2) = es.toList.map (·.2) := by
  apply List.ext_getElem
  · simp
  · intro i h1 h2
    simp at h1 h2
    simp [h1, Array.getD]
end
end Mine
end PartS22
section PartS23
set_option maxHeartbeats 1000000
namespace Mine
section
variable {prog : Program} {w : World} {A : Around} {E : Value → Shared → Prop} {s : Shared}
/-- the state but for heap, toks and the draws -/
def Gx (s s' : Shared) : Prop := s'.gens = s.gens ∧ s'.os = s.os
theorem Gx.trans {s₁ s₂ s₃ : Shared} (a : Gx s₁ s₂) (b : Gx s₂ s₃) : Gx s₁ s₃ := ⟨b.1.trans a.1, b.2.trans a.2⟩
theorem Go.x {s s' : Shared} (g : Go s s') : Gx s s' := by obtain ⟨h, t, rfl⟩ := g; exact ⟨rfl, rfl⟩
theorem hint_set {S : Addr} {Q : Bool → Shared → Prop} (hT : s.TypeIs (.ref S) "set") (h : Q false s) : wpAny (model prog w) A (Builtin.List.listLengthHint (.ref S)) Q E s := by
  unfold Builtin.List.listLengthHint
  refine wpAny_bind (wpAny_specialOf hT F.slot_set_len.lookup ?_)
  dsimp only
  rw [show splitId "set.__len__" = some ("set", "__len__") by decide +kernel]
  dsimp only
  refine wpAny_bind (wpAny_isInstance hT (by rw [isSubtype_type]; kernel_rfl : isSubtype (.type "set") (.type "set") = pure true) ?_)
  refine wpAny_ite_false rfl ?_
  refine wpAny_ite_true (by decide +kernel) ?_
  refine wpAny_bind (wpAny_typeOf hT ?_)
  exact wpAny_pure h
theorem collect_walk {S : Addr} {n : Nat} {Q : List Value → Shared → Prop} (hT : s.TypeIs (.ref S) "set") (hn : n ≤ 100)
    (hit : ∀ (E' : Value → Shared → Prop) (Q' : Value → Shared → Prop),
      (∀ s₁ I fp P St, Gx (Shared.mk (s.heap.push { cls := .type "list", data := .seq ([] : List Value).toArray }) s.gens s.drawn s.toks s.os) s₁ → (∀ b o, (s.heap.push { cls := .type "list", data := .seq ([] : List Value).toArray }).get? b = some o → s₁.heap.get? b = some o) → s.heap.get? I = none → s.heap.objs.size ∉ fp →
        WalksS prog w A.in1 I fp [I] SameG n P St → St 0 s₁ → (∀ acc s', Gx s s' → Ch [] s.heap s'.heap → ItemsOf P acc n → Q acc.toList s') → Q' (.ref I) s₁) →
      wpAny (model prog w) A.in1 (pyIter (.ref S)) Q' E' (Shared.mk (s.heap.push { cls := .type "list", data := .seq ([] : List Value).toArray }) s.gens s.drawn s.toks s.os)) :
    wpAny (model prog w) A (collect (.ref S)) Q E s := by
  obtain ⟨oS, hoS, hcS⟩ := id hT
  have hSL : s.heap.objs.size ≠ S := Nat.ne_of_gt (Heap.lt_size hoS)
  unfold collect
  refine wpAny_bind (wpAny_runValue (codeAny_builtin F.entry_proto_collect ?_))
  rw [Around.under_plainId F.plain_proto_collect _]
  show wpAny _ A.in1 (newList [] >>= fun l => again (.builtin "list.__iadd__" ⟨[l, .ref S], []⟩)) _ _ s
  refine wpAny_bind (wpAny_newObj_type ?_)
  refine wpAny_pure ⟨plainId_quiet F.plain_list_iadd _, codeAny_builtin F.entry_list_iadd ?_⟩
  rw [Around.under_plainId F.plain_list_iadd _]
  show wpAny _ A.in1 (Builtin.List.listExtendWith (.ref s.heap.objs.size) (.ref S) (.ref s.heap.objs.size)) _ _ _
  unfold Builtin.List.listExtendWith
  refine wpAny_bind (wpAny_typeOf (⟨oS, Heap.get?_push_of_some _ hoS, hcS⟩ : Shared.TypeIs _ (.ref S) "set") ?_)
  have h1 : Builtin.List.listSameRef (.ref s.heap.objs.size) (.ref S) = false := by simp [Builtin.List.listSameRef, hSL]
  have h2 : (Value.type "set" == Value.type "list") = false := by decide
  have h3 : (Value.type "set" == Value.type "tuple") = false := by decide
  simp only [h1, h2, h3, Bool.or_false, Bool.false_eq_true, if_false]
  refine wpAny_bind (hit _ _ fun s₁ I fp P St g₁ k₁ hIn hLf W st hQ => ?_)
  refine wpAny_bind (wpAny_holding (hint_set ⟨oS, k₁ S _ (Heap.get?_push_of_some _ hoS), hcS⟩ ?_))
  refine wpAny_ite_true (by decide +kernel) ?_
  refine wpAny_bind (wpAny_rule ?_)
  have hS₁ : s₁.heap.get? s.heap.objs.size = some { cls := .type "list", data := .seq ([] : List Value).toArray } := k₁ _ _ (Heap.get?_push_size _ rfl)
  refine wpAny_bind ?_
  show wpAny _ A.in1 (updateSeq s.heap.objs.size (·.push .none) >>= fun _ => updateSeq s.heap.objs.size (·.pop)) _ _ _
  refine wpAny_bind (wpAny_updateSeq hS₁ rfl ?_)
  have hS₂ := Heap.get?_update_self (Obj.mapSeq (·.push Value.none)) hS₁ rfl
  refine wpAny_updateSeq hS₂ rfl ?_
  have hS₃ := Heap.get?_update_self (Obj.mapSeq (·.pop)) hS₂ rfl
  have oth : ∀ b o, b ≠ s.heap.objs.size → s₁.heap.get? b = some o →
      ((s₁.heap.update s.heap.objs.size (Obj.mapSeq (·.push Value.none))).update s.heap.objs.size (Obj.mapSeq (·.pop))).get? b = some o :=
    fun b o hb e => (Heap.get?_update_other _ _ (Ne.symm hb)).trans ((Heap.get?_update_other _ _ (Ne.symm hb)).trans e)
  refine wpAny_pure ⟨plainId_quiet F.plain_extend_loop _, codeAny_extend_loopS W (by rw [sizeLine_eq]; (first | lia | omega)) _ hLf _ n 0 _ _ _ rfl (Nat.zero_le _)
    (W.frame 0 s₁ _ s₁.toks st (Nat.le_refl _) fun b hb o e => oth b o (fun h => hLf (h ▸ hb)) e) hS₃ (ItemsOf.nil P) fun s' acc' c' hm hS' hacc => ?_⟩
  show wpAny _ A (load s.heap.objs.size >>= _) _ _ s'
  refine wpAny_bind (wpAny_load hS' ?_)
  refine wpAny_pure (hQ acc' s' ?_ ?_ hacc)
  · exact ⟨hm.gens.trans g₁.1, hm.os.trans g₁.2⟩
  · intro b o _ e
    have hb : b ≠ s.heap.objs.size := Nat.ne_of_lt (Heap.lt_size e)
    refine hm.heap b o ?_ (oth b o hb (k₁ b o (Heap.get?_push_of_some _ e)))
    intro m
    simp only [List.mem_cons, List.not_mem_nil, or_false] at m
    rcases m with rfl | rfl
    · exact hb rfl
    · rw [hIn] at e; cases e
end
end Mine
end PartS23
section PartS24
set_option maxHeartbeats 1000000
namespace Mine
theorem isInt_iff {k : Int} {n : Int} {t : Tok} : Value.isInt k (.int n t) = true ↔ k = n := by
  constructor
  · intro h
    obtain ⟨u, e⟩ := Value.isInt_shape h
    cases e; rfl
  · rintro rfl
    simp [Value.isInt]
theorem ints_of : ∀ (vs : List Value), (∀ v ∈ vs, ∃ k, Value.isInt k v = true) → ∃ ns, IntsAre vs ns ∧ (∀ k, k ∈ ns ↔ ∃ v ∈ vs, Value.isInt k v = true) ∧ (vs.Pairwise (fun u v => ∀ k, Value.isInt k u = true → Value.isInt k v = true → False) → ns.Nodup)
  | [], _ => ⟨[], .nil, fun k => by simp, fun _ => List.nodup_nil⟩
  | v :: r, h => by
    obtain ⟨ns, h1, h2, h3⟩ := ints_of r fun u hu => h u (List.mem_cons_of_mem _ hu)
    obtain ⟨k, hk⟩ := h v List.mem_cons_self
    obtain ⟨t, rfl⟩ := Value.isInt_shape hk
    refine ⟨k :: ns, .cons k t h1, fun k' => ?_, fun hp => ?_⟩
    · constructor
      · intro m
        rcases List.mem_cons.mp m with rfl | m
        · exact ⟨_, List.mem_cons_self, hk⟩
        · obtain ⟨u, hu, e⟩ := (h2 k').mp m
          exact ⟨u, List.mem_cons_of_mem _ hu, e⟩
      · rintro ⟨u, hu, e⟩
        rcases List.mem_cons.mp hu with rfl | hu
        · rw [isInt_iff.mp e]; exact List.mem_cons_self
        · exact List.mem_cons_of_mem _ ((h2 k').mpr ⟨u, hu, e⟩)
    · obtain ⟨p1, p2⟩ := List.pairwise_cons.mp hp
      refine List.nodup_cons.mpr ⟨fun m => ?_, h3 p2⟩
      obtain ⟨u, hu, e⟩ := (h2 k).mp m
      exact p1 u hu k hk e
theorem items_eq {ord : List Value} {acc : Array Value} {n : Nat} (h : ItemsOf (fun i v => ord[i]? = some v) acc n) (hl : ord.length = n) : acc.toList = ord := by
  apply List.ext_getElem
  · simp [h.1, hl]
  · intro i h1 h2
    have : ord[i]? = some (acc[i]'(by simpa using h1)) := h.2 i (acc[i]'(by simpa using h1)) (by simp at h1; simp [h1])
    rw [List.getElem?_eq_getElem h2] at this
    simp at this
    simp [this]
section
variable {prog : Program} {w : World} {A : Around} {E : Value → Shared → Prop} {s : Shared}
theorem collect_setX {S : Addr} {K : Int → Bool} {n : Nat} {Q : List Value → Shared → Prop} (hh : A.handled = none) (hS : SX prog w s.heap S K n) (hn : n ≤ 100)
    (h : ∀ vs ns s', Gx s s' → Ch [] s.heap s'.heap → IntsAre vs ns → ns.Nodup → vs.length = n → (∀ k, k ∈ ns ↔ K k = true) → Q vs s') :
    wpAny (model prog w) A (collect (.ref S)) Q E s := by
  obtain ⟨o, es, ep, t, ho, hex, hd, hel, hmem, hsz, hf, hto, hle, hap⟩ := hS
  subst hsz
  have hSl := Heap.lt_size ho
  have fin : ∀ ord : List Value, ord.Perm (es.toList.map (·.2)) → ∀ acc s', Gx s s' → Ch [] s.heap s'.heap → ItemsOf (fun i v => ord[i]? = some v) acc es.size → Q acc.toList s' := by
    intro ord hp acc s' g c hi
    have hl : ord.length = es.size := by rw [hp.length_eq]; simp
    rw [items_eq hi hl]
    obtain ⟨ns, h1, h2, h3⟩ := ints_of ord fun v hv => by
      obtain ⟨e, he, rfl⟩ := List.mem_map.mp (hp.mem_iff.mp hv)
      obtain ⟨⟨k, hk, _⟩, _⟩ := hel e he
      exact ⟨k, hk⟩
    refine h ord ns s' g c h1 (h3 ?_) hl fun k => ?_
    · refine (hp.pairwise_iff (fun q k a b => q k b a)).mpr ?_
      rw [List.pairwise_map]
      exact hap
    · rw [h2 k, hmem k]
      constructor
      · rintro ⟨v, hv, e⟩
        obtain ⟨x, hx, rfl⟩ := List.mem_map.mp (hp.mem_iff.mp hv)
        exact ⟨x, hx, e⟩
      · rintro ⟨x, hx, e⟩
        exact ⟨x.2, hp.mem_iff.mpr (List.mem_map.mpr ⟨x, hx, rfl⟩), e⟩
  refine collect_walk ⟨o, ho, hex.1⟩ hn fun E' Q' hq => ?_
  have hsp : (s.heap.push { cls := .type "list", data := .seq ([] : List Value).toArray }).objs.size = s.heap.objs.size + 1 := Heap.size_push _ _
  have hnS : S ≠ s.heap.objs.size + 1 := Nat.ne_of_lt (Nat.lt_succ_of_lt hSl)
  have hnL : s.heap.objs.size ≠ s.heap.objs.size + 1 := Nat.ne_of_lt (Nat.lt_succ_self _)
  have hnSL : s.heap.objs.size ≠ S := Nat.ne_of_gt hSl
  refine iter_set (s := Shared.mk _ _ _ _ _) (Heap.get?_push_of_some _ ho) hex hd hf hn ?_ ?_
  · intro hm
    dsimp only
    rw [hsp]
    cases hft : w.params.followText "set-order" with
    | true =>
      refine hq _ _ _ _ _ ⟨rfl, rfl⟩ (fun b o e => Heap.get?_push_of_some _ e) (Heap.get?_none_of_le (Nat.le_succ _)) (by simp [hnL, hnSL]) (walks_text (I := s.heap.objs.size + 1) (by simp [hh]) hnS hd hf hft) ⟨Heap.get?_push_of_some _ (Heap.get?_push_of_some _ ho), ?_⟩ (fin _ ((pick_perm _ _).map _))
      have := Heap.get?_push_size (s.heap.push { cls := .type "list", data := .seq ([] : List Value).toArray }) (o := siObj (rawInt 0) 0 S es.size ep) rfl
      rw [hsp] at this
      exact this
    | false =>
      rw [hft] at hm hle
      have hpl := hm.resolve_left (by simp)
      refine hq _ _ _ _ _ ⟨rfl, rfl⟩ (fun b o e => Heap.get?_push_of_some _ e) (Heap.get?_none_of_le (Nat.le_succ _)) (by simp [hnL, hnSL]) (walks_plain (I := s.heap.objs.size + 1) (by simp [hh]) hnS hd hf hto hft hpl hle) ⟨Heap.get?_push_of_some _ (Heap.get?_push_of_some _ ho), 0, ?_, fun j _ q => absurd q (Nat.not_lt_zero _), fun j _ _ => Nat.zero_le _⟩ (fin _ (List.Perm.refl _))
      have := Heap.get?_push_size (s.heap.push { cls := .type "list", data := .seq ([] : List Value).toArray }) (o := siObj (rawInt 0) 0 S es.size ep) rfl
      rw [hsp] at this
      exact this
  · intro hft hpl h1 π dr hp
    dsimp only
    rw [hsp]
    have hnS2 : S ≠ s.heap.objs.size + 1 + 1 := Nat.ne_of_lt (Nat.lt_succ_of_lt (Nat.lt_succ_of_lt hSl))
    have hnL2 : s.heap.objs.size ≠ s.heap.objs.size + 1 + 1 := Nat.ne_of_lt (Nat.lt_succ_of_lt (Nat.lt_succ_self _))
    have ord : (π.map fun p => (es.getD p (0, .none)).2).Perm (es.toList.map (·.2)) := by
      have := hp.map (fun p => (es.getD p (0, .none)).2)
      rw [range_map_getD] at this
      exact this
    have hT := Heap.get?_push_size (s.heap.push { cls := .type "list", data := .seq ([] : List Value).toArray }) (o := { cls := .type "tuple", data := .seq (π.map fun (i : Nat) => rawInt ((i : Nat) : Int)).toArray }) rfl
    rw [hsp] at hT
    have hI := Heap.get?_push_size ((s.heap.push { cls := .type "list", data := .seq ([] : List Value).toArray }).push { cls := .type "tuple", data := .seq (π.map fun (i : Nat) => rawInt ((i : Nat) : Int)).toArray }) (o := siObj (.ref (s.heap.objs.size + 1)) 0 S es.size ep) rfl
    rw [Heap.size_push, hsp] at hI
    exact hq _ _ _ _ _ ⟨rfl, rfl⟩ (fun b o e => Heap.get?_push_of_some _ (Heap.get?_push_of_some _ e)) (Heap.get?_none_of_le (Nat.le_succ_of_le (Nat.le_succ _))) (by simp [hnL, hnSL, hnL2]) (walks_drawn (I := s.heap.objs.size + 1 + 1) (T := s.heap.objs.size + 1) (by simp [hh]) hnS2 (Nat.ne_of_lt (Nat.lt_succ_self _)) hd hf hp rfl) ⟨Heap.get?_push_of_some _ (Heap.get?_push_of_some _ (Heap.get?_push_of_some _ ho)), Heap.get?_push_of_some _ hT, hI⟩ (fin _ ord)
/-- sorted(set(..)) of few ints -/
theorem sorted_set {S : Addr} {K : Int → Bool} {n : Nat} {Q : Value → Shared → Prop} (hh : A.handled = none) (hS : SX prog w s.heap S K n) (hn : n ≤ 100)
    (h : ∀ D s' out ns, Gx s s' → s.heap.get? D = none → s'.heap.IsList D out → IntsAre out.toList ns → ns.Pairwise (· < ·) → ns.length = n → (∀ k, k ∈ ns ↔ K k = true) → Ch [] s.heap s'.heap → Q (.ref D) s') :
    wpAny (model prog w) A (call (.builtin "sorted") [.ref S]) Q E s := by
  refine sorted_of (collect_setX (by simp [hh]) hS hn fun vs ns s₁ g c hi hnd hl hk => ⟨ns, hi, by (first | lia | omega), fun D s' out ns' g' hD hL hI hp hpw c' => ?_⟩)
  refine h D s' out ns' (g.trans g'.x) ?_ hL hI ?_ (by rw [hp.length_eq, ← hl, ← hi.length]) (fun k => by rw [hp.mem_iff, hk]) (c.trans c')
  · cases q : s.heap.get? D with
    | none => rfl
    | some o => rw [c D o (fun m => nomatch m) q] at hD; cases hD
  · have hnd' := hp.nodup_iff.mpr hnd
    have := hpw.and hnd'
    exact this.imp fun {a b} q => by (first | lia | omega)
end
end Mine
end PartS24
section PartL0
set_option maxHeartbeats 400000
namespace Mine
/-! a comprehension that makes new plain lists -/
def NewP (h₁ : Heap) (X : List Addr) (Gv : Value → Array Value → Prop) (h : Heap) (v y : Value) : Prop := ∃ T its, y = .ref T ∧ h₁.get? T = none ∧ T ∉ X ∧ h.PlainList T its ∧ Gv v its
theorem NewP.ch {h₁ : Heap} {X : List Addr} {Gv : Value → Array Value → Prop} {h h' : Heap} {v y : Value} (n : NewP h₁ X Gv h v y) (c : Ch X h h') : NewP h₁ X Gv h' v y := by
  obtain ⟨T, its, e, a, b, l, g⟩ := n
  exact ⟨T, its, e, a, b, c.plain b l, g⟩
section
variable {prog : Program} {w : World} {A : Around} {E : Value → Shared → Prop}
theorem loop_plain {R : Result → Shared → Prop} {s : Shared} {elt iter : Expr} {x : Str} {px : Pos} {scope : Scope} {pos : Pos} {l I D : Addr} {items : Array Value} {cenv : Env} {m : Str → Option Value} (Gv : Value → Array Value → Prop) (hh : A.handled = none)
    (hx : cenv.kindOf x = some .local) (hp : (cenv.scope.kind == .class || (cenv.scope.kind == .module && cenv.locals != cenv.globals)) = false)
    (d1 : D ≠ cenv.locals) (d2 : I ≠ cenv.locals) (d3 : I ≠ D) (d4 : l ∉ [cenv.locals, I, D]) (hz : items.size ≤ 2 ^ 20)
    (hit : s.heap.IsListIter I l 0) (hl : s.heap.IsList l items) (hacc : s.heap.PlainList D #[]) (hn : s.heap.Ns cenv.locals m)
    (helt : ∀ v s₂ m₂ E', v ∈ items.toList → s₂.heap.Ns cenv.locals m₂ → m₂ x = some v → Ch [cenv.locals, I, D] s.heap s₂.heap →
      wpAny (model prog w) A (eval elt cenv) (fun y s₃ => (∃ T its, y = .ref T ∧ s₂.heap.get? T = none ∧ s₃.heap.PlainList T its ∧ Gv v its) ∧ Keeps s₂ s₃) E' s₂)
    (hR : ∀ h' tk m' ys, h'.Ns cenv.locals m' → h'.PlainList D (List.toArray ys) → Paired (NewP s.heap [cenv.locals, I, D] Gv h') items.toList ys → ys.Pairwise (· ≠ ·) → Ch [cenv.locals, I, D] s.heap h' → R (.ok .next) { s with heap := h', toks := tk }) :
    codeAny (model prog w) A (.compLoop (.ListComp elt [⟨.Name x px, iter, [], 0⟩] scope pos) 0 (.ref I) (.ref D) cenv) R s := by
  have hlI : l ≠ I := fun q => d4 (by rw [q]; simp)
  have hlC : l ≠ cenv.locals := fun q => d4 (by rw [q]; simp)
  have hlD : l ≠ D := fun q => d4 (by rw [q]; simp)
  have W := Walks.list (prog := prog) (w := w) hh I l hlI items
  refine codeAny_compLoop_tests (fun k s' => ∃ i h' tk m' ys, s' = { s with heap := h', toks := tk } ∧ k + i = items.size ∧ (h'.IsListIter I l i ∧ h'.IsList l items) ∧ h'.PlainList D (List.toArray ys) ∧ h'.Ns cenv.locals m' ∧ Paired (NewP s.heap [cenv.locals, I, D] Gv h') (items.toList.take i) ys ∧ ys.Pairwise (· ≠ ·) ∧ Ch [cenv.locals, I, D] s.heap h') ?_ items.size
    ⟨0, s.heap, s.toks, m, [], rfl, rfl, ⟨hit, hl⟩, hacc, hn, by simpa using Paired.nil, List.Pairwise.nil, Ch.refl⟩
  rintro k s' ⟨i, h', tk, m', ys, rfl, hk, st, hD, hN, hF, hnd, c⟩
  by_cases hi : i < items.size
  · refine W.item i _ _ _ hi st fun v h₁ tk₁ hv st₁ hk₁ => ?_
    have c₁ : Ch [I] h' h₁ := hk₁
    have hn₁ : h₁.Ns cenv.locals m' := hN.at' fun o e => c₁ _ o (not_mem_one (Ne.symm d2)) e
    refine wpAny_assign_Name (wpAny_storeName_local hx hn₁ (fun h₂ hn₂ hs₂ => ?_) hp)
    have c₂ : Ch [cenv.locals] h₁ h₂ := Ch.one hs₂
    refine wpAny_tests_nil ?_
    rw [if_pos rfl]
    have hv' : items[i]? = some v := hv
    have vm : v ∈ items.toList := by have := Array.mem_of_getElem? hv'; simpa using this
    have C₂ : Ch [cenv.locals, I, D] s.heap h₂ := (c.trans (c₁.mono fun b m => by rw [List.mem_singleton.mp m]; simp)).trans (c₂.mono fun b m => by rw [List.mem_singleton.mp m]; simp)
    refine wpAny_mono (helt v _ _ _ vm hn₂ (by simp) C₂) (fun y s₄ h₄ => ?_) fun _ _ e => e
    obtain ⟨⟨T, its, rfl, hT, hTp, hG⟩, h₃, tk₃, rfl, k₃⟩ := h₄
    have c₃ : Ch [] h₂ h₃ := fun b o _ e => k₃ b o e
    have hD₂ : h₂.PlainList D (List.toArray ys) := c₂.plain (not_mem_one d1) (c₁.plain (not_mem_one (Ne.symm d3)) hD)
    have st₂ : h₂.IsListIter I l (i + 1) ∧ h₂.IsList l items := ⟨st₁.1.at fun o e => c₂ I o (not_mem_one d2) e, c₂.isList (not_mem_one hlC) st₁.2⟩
    have hTX : T ∉ [cenv.locals, I, D] := by
      intro m
      rcases List.mem_cons.mp m with q | q
      · obtain ⟨_, _, _, ho, _⟩ := hn₂; rw [q, ho] at hT; cases hT
      · rcases List.mem_cons.mp q with q | q
        · obtain ⟨o, ho, _⟩ := st₂.1; rw [q, ho] at hT; cases hT
        · obtain ⟨_, ho⟩ := hD₂; rw [List.mem_singleton.mp q, ho] at hT; cases hT
    have hTs : s.heap.get? T = none := C₂.fresh hT hTX
    have hys : ys.length = i := by
      have := hF.length
      rw [List.length_take] at this
      simp at this
      (first | lia | omega)
    refine wpAny_list_append_plain (hsz := by rw [List.size_toArray, sizeLine_eq]; (first | lia | omega)) (c₃.plain (fun m => nomatch m) hD₂) fun h₅ hl₅ hs₅ => ?_
    have c₅ : Ch [D] h₃ h₅ := Ch.one hs₅
    have C₅ : Ch [cenv.locals, I, D] h' h₅ := (((c₁.mono (Y := [cenv.locals, I, D]) fun b m => by rw [List.mem_singleton.mp m]; simp).trans (c₂.mono fun b m => by rw [List.mem_singleton.mp m]; simp)).trans c₃.nil).trans (c₅.mono fun b m => by rw [List.mem_singleton.mp m]; simp)
    have Tl : T ∉ [D] := fun m => hTX (by rw [List.mem_singleton.mp m]; simp)
    refine ⟨k - 1, by (first | lia | omega), i + 1, h₅, tk₃, _, ys ++ [.ref T], rfl, by (first | lia | omega), ⟨(st₂.1.at fun o e => k₃ I o e).at fun o e => c₅ I o (not_mem_one d3) e, c₅.isList (not_mem_one hlD) (c₃.isList (fun m => nomatch m) st₂.2)⟩, by simpa using hl₅, (hn₂.keeps k₃).sameBut hs₅ (Ne.symm d1), ?_, ?_, c.trans C₅⟩
    · have e1 : items.toList.take (i + 1) = items.toList.take i ++ [v] := by
        rw [List.take_succ, Array.getElem?_toList, hv']; rfl
      rw [e1]
      exact Paired.snoc (hF.mono fun _ _ q => q.ch C₅) ⟨T, its, rfl, hTs, hTX, c₅.plain Tl hTp, hG⟩
    · refine List.pairwise_append.mpr ⟨hnd, List.pairwise_singleton _ _, fun a ha b hb => ?_⟩
      rw [List.mem_singleton.mp hb]
      rintro rfl
      obtain ⟨_, T', _, e', _, _, hl', _⟩ := Paired.right hF _ ha
      cases e'
      obtain ⟨nn, ho⟩ := hl'
      have := c₂ _ _ (fun m => hTX (by rw [List.mem_singleton.mp m]; simp)) (c₁ _ _ (fun m => hTX (by rw [List.mem_singleton.mp m]; simp)) ho)
      rw [hT] at this; cases this
  · have hi0 : k = 0 := by (first | lia | omega)
    have hin : i = items.size := by (first | lia | omega)
    subst hin
    refine W.done _ _ _ st fun h₁ tk₁ hk₁ => ?_
    have c₁ : Ch [I] h' h₁ := hk₁
    have C₁ : Ch [cenv.locals, I, D] h' h₁ := c₁.mono fun b m => by rw [List.mem_singleton.mp m]; simp
    refine hR h₁ tk₁ m' ys (hN.at' fun o e => c₁ _ o (not_mem_one (Ne.symm d2)) e) (c₁.plain (not_mem_one (Ne.symm d3)) hD) ?_ hnd (c.trans C₁)
    rw [List.take_of_length_le (by simp)] at hF
    exact hF.mono fun _ _ q => q.ch C₁
end
end Mine
end PartL0
section PartL1
set_option maxHeartbeats 400000
namespace Mine
section
variable {prog : Program} {w : World} {A : Around} {E : Value → Shared → Prop}
/-- y = [elt for x in xs], each elt a new plain list -/
theorem as_plain {s : Shared} {elt iter : Expr} {x y : Str} {px py : Pos} {scope cs : Scope} {cl0 cl : List (Str × Addr)} {pos spos : Pos} {cn : Str} {L f : Addr} {cd : Value} {h₀ : Heap} {Q : Flow → Shared → Prop} (Gv : Heap → Value → Array Value → Prop)
    (h : wpAny (model prog w) A (eval iter (envX cn cs L f cd cl0)) (fun xv s₁ => ∃ l items bs, xv = .ref l ∧ s₁.heap.IsList l items ∧ items.size ≤ 2 ^ 20 ∧ Fm h₀ L bs s₁.heap ∧
      (∀ C v s₃ m₃ E', s₁.heap.objs.size ≤ C → v ∈ items.toList → s₃.heap.Ns C m₃ → m₃ x = some v → (∀ b o, s₁.heap.get? b = some o → s₃.heap.get? b = some o) →
        wpAny (model prog w) A (eval elt (compEnvC scope cl C (envX cn cs L f cd cl0))) (fun y s₄ => (∃ T its, y = .ref T ∧ s₃.heap.get? T = none ∧ s₄.heap.PlainList T its ∧ Gv s₁.heap v its) ∧ Keeps s₃ s₄) E' s₃) ∧
      (∀ D s' ys, Go s₁ s' → s₁.heap.get? D = none → s'.heap.PlainList D (List.toArray ys) → Paired (NewP s₁.heap [] (Gv s₁.heap) s'.heap) items.toList ys → ys.Pairwise (· ≠ ·) → (∀ y ∈ ys, y ≠ .ref D) →
        Fm h₀ L ((y, .ref D) :: bs) s'.heap → Ch [L] s₁.heap s'.heap → Q .next s')) E s)
    (hh : A.handled = none)
    (hsw : swapsWith (.ListComp elt [⟨.Name x px, iter, [], 0⟩] scope pos) (some (.Name y py)) spos.line (envX cn cs L f cd cl0) = pure true := by rfl)
    (hclos : closureFor scope (envX cn cs L f cd cl0) = pure cl := by rfl) (hcell : ∀ y ∈ scope.names, y.2 ≠ .cell := by decide) (hkind : scope.kind = .function := by rfl)
    (hnames : ∀ y ∈ scope.names, y.2 = .local → scope.names.lookup y.1 = some .local := by decide) (hx : scope.names.lookup x = some .local := by rfl)
    (hy : (envX cn cs L f cd cl0).kindOf y = some .local := by rfl) (hck : cs.kind = .function := by rfl)
    (hs : ∀ x, foldedSetIterable iter (envX cn cs L f cd cl0) x = pure x := by intro _; rfl) :
    wpAny (model prog w) A (exec (.Assign [.Name y py] (.ListComp elt [⟨.Name x px, iter, [], 0⟩] scope pos) spos) (envX cn cs L f cd cl0)) Q E s := by
  rw [exec_Assign_Name_used _ _ _ _ hsw]
  refine wpAny_bind (wpAny_standAt (wpAny_bind ?_))
  show wpAny _ A (do let _ ← comprehension (.ListComp elt [⟨.Name x px, iter, [], 0⟩] scope pos) scope (envX cn cs L f cd cl0) _ (newList []) false (eval iter (envX cn cs L f cd cl0)) (some (assign (.Name y py) (envX cn cs L f cd cl0)))) _ _ s
  refine wpAny_bind (wpAny_mono (wpAny_comprehension_free (use := some (assign (.Name y py) (envX cn cs L f cd cl0))) (Q := fun _ s' => Q .next s') rfl hs hclos hkind hnames
    (wpAny_mono h (fun xv s₁ h₁ => ?_) fun _ _ e => e)) (fun _ s' hq => wpAny_pure (wpAny_pure hq)) fun _ _ e => e)
  obtain ⟨l, items, bs, rfl, hl, hz, p, T, k⟩ := h₁
  refine wpAny_pyIter_list hl ?_
  have nl : ∀ b : Addr, b ∉ ([] : List Addr) := fun _ m => nomatch m
  have hlI : l ≠ s₁.heap.objs.size := Nat.ne_of_lt (sizeOf_list hl)
  have c₂ : Ch [] s₁.heap (s₁.heap.push { cls := .type "list_iterator", data := .fields #[.ref l, .int 0 0] }) := Ch.push
  have hz₂ : (s₁.heap.push { cls := .type "list_iterator", data := .fields #[.ref l, .int 0 0] }).objs.size = s₁.heap.objs.size + 1 := Heap.size_push ..
  have hit : (s₁.heap.push { cls := .type "list_iterator", data := .fields #[.ref l, .int 0 0] }).IsListIter s₁.heap.objs.size l 0 := ⟨_, Heap.get?_push_size _ rfl, rfl, rfl⟩
  generalize s₁.heap.push { cls := .type "list_iterator", data := .fields #[.ref l, .int 0 0] } = h₂ at *
  obtain ⟨m, F, lk⟩ := p.ch c₂ (nl _) (fun _ m => nomatch m)
  refine wpAny_newObj_type (wpAny_newFunctionEnv hcell (by intro y hy; simp at hy) (fun h₄ hns₄ hsb₄ => ?_) hkind)
  dsimp only at hns₄ hsb₄ ⊢
  have c₃ : Ch [] h₂ (h₂.push { cls := .type "list", dict := none, data := .seq ([] : List Value).toArray }) := Ch.push
  have hz₃ : (h₂.push { cls := .type "list", dict := none, data := .seq ([] : List Value).toArray }).objs.size = h₂.objs.size + 1 := Heap.size_push ..
  have hD₃ : (h₂.push { cls := .type "list", dict := none, data := .seq ([] : List Value).toArray }).PlainList h₂.objs.size #[] := ⟨_, Heap.get?_push_size _ rfl⟩
  generalize h₂.push { cls := .type "list", dict := none, data := .seq ([] : List Value).toArray } = h₃ at *
  have hI2 : s₁.heap.objs.size < h₂.objs.size := by rw [hz₂]; exact Nat.lt_succ_self _
  have hD3 : h₂.objs.size < h₃.objs.size := by rw [hz₃]; exact Nat.lt_succ_self _
  have hI3 : s₁.heap.objs.size < h₃.objs.size := Nat.lt_trans hI2 hD3
  have c₄ : Ch [h₃.objs.size] h₃ h₄ := fun b o nb e => hsb₄.extBut b o (fun q => nb (by rw [q]; simp)) (Heap.get?_push_of_some _ e)
  have up₄ : ∀ b o, s₁.heap.get? b = some o → h₄.get? b = some o := fun b o e => c₄ b o (not_mem_one (Nat.ne_of_lt (Nat.lt_trans (Heap.lt_size e) hI3))) (c₃ b o (nl _) (c₂ b o (nl _) e))
  have upI : ∀ o, h₂.get? s₁.heap.objs.size = some o → h₄.get? s₁.heap.objs.size = some o := fun o e => c₄ _ o (not_mem_one (Nat.ne_of_lt hI3)) (c₃ _ o (nl _) e)
  have hD₄ : h₄.PlainList h₂.objs.size #[] := c₄.plain (not_mem_one (Nat.ne_of_lt hD3)) hD₃
  have hCn : s₁.heap.get? h₃.objs.size = none := get_none (Nat.le_of_lt hI3)
  have hDn : s₁.heap.get? h₂.objs.size = none := get_none (Nat.le_of_lt hI2)
  have hIn : s₁.heap.get? s₁.heap.objs.size = none := get_none (Nat.le_refl _)
  have old : ∀ b o, s₁.heap.get? b = some o → b ∉ [h₃.objs.size, s₁.heap.objs.size, h₂.objs.size] := fun b o e mb => by
    rcases List.mem_cons.mp mb with q | q
    · rw [q, hCn] at e; cases e
    · rcases List.mem_cons.mp q with q | q
      · rw [q, hIn] at e; cases e
      · rw [List.mem_singleton.mp q, hDn] at e; cases e
  have hln : l ∉ [h₃.objs.size, s₁.heap.objs.size, h₂.objs.size] := by
    obtain ⟨o, e, _⟩ := id hl; exact old l o e
  have hLn : L ∉ [h₃.objs.size, s₁.heap.objs.size, h₂.objs.size] := by
    obtain ⟨o, _, _, e, _⟩ := p.frm; exact old L o e
  have hLC : L ≠ h₃.objs.size := fun q => hLn (by rw [q]; simp)
  have hLD : L ≠ h₂.objs.size := fun q => hLn (by rw [q]; simp)
  have loop : ∀ s₃ : Shared, s₃ = { s₁ with heap := h₄, toks := s₁.toks + ([] : List (Str × Value)).length } →
      codeAny (model prog w) A (.compLoop (.ListComp elt [⟨.Name x px, iter, [], 0⟩] scope pos) 0 (.ref s₁.heap.objs.size) (.ref h₂.objs.size) (compEnvC scope cl h₃.objs.size (envX cn cs L f cd cl0)))
        (compPost (model prog w) A E (some (assign (.Name y py) (envX cn cs L f cd cl0))) (fun _ s' => Q .next s') (.ref h₂.objs.size) h₃.objs.size) s₃ := by
    rintro s₃ rfl
    refine loop_plain (cenv := compEnvC scope cl h₃.objs.size (envX cn cs L f cd cl0)) (Gv s₁.heap) hh (lookup_relabel_local hx) (by simp [compEnvC, relabel, hkind]) (Nat.ne_of_lt hD3) (Nat.ne_of_lt hI3) (Nat.ne_of_lt hI2) hln hz (hit.at upI) (hl.at fun o e => up₄ l o e) hD₄ hns₄
      (fun v s₅ m₅ E' hv hn hm c => T h₃.objs.size v s₅ m₅ E' (Nat.le_of_lt hI3) hv hn hm fun b o e => c b o (old b o e) (up₄ b o e)) ?_
    intro h' tk m' ys hnC hpD hF hnd c
    have up : ∀ b o, s₁.heap.get? b = some o → h'.get? b = some o := fun b o e => c b o (old b o e) (up₄ b o e)
    show wpAny _ A (assign (.Name y py) (envX cn cs L f cd cl0) (.ref h₂.objs.size)) _ _ _
    have hLns : h'.Ns L m := by
      refine F.ns.at' fun o e => ?_
      have e4 : h₄.get? L = some o := c₄ L o (not_mem_one hLC) (c₃ L o (nl _) e)
      exact c L o hLn e4
    refine wpAny_assign_Name (wpAny_storeName_local hy hLns (fun h₅ hn₅ hs₅ => ?_) (by show (cs.kind == .class || (cs.kind == .module && L != mainGlobals)) = false; rw [hck]; rfl))
    refine ⟨m', hnC.sameBut hs₅ (Ne.symm hLC), fun h₆ hs₆ => ?_⟩
    have up6 : ∀ b o, b ≠ L → s₁.heap.get? b = some o → h₆.get? b = some o := fun b o nb e => hs₆.extBut b o (fun q => old b o e (by rw [q]; simp)) (hs₅.extBut b o nb (up b o e))
    refine k h₂.objs.size _ ys ⟨_, _, rfl⟩ hDn ((hpD.extBut hs₅.extBut (Ne.symm hLD)).extBut hs₆.extBut (Nat.ne_of_lt hD3)) ?_ hnd ?_ ⟨_, ⟨hn₅.sameBut hs₆ hLC, fun b o e => up6 b o (fun q => by rw [q, base_none p.ge] at e; cases e) (p.keep b o e), p.ge⟩, lk.put y _⟩ (fun b o nb e => up6 b o (fun q => nb (by rw [q]; simp)) e)
    · refine hF.mono fun _ _ q => ?_
      obtain ⟨T', its, rfl, h1, hTX, hlT, hG⟩ := q
      have hTL : T' ≠ L := fun q => by
        obtain ⟨_, _, _, e, _⟩ := hLns
        obtain ⟨o', _, _, e', _⟩ := p.frm
        have h1' : h₄.get? T' = none := h1
        rw [q, up₄ L o' e'] at h1'; cases h1'
      refine ⟨T', its, rfl, ?_, nl _, (hlT.extBut hs₅.extBut hTL).extBut hs₆.extBut (fun q => hTX (by rw [q]; simp [compEnvC])), hG⟩
      cases q : s₁.heap.get? T' with
      | none => rfl
      | some o => have h1' : h₄.get? T' = none := h1; rw [up₄ T' o q] at h1'; cases h1'
    · intro z hzm e
      obtain ⟨_, T', _, e', _, hTX, _, _⟩ := Paired.right hF z hzm
      rw [e] at e'; cases e'
      exact hTX (by simp)
  exact codeAny_compStart_list (loop _ rfl) ((Walks.list (prog := prog) (w := w) hh s₁.heap.objs.size l hlI items).self 0 _ _ _ ⟨hit.at upI, hl.at fun o e => up₄ l o e⟩ (loop _ rfl))
end
end Mine
end PartL1
section PartL2
set_option maxHeartbeats 400000
namespace Mine
def lwParams : Arguments := match pw.main.body with | _ :: _ :: _ :: _ :: _ :: .FunctionDef _ p _ _ _ _ _ _ _ _ :: _ => p | _ => default
def lwBody : List Stmt := match pw.main.body with | _ :: _ :: _ :: _ :: _ :: .FunctionDef _ _ b _ _ _ _ _ _ _ :: _ => b | _ => []
def lwScope : Scope := match pw.main.body with | _ :: _ :: _ :: _ :: _ :: .FunctionDef _ _ _ _ _ _ sc _ _ _ :: _ => sc | _ => default
abbrev lwEnv (L f : Addr) (cd : Value) : Env := envX "law" lwScope L f cd []
def rdBody : List Stmt := match lwBody with | _ :: _ :: _ :: _ :: _ :: .For _ _ b _ _ :: _ => b | _ => []
def rdRaise : Stmt := match rdBody with | _ :: a :: _ => a | _ => .Pass default

/-- a plain list of one int -/
def Pc (h : Heap) (v : Value) (x : Int) : Prop := ∃ a t, v = .ref a ∧ h.PlainList a #[.int x t]
theorem Pc.ch {X : List Addr} {h h' : Heap} {v : Value} {x : Int} (p : Pc h v x) (c : Ch X h h') (n : ∀ b ∈ X, v ≠ .ref b) : Pc h' v x := by
  obtain ⟨a, t, rfl, l⟩ := p
  exact ⟨a, t, rfl, c.plain (fun m => n a m rfl) l⟩
def cellsOf (vs : List Value) : List Addr := vs.filterMap fun v => match v with | .ref a => some a | _ => none
theorem mem_cells {vs : List Value} {a : Addr} : a ∈ cellsOf vs ↔ .ref a ∈ vs := by
  unfold cellsOf
  rw [List.mem_filterMap]
  constructor
  · rintro ⟨v, hv, e⟩
    cases v <;> simp at e
    subst e; exact hv
  · intro h
    exact ⟨_, h, rfl⟩
theorem plain_uniq {h : Heap} {a : Addr} {x y : Int} {t u : Tok} (l : h.PlainList a #[.int x t]) (m : h.PlainList a #[.int y u]) : x = y := by
  obtain ⟨n, e⟩ := l
  obtain ⟨n', e'⟩ := m
  rw [e] at e'
  injection e' with e1
  injection e1 with _ _ e2
  injection e2 with e3
  have := congrArg (fun z => z[0]?) e3
  simp at this
  exact this.1

section
variable {prog : Program} {w : World} {A : Around} {E : Value → Shared → Prop} {s : Shared}
theorem setPlain {l : Addr} {items : Array Value} {k : Int} {t : Tok} {v : Value} {Q : Unit → Shared → Prop} (hl : s.heap.PlainList l items) (h0 : 0 ≤ k) (hfit : k < 2 ^ 63) (hn : k < items.size)
    (hQ : ∀ s', Go s s' → s'.heap.PlainList l (items.setIfInBounds k.toNat v) → Ch [l] s.heap s'.heap → Q () s') : wpAny (model prog w) A (setItem (.ref l) (.int k t) v) Q E s := by
  obtain ⟨ne, ho⟩ := id hl
  have hT : s.TypeIs (.ref l) "list" := ⟨_, ho, rfl⟩
  unfold setItem
  refine wpAny_holding ?_
  refine wpAny_bind (wpAny_sequenceKey hT (by decide) ?_)
  refine wpAny_bind (wpAny_callSpecial?_slot (name := Str.ofString "__setitem__") hT slot_list_setitem
    (wpAny_call_entry slot_list_setitem hT entry_list_setitem ?_ (args_list_setitem _ _ _)))
  show wpAny _ _ (Builtin.List.listSubscript? (.int k t) >>= _) _ _ s
  refine wpAny_bind (wpAny_listSubscript_int (fitsIndex_of h0 hfit) ?_)
  obtain ⟨j, rfl⟩ := Int.eq_ofNat_of_zero_le h0
  have hj : j < items.size := by (first | lia | omega)
  show wpAny _ _ ((seqItemAt l j >>= fun r => pure (r.map (j, ·))) >>= _) _ _ s
  refine wpAny_bind (wpAny_bind (wpAny_seqItemAt ho rfl (wpAny_pure ?_)))
  rw [show items[j]? = some items[j] from Array.getElem?_eq_getElem hj]
  show wpAny _ _ (setSeqItemAt l j v >>= _) _ _ s
  have hg := Heap.get?_update_self (Obj.mapSeq (·.setIfInBounds j v)) ho rfl
  refine wpAny_bind (wpAny_setSeqItemAt ho rfl ?_)
  exact wpAny_pure ⟨.none, rfl, wpAny_pure (hQ _ ⟨_, _, rfl⟩ ⟨_, hg⟩ (Ch.one (Heap.SameBut.update ..)))⟩
end
theorem Frs.keepm {h h' : Heap} : ∀ {l : List Env}, Frs h l → (∀ b o, b ∈ l.filterMap (·.frame) → h.get? b = some o → (∃ es ep, o.data = .dict es ep) → ∃ o', h'.get? b = some o' ∧ o'.data = o.data) → Frs h' l
  | [], _, _ => trivial
  | _ :: r, ⟨q, ⟨a, o, es, ep, e1, e2, e3⟩, t⟩, k => ⟨q, by
      obtain ⟨o', g1, g2⟩ := k a o (by simp [List.filterMap_cons, e1]) e2 ⟨es, ep, e3⟩
      exact ⟨a, o', es, ep, e1, g1, g2.trans e3⟩, Frs.keepm t fun b o m => k b o (by rw [List.filterMap_cons]; split <;> simp [m])⟩
theorem Frs.chg {h h' : Heap} {l : List Env} {X : List Addr} (f : Frs h l) (c : Ch X h h') (n : ∀ b ∈ X, b ∈ l.filterMap (·.frame) → False) : Frs h' l :=
  f.keepm fun b o m e _ => ⟨o, c b o (fun q => n b q m) e, rfl⟩
end Mine
end PartL2
section PartL3
set_option maxHeartbeats 400000
namespace Mine
def raBody : List Stmt := match rdRaise with | .For _ _ b _ _ => b | _ => []
theorem plainL_of {h : Heap} {a : Addr} {its : Array Value} (l : h.PlainList a its) : PlainL h a its := by
  obtain ⟨n, e⟩ := l
  exact ⟨_, n, e, rfl, rfl, rfl⟩
def Cs (h : Heap) (vs : List Value) : Prop := ∀ v ∈ vs, ∃ x, Pc h v x
section
variable {h₀ : Heap} {mg mb : Str → Option Value} {H L N Rd : Addr} {vs rs : List Value} {bs : List (Str × Value)} {w : World} {A : Around} {E : Value → Shared → Prop} {s : Shared} {f : Addr} {cd : Value} {outer : List Env}

theorem raise_turn {X : Int} {tx tn : Tok} {Q : Flow → Shared → Prop} (G : Gd h₀ mg mb) (p : Fm h₀ L bs s.heap) (l1 : At bs "x" (.int X tx)) (l2 : At bs "heap" (.ref H)) (l3 : At bs "size" (.int vs.length tn)) (l4 : At bs "raised" (.ref Rd))
    (hH : s.heap.IsList H vs.toArray) (cs : Cs s.heap vs) (hR : s.heap.PlainList Rd rs.toArray) (nR : ∀ v ∈ vs, v ≠ .ref Rd) (nb : ∀ b, Value.ref b ∈ vs → h₀.get? b = none) (nRb : h₀.get? Rd = none) (h0 : 0 < vs.length) (hn : vs.length ≤ 100) (hr : rs.length ≤ 100)
    (hok : ∀ s' j tj a x t y u, Go s s' → j < vs.length → nth vs j = .ref a → s.heap.PlainList a #[.int x t] → s'.heap.PlainList a #[.int y u] → x ≤ y → s'.heap.PlainList Rd (rs ++ [Value.int ((j : Nat) : Int) tj]).toArray → Ch [a, Rd] s.heap s'.heap → Q .next s') :
    wpAny (model pw w) A (execs raBody (lwEnv L f cd)) Q E s := by
  have hm0 : 0 ≤ X.fmod vs.length := Int.fmod_nonneg_of_pos _ (by (first | lia | omega))
  have hm1 : X.fmod vs.length < vs.length := Int.fmod_lt_of_pos _ (by (first | lia | omega))
  obtain ⟨j, hj⟩ := Int.eq_ofNat_of_zero_le hm0
  have hjl : j < vs.length := by (first | lia | omega)
  obtain ⟨x, a, t, ea, la⟩ := cs _ (nth_mem hjl)
  have naR : a ≠ Rd := fun q => nR _ (nth_mem hjl) (by rw [ea, q])
  unfold raBody rdRaise rdBody lwBody
  refine wpAny_execs_cons ?_
  refine wpAny_AugAssign_SubscriptAny ?_
  refine Subscript_ ?_
  refine Fm.ld p l2 ?_
  refine wpAny_BinOp ?_
  refine Fm.ld p l1 ?_
  refine Fm.ld p l3 ?_
  refine mod_int (by (first | lia | omega)) ?_
  rw [hj]
  refine getAt (s := Shared.mk _ _ _ _ _) hH (by (first | lia | omega)) (by (first | lia | omega)) (by (first | lia | omega)) ?_
  rw [Int.toNat_natCast, ea]
  refine wpAny_Constant_int ?_
  refine wpAny_getItem_list (s := Shared.mk _ _ _ _ _) la.isList (by (first | lia | omega)) (by (first | lia | omega)) rfl ?_
  refine Call_ ?_
  refine bltX (s := Shared.mk _ _ _ _ _) G p.keep boot_abs ?_
  refine PyProof.Rows.callWith_builtin1 ?_
  refine args_cons ?_
  refine Fm.ld (s := Shared.mk _ _ _ _ _) p l1 ?_
  refine args_nil ?_
  refine call_abs_int fun u tk => ?_
  refine iadd_int ?_
  refine setPlain (s := Shared.mk _ _ _ _ _) la (by (first | lia | omega)) (by (first | lia | omega)) (by simp) fun s₁ g₁ y₁ c₁ => ?_
  dsimp only
  have c₁' : Ch [a] s.heap s₁.heap := c₁
  have g₁' : Go s s₁ := Go.trans ⟨_, _, rfl⟩ g₁
  have naL : L ≠ a := fun q => ls_nf la.isList p q.symm
  have na0 : h₀.get? a = none := nb a (by rw [← ea]; exact nth_mem hjl)
  have p₁ := p.ch c₁' (not_mem_one naL) (fun b m => by rw [List.mem_singleton.mp m]; exact na0)
  have R₁ := c₁'.plain (not_mem_one (Ne.symm naR)) hR
  -- raised.append(x % size)
  refine wpAny_execs_cons ?_
  refine wpAny_Expr ?_
  refine wpAny_Call_append (by rfl) (by rfl) (by rfl) (by rfl) ?_
  refine Fm.ld p₁ l4 ?_
  refine ⟨Rd, _, rfl, plainL_of R₁, ?_⟩
  refine wpAny_BinOp ?_
  refine Fm.ld p₁ l1 ?_
  refine Fm.ld p₁ l3 ?_
  refine mod_int (by (first | lia | omega)) ?_
  rw [hj]
  refine wpAny_list_append_plain (s := Shared.mk _ _ _ _ _) (hsz := by rw [List.size_toArray, sizeLine_eq]; (first | lia | omega)) R₁ fun h₂ R₂ hs₂ => ?_
  have c₂ : Ch [Rd] s₁.heap h₂ := Ch.one hs₂
  dsimp only
  refine wpAny_execs_nil ?_
  refine hok _ j s₁.toks a x t _ _ (g₁'.trans ⟨_, _, rfl⟩) hjl ea la (c₂.plain (not_mem_one naR) y₁) ?_ (by simpa using R₂) ((c₁'.mono fun b m => by rw [List.mem_singleton.mp m]; simp).trans (c₂.mono fun b m => by rw [List.mem_singleton.mp m]; simp))
  split <;> (first | lia | omega)
end
end Mine
end PartL3
section PartL4
set_option maxHeartbeats 400000
namespace Mine
theorem Pc.nn {h : Heap} {v : Value} {x : Int} {b : Addr} (k : Pc h v x) (c : h.get? b = none) : v ≠ .ref b := by
  obtain ⟨a, t, rfl, l⟩ := k
  intro e; cases e; exact ls_nn l.isList c rfl
theorem Pc.nf {h₀ h : Heap} {v : Value} {x : Int} {L : Addr} {bs : List (Str × Value)} (k : Pc h v x) (c : Fm h₀ L bs h) : v ≠ .ref L := by
  obtain ⟨a, t, rfl, l⟩ := k
  intro e; cases e; exact ls_nf l.isList c rfl
theorem Pc.uniq {h : Heap} {v : Value} {x y : Int} (p : Pc h v x) (q : Pc h v y) : x = y := by
  obtain ⟨a, t, rfl, l⟩ := p
  obtain ⟨b, u, e, m⟩ := q
  cases e
  exact plain_uniq l m
/-- raised at the places js, else as they were -/
def Up (js : List Nat) (h h' : Heap) (vs : List Value) : Prop := ∀ i, i < vs.length → ∀ x, Pc h (nth vs i) x → ∃ y, Pc h' (nth vs i) y ∧ x ≤ y ∧ (i ∉ js → y = x)
theorem Up.cs {js : List Nat} {h h' : Heap} {vs : List Value} (u : Up js h h' vs) (c : Cs h vs) : Cs h' vs := fun v hv => by
  obtain ⟨i, hi, e⟩ := List.mem_iff_getElem.mp hv
  have en : nth vs i = v := by rw [← e]; simp [nth, hi]
  obtain ⟨x, hx⟩ := c v hv
  rw [← en] at hx ⊢
  obtain ⟨y, hy, _⟩ := u i hi x hx
  exact ⟨y, hy⟩
theorem ints_snoc {rs : List Value} {js : List Nat} {j : Nat} {t : Tok} (h : IntsAre rs (js.map fun (k : Nat) => (k : Int))) : IntsAre (rs ++ [Value.int ((j : Nat) : Int) t]) ((js ++ [j]).map fun (k : Nat) => (k : Int)) := by
  rw [List.map_append]
  exact h.append (.cons _ _ .nil)
section
variable {h₀ : Heap} {mg mb : Str → Option Value} {H L N Rd : Addr} {vs : List Value} {bs : List (Str × Value)} {w : World} {A : Around} {E : Value → Shared → Prop} {s : Shared} {f : Addr} {cd : Value} {outer : List Env}

theorem raise_st {ys : List Value} {ns : List Int} {k : Nat} {tk tn : Tok} {Q : Flow → Shared → Prop} (G : Gd h₀ mg mb) (p : Fm h₀ L bs s.heap) (l0 : At bs "numbers" (.ref N)) (l1 : At bs "k" (.int (k : Nat) tk)) (l2 : At bs "heap" (.ref H)) (l3 : At bs "size" (.int vs.length tn)) (l4 : At bs "raised" (.ref Rd))
    (hN : s.heap.IsList N ys.toArray) (iN : IntsAre ys ns) (hy : ys.length ≤ 100)
    (hH : s.heap.IsList H vs.toArray) (cs : Cs s.heap vs) (inj : Inj vs) (hR : s.heap.PlainList Rd #[]) (nH : ∀ v ∈ vs, v ≠ .ref H) (nR : ∀ v ∈ vs, v ≠ .ref Rd) (nHR : H ≠ Rd) (nb : ∀ b, Value.ref b ∈ vs → h₀.get? b = none) (nRb : h₀.get? Rd = none) (h0 : 0 < vs.length) (hn : vs.length ≤ 100) (hh : A.handled = none)
    (hok : ∀ s' bs' js rs, Go s s' → Fm h₀ L bs' s'.heap → (∀ (x : Str) v, x ≠ "x" → At bs x v → At bs' x v) → s'.heap.PlainList Rd (List.toArray rs) → IntsAre rs (js.map fun (j : Nat) => (j : Int)) → rs.length ≤ 100 → (∀ j ∈ js, j < vs.length) → Up js s.heap s'.heap vs → Ch (L :: Rd :: cellsOf vs) s.heap s'.heap → Q .next s') :
    wpAny (model pw w) A (exec rdRaise (lwEnv L f cd)) Q E s := by
  have nl : ∀ b : Addr, b ∉ ([] : List Addr) := fun _ m => nomatch m
  have n0 : ∀ b ∈ ([] : List Addr), h₀.get? b = none := fun _ m => nomatch m
  unfold rdRaise rdBody lwBody
  refine wpAny_For ?_
  refine wpAny_Subscript_list_slice ?_
  refine Fm.ld p l0 ?_
  rw [evalPart_some, evalPart_some]
  refine Fm.ld p l1 ?_
  refine wpAny_BinOp ?_
  refine Fm.ld p l1 ?_
  refine wpAny_Constant_int ?_
  refine add_int ?_
  refine ⟨N, _, _, _, rfl, hN, by rw [List.size_toArray, sizeLine_eq]; (first | lia | omega), .int _ _, .int _ _, ?_⟩
  dsimp only
  have hz := slicePick_size_le ys.toArray (some ((k : Nat) : Int)) (some (((k : Nat) : Int) + 9)) none
  have hpi := (iN.pick (some ((k : Nat) : Int)) (some (((k : Nat) : Int) + 9)) none).allInts
  generalize slicePick ys.toArray (some ((k : Nat) : Int)) (some (((k : Nat) : Int) + 9)) none = items at *
  have hz : items.size ≤ ys.length := by simpa using hz
  have hT : ((s.heap.push { cls := .type "slice", data := .fields #[.int (k : Nat) tk, .int (((k : Nat) : Int) + 9) (s.toks + 1), .none] }).push { cls := .type "list", data := .seq items }).IsList (s.heap.objs.size + 1) items := by
    have := Heap.get?_push_size (s.heap.push { cls := .type "slice", data := .fields #[.int (k : Nat) tk, .int (((k : Nat) : Int) + 9) (s.toks + 1), .none] }) (o := { cls := .type "list", data := .seq items }) rfl
    rw [Heap.size_push] at this
    exact ⟨_, this, rfl, _, rfl⟩
  have hTs : ((s.heap.push { cls := .type "slice", data := .fields #[.int (k : Nat) tk, .int (((k : Nat) : Int) + 9) (s.toks + 1), .none] }).push { cls := .type "list", data := .seq items }).objs.size = s.heap.objs.size + 2 := by rw [Heap.size_push, Heap.size_push]
  have c₁ : Ch [] s.heap ((s.heap.push { cls := .type "slice", data := .fields #[.int (k : Nat) tk, .int (((k : Nat) : Int) + 9) (s.toks + 1), .none] }).push { cls := .type "list", data := .seq items }) := fun b o _ e => Heap.get?_push_of_some _ (Heap.get?_push_of_some _ e)
  generalize (s.heap.push { cls := .type "slice", data := .fields #[.int (k : Nat) tk, .int (((k : Nat) : Int) + 9) (s.toks + 1), .none] }).push { cls := .type "list", data := .seq items } = h₁ at *
  have sT : s.heap.get? (s.heap.objs.size + 1) = none := get_none (Nat.le_succ _)
  have sI : s.heap.get? (s.heap.objs.size + 2) = none := get_none (Nat.le_trans (Nat.le_succ _) (Nat.le_succ _))
  have bI : h₀.get? (s.heap.objs.size + 2) = none := base_none (Nat.le_trans p.sz (Nat.le_trans (Nat.le_succ _) (Nat.le_succ _)))
  have hTI : s.heap.objs.size + 1 ≠ s.heap.objs.size + 2 := Nat.ne_of_lt (Nat.lt_succ_self _)
  refine wpAny_pyIter_list (s := Shared.mk _ _ _ _ _) hT ?_
  dsimp only
  rw [hTs]
  have hit : (h₁.push { cls := .type "list_iterator", data := .fields #[.ref (s.heap.objs.size + 1), .int 0 0] }).IsListIter (s.heap.objs.size + 2) (s.heap.objs.size + 1) 0 := by
    have := Heap.get?_push_size h₁ (o := { cls := .type "list_iterator", data := .fields #[.ref (s.heap.objs.size + 1), .int 0 0] }) rfl
    rw [hTs] at this
    exact ⟨_, this, rfl, rfl⟩
  have c₂ : Ch [] h₁ (h₁.push { cls := .type "list_iterator", data := .fields #[.ref (s.heap.objs.size + 1), .int 0 0] }) := Ch.push
  have hT₂ := c₂.isList (nl _) hT
  have c₂' : Ch [] s.heap _ := c₁.trans c₂
  generalize h₁.push { cls := .type "list_iterator", data := .fields #[.ref (s.heap.objs.size + 1), .int 0 0] } = h₂ at *
  generalize s.heap.objs.size + 1 = T at *
  generalize s.heap.objs.size + 2 = I at *
  have hIL : I ≠ L := fun q => by obtain ⟨o, _, _, e, _⟩ := p.frm; rw [← q, sI] at e; cases e
  have hTL : T ≠ L := fun q => by obtain ⟨o, _, _, e, _⟩ := p.frm; rw [← q, sT] at e; cases e
  have hRI : Rd ≠ I := ls_nn hR.isList sI
  have hRT : Rd ≠ T := ls_nn hR.isList sT
  have hHI : H ≠ I := ls_nn hH sI
  have hRL : Rd ≠ L := ls_nf hR.isList p
  have hHL : H ≠ L := ls_nf hH p
  have cI : ∀ v ∈ vs, v ≠ .ref I := fun v hv => by obtain ⟨x, hx⟩ := cs v hv; exact hx.nn sI
  have cT : ∀ v ∈ vs, v ≠ .ref T := fun v hv => by obtain ⟨x, hx⟩ := cs v hv; exact hx.nn sT
  have cL : ∀ v ∈ vs, v ≠ .ref L := fun v hv => by obtain ⟨x, hx⟩ := cs v hv; exact hx.nf p
  have hX : ∀ b, b ≠ L → b ≠ Rd → Value.ref b ∉ vs → b ∉ L :: Rd :: cellsOf vs := fun b n1 n2 n3 m => by
    rcases List.mem_cons.mp m with q | q
    · exact n1 q
    · rcases List.mem_cons.mp q with q | q
      · exact n2 q
      · exact n3 (mem_cells.mp q)
  have hHX : H ∉ L :: Rd :: cellsOf vs := hX H hHL nHR fun m => nH _ m rfl
  refine for_rule (Walks.list (prog := pw) (w := w) hh I T hTI items) (fun i s' => ∃ bs' js rs, Go s s' ∧ Fm h₀ L bs' s'.heap ∧ (∀ (x : Str) v, x ≠ "x" → At bs x v → At bs' x v) ∧ (s'.heap.IsListIter I T i ∧ s'.heap.IsList T items) ∧ s'.heap.PlainList Rd (List.toArray rs) ∧ IntsAre rs (js.map fun (j : Nat) => (j : Int)) ∧ rs.length = i ∧ i ≤ items.size ∧ (∀ j ∈ js, j < vs.length) ∧ Up js s.heap s'.heap vs ∧ Ch (L :: Rd :: cellsOf vs) s.heap s'.heap) ?_ ?_ ?_ ?_
  · rintro i s' ⟨_, _, _, _, _, _, st, _⟩
    exact st
  · rintro i v s₃ h' tk' ⟨bs₃, js, rs, g₃, p₃, k₃, _, R₃, i₃, r₃, hi₃, j₃, u₃, C₃⟩ hi hv hS hkp
    have c₄ : Ch [I] s₃.heap h' := hkp
    have p₄ := p₃.ch c₄ (not_mem_one (Ne.symm hIL)) (fun b m => by rw [List.mem_singleton.mp m]; exact bI)
    obtain ⟨X, tx, rfl⟩ : ∃ n t, v = .int n t := hpi v (by have hv' : items[i]? = some v := hv; have := Array.mem_of_getElem? hv'; simpa using this)
    refine Fm.st (s := { s₃ with heap := h', toks := tk' }) p₄ fun s₅ g₅ p₅ c₅ => ?_
    have c₅' : Ch [L] h' s₅.heap := c₅
    have C₅ : Ch (L :: Rd :: cellsOf vs) s.heap s₅.heap := (C₃.skip c₄ fun b m => .inr (by rw [List.mem_singleton.mp m]; exact sI)).skip c₅' fun b m => .inl (by rw [List.mem_singleton.mp m]; simp)
    have up₅ : ∀ {v x}, v ∈ vs → Pc s₃.heap v x → Pc s₅.heap v x := fun hv q => (q.ch c₄ fun b m => by rw [List.mem_singleton.mp m]; exact cI _ hv).ch c₅' fun b m => by rw [List.mem_singleton.mp m]; exact cL _ hv
    have R₅ := c₅'.plain (not_mem_one hRL) (c₄.plain (not_mem_one hRI) R₃)
    have cs₅ : Cs s₅.heap vs := fun v hv => by obtain ⟨x, q⟩ := u₃.cs cs v hv; exact ⟨x, up₅ hv q⟩
    refine raise_turn G p₅ rfl (at_skip (by decide) (k₃ _ _ (by decide) l2)) (at_skip (by decide) (k₃ _ _ (by decide) l3)) (at_skip (by decide) (k₃ _ _ (by decide) l4)) (C₅.isList hHX hH) cs₅ R₅ nR nb nRb h0 hn (by (first | lia | omega)) fun s₆ j tj a x t y u g₆ hj ea la₅ la₆ hxy R₆ c₆ => ?_
    dsimp only
    have ma : Value.ref a ∈ vs := by rw [← ea]; exact nth_mem hj
    have naI : I ≠ a := fun q => cI _ ma (by rw [q])
    have naT : T ≠ a := fun q => cT _ ma (by rw [q])
    have naL : L ≠ a := fun q => cL _ ma (by rw [q])
    have two : ∀ {b : Addr}, b ≠ a → b ≠ Rd → b ∉ [a, Rd] := fun h1 h2 m => by
      rcases List.mem_cons.mp m with q | q
      · exact h1 q
      · exact h2 (List.mem_singleton.mp q)
    have C₆ : Ch (L :: Rd :: cellsOf vs) s.heap s₆.heap := C₅.skip c₆ fun b m => .inl (by
      rcases List.mem_cons.mp m with q | q
      · rw [q]; exact List.mem_cons_of_mem _ (List.mem_cons_of_mem _ (mem_cells.mpr ma))
      · rw [List.mem_singleton.mp q]; simp)
    have p₆ := p₅.ch c₆ (two naL (Ne.symm hRL)) (fun b m => by
      rcases List.mem_cons.mp m with q | q
      · rw [q]; exact nb a ma
      · rw [List.mem_singleton.mp q]; exact nRb)
    refine ⟨_, js ++ [j], rs ++ [.int ((j : Nat) : Int) tj], g₃.trans (Go.trans ⟨_, _, rfl⟩ (g₅.trans g₆)), p₆, fun x v n h => at_skip n (k₃ x v n h), ⟨?_, ?_⟩, R₆, ints_snoc i₃, by simp [r₃], by (first | lia | omega), ?_, ?_, C₆⟩
    · exact ((hS.1.at fun o e => c₅' I o (not_mem_one hIL) e).at fun o e => c₆ I o (two naI (Ne.symm hRI)) e)
    · exact c₆.isList (two naT (Ne.symm hRT)) (c₅'.isList (not_mem_one hTL) hS.2)
    · intro j' m
      rcases List.mem_append.mp m with q | q
      · exact j₃ j' q
      · rw [List.mem_singleton.mp q]; exact hj
    · intro i' hi' x' hx'
      obtain ⟨y', hy', hle, hne⟩ := u₃ i' hi' x' hx'
      have hy₅ := up₅ (nth_mem hi') hy'
      by_cases q : i' = j
      · subst q
        have e1 : y' = x := hy₅.uniq ⟨a, t, ea, la₅⟩
        refine ⟨y, ⟨a, u, ea, la₆⟩, by (first | lia | omega), fun nm => absurd (by simp) nm⟩
      · refine ⟨y', hy₅.ch c₆ (fun b m => ?_), hle, fun nm => hne fun m => nm (List.mem_append_left _ m)⟩
        rcases List.mem_cons.mp m with z | z
        · rw [z, ← ea]; intro e; exact q (inj i' j hi' hj e)
        · rw [List.mem_singleton.mp z]; exact nR _ (nth_mem hi')
  · rintro s₃ h' tk' ⟨bs₃, js, rs, g₃, p₃, k₃, _, R₃, i₃, r₃, hi₃, j₃, u₃, C₃⟩ hkp
    have c₄ : Ch [I] s₃.heap h' := hkp
    refine wpAny_execs_nil ?_
    refine hok _ bs₃ js rs (g₃.trans ⟨_, _, rfl⟩) (p₃.ch c₄ (not_mem_one (Ne.symm hIL)) (fun b m => by rw [List.mem_singleton.mp m]; exact bI)) k₃ (c₄.plain (not_mem_one hRI) R₃) i₃ (by (first | lia | omega)) j₃ (fun i hi x hx => ?_) (C₃.skip c₄ fun b m => .inr (by rw [List.mem_singleton.mp m]; exact sI))
    obtain ⟨y, hy, q⟩ := u₃ i hi x hx
    exact ⟨y, hy.ch c₄ fun b m => by rw [List.mem_singleton.mp m]; exact cI _ (nth_mem hi), q⟩
  · refine ⟨bs, [], [], ⟨_, _, rfl⟩, p.ch c₂' (nl _) n0, fun _ _ _ h => h, ⟨hit, hT₂⟩, c₂'.plain (nl _) hR, .nil, rfl, Nat.zero_le _, (fun _ m => nomatch m), fun i hi x hx => ⟨x, hx.ch c₂' (fun _ m => nomatch m), Int.le_refl _, fun _ => rfl⟩, c₂'.nil⟩
end
end Mine
end PartL4
section PartL5
set_option maxHeartbeats 400000
namespace Mine
def rdFresh : Stmt := match rdBody with | _ :: _ :: _ :: a :: _ => a | _ => .Pass default
theorem Paired.nth {R : Value → Value → Prop} : ∀ {l r : List Value}, Paired R l r → ∀ i, i < l.length → R (nth l i) (Mine.nth r i)
  | _, _, .nil, i, h => absurd h (by simp)
  | _, _, .cons h t, 0, _ => h
  | _, _, .cons h t, i + 1, hi => by
    have := Paired.nth t i (by simpa using hi)
    simpa [Mine.nth] using this
theorem inj_of {zs : List Value} (hpw : zs.Pairwise (· ≠ ·)) : Inj zs := by
  intro i j hi hj e
  rw [List.pairwise_iff_getElem] at hpw
  have ei : nth zs i = zs[i] := by simp [nth, hi]
  have ej : nth zs j = zs[j] := by simp [nth, hj]
  rcases Nat.lt_trichotomy i j with q | q | q
  · exact absurd (ei.symm.trans (e.trans ej)) (hpw i j hi hj q)
  · exact q
  · exact absurd (ej.symm.trans (e.symm.trans ei)) (hpw j i hj hi q)
section
variable {h₀ : Heap} {mg mb : Str → Option Value} {H L N Rd : Addr} {vs : List Value} {bs : List (Str × Value)} {w : World} {A : Around} {E : Value → Shared → Prop} {s : Shared} {f : Addr} {cd : Value} {outer : List Env}
theorem fresh_st {Q : Flow → Shared → Prop} (p : Fm h₀ L bs s.heap) (l2 : At bs "heap" (.ref H)) (hH : s.heap.IsList H vs.toArray) (cs : Cs s.heap vs) (hn : vs.length ≤ 100) (hh : A.handled = none)
    (hok : ∀ D s' ys, Go s s' → s.heap.get? D = none → s'.heap.PlainList D (List.toArray ys) → ys.length = vs.length → (∀ i, i < vs.length → ∃ x, Pc s.heap (nth vs i) x ∧ Pc s'.heap (nth ys i) x) → Inj ys → (∀ y ∈ ys, y ≠ .ref D) → (∀ b, Value.ref b ∈ ys → s.heap.get? b = none) →
      Fm h₀ L (("fresh", .ref D) :: bs) s'.heap → Ch [L] s.heap s'.heap → Q .next s') :
    wpAny (model pw w) A (exec rdFresh (lwEnv L f cd)) Q E s := by
  have nl : ∀ b : Addr, b ∉ ([] : List Addr) := fun _ m => nomatch m
  unfold rdFresh rdBody lwBody
  refine as_plain (h₀ := h₀) (fun h v its => ∃ x t, Pc h v x ∧ its = #[.int x t]) ?_ hh
  refine Fm.ld p l2 ?_
  refine ⟨H, _, bs, rfl, hH, by rw [List.size_toArray]; (first | lia | omega), p, ?_, ?_⟩
  · intro C v s₃ m₃ E' hC hv hns hm hkp
    obtain ⟨x, a, t, rfl, la⟩ := cs v (by simpa using hv)
    have la₃ : s₃.heap.PlainList a #[.int x t] := la.at fun o e => hkp a o e
    refine List_ ?_
    refine args_cons ?_
    refine Subscript_ ?_
    refine ldE hns hm ?_
    refine wpAny_Constant_int ?_
    refine getAt (s := Shared.mk _ _ _ _ _) (vs := [.int x t]) la₃.isList (by (first | lia | omega)) (by simp) (by simp) ?_
    refine args_nil ?_
    refine newL (by rw [sizeLine_eq]; simp) fun s₄ D g₄ hD y₄ c₄ => ?_
    refine ⟨⟨D, _, rfl, by rw [hD]; exact Heap.get?_none_of_le (Nat.le_refl _), y₄, x, t, ⟨a, t, rfl, la⟩, rfl⟩, ?_⟩
    obtain ⟨h', tk, rfl⟩ := g₄
    exact ⟨_, _, rfl, fun b o e => c₄ b o (nl _) e⟩
  · intro D s' zs g hD hpl hF hpw hne p' c
    have hlen : zs.length = vs.length := by have := hF.length; simpa using this.symm
    refine hok D s' zs g hD hpl hlen (fun i hi => ?_) (inj_of hpw) hne (fun b hb => ?_) p' c
    · obtain ⟨T, its, e, h1, _, h2, x, t, h3, rfl⟩ := Paired.nth hF i (by simpa using hi)
      exact ⟨x, by simpa using h3, T, t, e, h2⟩
    · obtain ⟨_, T, its, e, h1, _⟩ := Paired.right hF _ hb
      cases e; exact h1
end
end Mine
end PartL5
section PartL6
set_option maxHeartbeats 400000
namespace Mine
def rdSift : Stmt := match rdBody with | _ :: _ :: _ :: _ :: _ :: a :: _ => a | _ => .Pass default
abbrev Rj (js : List Nat) : Nat → Bool := fun i => decide (i ∈ js)
theorem rise_eq {a b : List Int} (ha : a.Pairwise (· < ·)) (hb : b.Pairwise (· < ·)) (h : ∀ k, k ∈ a ↔ k ∈ b) : a = b := by
  have na : a.Nodup := ha.imp fun h => Int.ne_of_lt h
  have nb : b.Nodup := hb.imp fun h => Int.ne_of_lt h
  exact List.Perm.eq_of_pairwise (le := (· < ·)) (fun x y _ _ h1 h2 => by (first | lia | omega)) ha hb ((List.perm_ext_iff_of_nodup na nb).mpr h)
theorem places_eq {ns : List Int} {js : List Nat} {n : Nat} (hj : ∀ j ∈ js, j < n) (hp : ns.Pairwise (· < ·)) (hm : ∀ k, k ∈ ns ↔ k ∈ js.map fun (j : Nat) => (j : Int)) : ns = ((List.range n).filter (Rj js)).map fun (j : Nat) => (j : Int) := by
  refine rise_eq hp ?_ fun k => ?_
  · rw [List.pairwise_map]
    exact (List.pairwise_lt_range.filter _).imp fun h => by (first | lia | omega)
  · rw [hm, List.mem_map, List.mem_map]
    constructor
    · rintro ⟨j, hj', rfl⟩
      exact ⟨j, List.mem_filter.mpr ⟨List.mem_range.mpr (hj j hj'), by simpa using hj'⟩, rfl⟩
    · rintro ⟨j, hj', rfl⟩
      exact ⟨j, by simpa using (List.mem_filter.mp hj').2, rfl⟩
theorem met_mem {rs : List Value} {ns : List Int} (h : IntsAre rs ns) (k : Int) : ((firstMet (fun i => ns.getD i 0) rs.toArray.size).any (· == k)) = true ↔ k ∈ ns := by
  rw [firstMet_any, List.size_toArray, h.length, List.any_eq_true]
  constructor
  · rintro ⟨x, hx, e⟩
    obtain ⟨i, hi, rfl⟩ := List.mem_map.mp hx
    have hi := List.mem_range.mp hi
    have e : ns.getD i 0 = k := by simpa using e
    rw [← e]
    simp [hi]
  · intro hk
    obtain ⟨i, hi, e⟩ := List.mem_iff_getElem.mp hk
    refine ⟨k, List.mem_map.mpr ⟨i, List.mem_range.mpr hi, ?_⟩, by simp⟩
    simp [hi, e]
theorem ints_rev : ∀ {vs : List Value} {ns : List Int}, IntsAre vs ns → IntsAre vs.reverse ns.reverse
  | _, _, .nil => .nil
  | _, _, .cons n t r => by
    rw [List.reverse_cons, List.reverse_cons]
    exact (ints_rev r).append (.cons n t .nil)
theorem ints_get {vs : List Value} {ps : List Nat} (h : IntsAre vs (ps.map fun (j : Nat) => (j : Int))) {i : Nat} {v : Value} (hv : vs[i]? = some v) : ∃ j t, ps[i]? = some j ∧ v = .int ((j : Nat) : Int) t := by
  induction ps generalizing vs i with
  | nil => cases h; simp at hv
  | cons q ps ih =>
    cases h with
    | cons n t r =>
      cases i with
      | zero => simp at hv; exact ⟨q, t, rfl, hv.symm⟩
      | succ i => simpa using ih r (by simpa using hv)
theorem Fm.b0 {h₀ h : Heap} {L D : Addr} {bs : List (Str × Value)} (p : Fm h₀ L bs h) (hD : h.get? D = none) : h₀.get? D = none := by
  cases q : h₀.get? D with
  | none => rfl
  | some o => rw [p.keep _ _ q] at hD; cases hD
theorem Fm.nL {h₀ h : Heap} {L D : Addr} {bs : List (Str × Value)} (p : Fm h₀ L bs h) (hD : h.get? D = none) : D ≠ L := fun q => by
  obtain ⟨o, _, _, e, _⟩ := p.frm; rw [← q, hD] at e; cases e
theorem iter_list {prog : Program} {w : World} {A : Around} {E : Value → Shared → Prop} {s : Shared} {T : Addr} {items : Array Value} {Q : Value → Shared → Prop} (hT : s.heap.IsList T items)
    (h : ∀ s' I, Go s s' → s.heap.get? I = none → T ≠ I → s'.heap.IsListIter I T 0 → s'.heap.IsList T items → Ch [] s.heap s'.heap → Q (.ref I) s') : wpAny (model prog w) A (pyIter (.ref T)) Q E s := by
  refine wpAny_pyIter_list hT ?_
  exact h _ _ ⟨_, _, rfl⟩ (get_none (Nat.le_refl _)) (Nat.ne_of_lt (sizeOf_list hT)) ⟨_, Heap.get?_push_size _ rfl, rfl, rfl⟩ (hT.push _) Ch.push
theorem two_not {a b c : Addr} (h1 : a ≠ b) (h2 : a ≠ c) : a ∉ [b, c] := fun m => by
  rcases List.mem_cons.mp m with q | q
  · exact h1 q
  · exact h2 (List.mem_singleton.mp q)
section
variable {h₀ : Heap} {mg mb : Str → Option Value} {H L N Rd : Addr} {vs rs : List Value} {bs : List (Str × Value)} {w : World} {A : Around} {E : Value → Shared → Prop} {s : Shared} {f : Addr} {cd : Value} {outer : List Env} {key : Value → Option Int} {js : List Nat}
theorem sift_st {Q : Flow → Shared → Prop} (G : Gd h₀ mg mb) (p : Fm h₀ L bs s.heap) (l2 : At bs "heap" (.ref H)) (l4 : At bs "raised" (.ref Rd))
    (hH : s.heap.IsList H vs.toArray) (hR : s.heap.IsList Rd rs.toArray) (iR : IntsAre rs (js.map fun (j : Nat) => (j : Int))) (hr : rs.length ≤ 100) (hj : ∀ j ∈ js, j < vs.length)
    (kd : ∀ v ∈ vs, Kd s.heap key v) (nH : ∀ v ∈ vs, v ≠ .ref H) (nHb : h₀.get? H = none) (hn : vs.length ≤ 100)
    (hh : A.handled = none) (hu : A.units + 200 < cLine) (hroom : A.depth + 2 < recursionLimit) (hfr : A.frames = some (lwEnv L f cd :: outer)) (hf : Frs s.heap outer) (hof : outer.filterMap (·.frame) = [])
    (hok : ∀ s' bs', Gx s s' → Fm h₀ L bs' s'.heap → (∀ (x : Str) v, x ≠ "place" → At bs x v → At bs' x v) → s'.heap.IsList H (sweep (ltK key) (Rj js) vs.length vs).toArray → Ch [L, H] s.heap s'.heap → Q .next s') :
    wpAny (model pw w) A (exec rdSift (lwEnv L f cd)) Q E s := by
  have nl : ∀ b : Addr, b ∉ ([] : List Addr) := fun _ m => nomatch m
  have n0 : ∀ b ∈ ([] : List Addr), h₀.get? b = none := fun _ m => nomatch m
  unfold rdSift rdBody lwBody
  refine wpAny_For ?_
  refine Subscript_ ?_
  refine Call_ ?_
  refine bltX G p.keep boot_sorted ?_
  refine PyProof.Rows.callWith_builtin1 ?_
  refine args_cons ?_
  refine Call_ ?_
  refine bltX G p.keep PyProof.Rows.boot_set ?_
  refine PyProof.Rows.callWith_type1 ?_
  refine args_cons ?_
  refine Fm.ld p l4 ?_
  refine args_nil ?_
  have hsb : rs.toArray.size + 1 < scanBound := by rw [List.size_toArray]; show _ < 4096; (first | lia | omega)
  refine set_list hh hR iR hsb fun s₁ g₁ sx₁ c₁ => ?_
  refine args_nil ?_
  refine sorted_set hh sx₁ (Nat.le_trans (firstMet_length_le _ _) (by rw [List.size_toArray]; exact hr)) fun D s₂ out ns g₂ hD y₂ i₂ w₂ _ m₂ c₂ => ?_
  have ens := places_eq hj w₂ fun k => (m₂ k).trans (met_mem iR k)
  subst ens
  clear m₂ w₂ sx₁
  have c₂' : Ch [] s.heap s₂.heap := c₁.trans c₂
  have g₂' : Gx s s₂ := g₁.x.trans g₂
  have sD : s.heap.get? D = none := Ch.fresh c₁ hD (nl _)
  have p₂ := p.ch c₂' (nl _) n0
  clear c₁ c₂ g₁ g₂ hD
  refine wpAny_Slice ?_
  rw [evalPart_none, evalPart_some]
  refine wpAny_pure ?_
  refine wpAny_pure ?_
  refine UnaryOp_ ?_
  refine wpAny_Constant_int ?_
  refine PyProof.Rows.neg_int ?_
  dsimp only
  have oz : out.size ≤ 100 := by
    have e1 := i₂.length
    rw [List.length_map] at e1
    have e2 := List.length_filter_le (Rj js) (List.range vs.length)
    rw [List.length_range] at e2
    have : out.toList.length = out.size := Array.length_toList
    (first | lia | omega)
  refine tail_any (s := Shared.mk _ _ _ _ _) (y₂.push _).typeIs slot_list_getitem.lookup (wpAny_getItem_list_slice (s := Shared.mk _ _ _ _ _) (y₂.push _) ⟨_, Heap.get?_push_size _ rfl, rfl, rfl⟩ .none .none (.int _ _) (by decide) ?_ (by rw [sizeLine_eq]; (first | lia | omega))) (by with_unfolding_all rfl)
  rw [krv_pick]
  dsimp only
  have hT : ((s₂.heap.push { cls := .type "slice", data := .fields #[.none, .none, .int (-1) (s₂.toks + 1)] }).push { cls := .type "list", data := .seq out.toList.reverse.toArray }).IsList (s₂.heap.push { cls := .type "slice", data := .fields #[.none, .none, .int (-1) (s₂.toks + 1)] }).objs.size out.toList.reverse.toArray := ⟨_, Heap.get?_push_size _ rfl, rfl, _, rfl⟩
  have c₃ : Ch [] s₂.heap ((s₂.heap.push { cls := .type "slice", data := .fields #[.none, .none, .int (-1) (s₂.toks + 1)] }).push { cls := .type "list", data := .seq out.toList.reverse.toArray }) := fun b o _ e => Heap.get?_push_of_some _ (Heap.get?_push_of_some _ e)
  have sT : s₂.heap.get? (s₂.heap.push { cls := .type "slice", data := .fields #[.none, .none, .int (-1) (s₂.toks + 1)] }).objs.size = none := get_none (by rw [Heap.size_push]; exact Nat.le_succ _)
  generalize (s₂.heap.push { cls := .type "slice", data := .fields #[.none, .none, .int (-1) (s₂.toks + 1)] }).objs.size = T at *
  generalize (s₂.heap.push { cls := .type "slice", data := .fields #[.none, .none, .int (-1) (s₂.toks + 1)] }).push { cls := .type "list", data := .seq out.toList.reverse.toArray } = h₃ at *
  have c₃' : Ch [] s.heap h₃ := c₂'.trans c₃
  have p₃ := p₂.ch c₃ (nl _) n0
  have sT0 : s.heap.get? T = none := Ch.fresh c₂' sT (nl _)
  have iT := ints_rev i₂
  rw [← List.map_reverse] at iT
  generalize out.toList.reverse = qs at *
  refine iter_list (s := Shared.mk _ _ _ _ _) hT fun s₄ I g₄ sI hTI hit hT₄ c₄ => ?_
  have c₄' : Ch [] h₃ s₄.heap := c₄
  have sI' : h₃.get? I = none := sI
  have bI : h₀.get? I = none := p₃.b0 sI'
  have hIL : I ≠ L := p₃.nL sI'
  have hTL : T ≠ L := p₂.nL sT
  have sI0 : s.heap.get? I = none := Ch.fresh c₃' sI' (nl _)
  have g₄' : Gx s s₄ := g₂'.trans (Gx.trans ⟨rfl, rfl⟩ g₄.x)
  have C₄ : Ch [] s.heap s₄.heap := c₃'.trans c₄'
  have p₄ := p₃.ch c₄' (nl _) n0
  have hHI : H ≠ I := ls_nn hH sI0
  have hHT : H ≠ T := ls_nn hH sT0
  have hHL : H ≠ L := ls_nf hH p
  have hpsl : (List.filter (Rj js) (List.range vs.length)).reverse.length = qs.length := by
    have := iT.length; rw [List.length_map] at this; (first | lia | omega)
  have hpsb : ∀ j ∈ (List.filter (Rj js) (List.range vs.length)).reverse, j < vs.length := fun j m => List.mem_range.mp (List.mem_filter.mp (List.mem_reverse.mp m)).1
  have hfin : ((List.filter (Rj js) (List.range vs.length)).reverse).foldl (fun a p => suT (ltK key) a p) vs = sweep (ltK key) (Rj js) vs.length vs := sweep_foldl vs.length vs
  generalize (List.filter (Rj js) (List.range vs.length)).reverse = ps at *
  clear c₃ c₄ c₄' g₂' g₄ p₂ p₃ sI sI' c₂' i₂ y₂ sT
  obtain ⟨f1, o1, pm1, cd1, doc1, a1, a2, a3, a4⟩ := G.su
  have kX : ∀ v ∈ vs, ∀ b ∈ [L, H], v ≠ .ref b := fun v hv b m => by
    rcases List.mem_cons.mp m with q | q
    · rw [q]; exact (kd v hv).nf p
    · rw [List.mem_singleton.mp q]; exact nH v hv
  refine for_rule (Walks.list (prog := pw) (w := w) hh I T hTI qs.toArray) (fun i s' => ∃ bs' us, Gx s s' ∧ Fm h₀ L bs' s'.heap ∧ (∀ (x : Str) v, x ≠ "place" → At bs x v → At bs' x v) ∧ (s'.heap.IsListIter I T i ∧ s'.heap.IsList T qs.toArray) ∧ s'.heap.IsList H (List.toArray us) ∧ us = (ps.take i).foldl (fun a p => suT (ltK key) a p) vs ∧ us.length = vs.length ∧ (∀ v ∈ us, v ∈ vs) ∧ Ch [L, H] s.heap s'.heap) ?_ ?_ ?_ ?_
  · rintro i s' ⟨_, _, _, _, _, st, _⟩
    exact st
  · rintro i v s₅ h' tk' ⟨bs₅, us, g₅, p₅, k₅, _, y₅, e₅, n₅, m₅, C₅⟩ hi hv hS hkp
    have c₆ : Ch [I] s₅.heap h' := hkp
    obtain ⟨j, tj, hj', rfl⟩ := ints_get iT (show qs[i]? = some v by simpa using hv)
    have hjl : j < vs.length := hpsb j (List.mem_of_getElem? hj')
    have p₆ := p₅.ch c₆ (not_mem_one (Ne.symm hIL)) (fun b m => by rw [List.mem_singleton.mp m]; exact bI)
    refine Fm.st (s := { s₅ with heap := h', toks := tk' }) p₆ fun s₇ g₇ p₇ c₇ => ?_
    have c₇' : Ch [L] h' s₇.heap := c₇
    have C₇ : Ch [L, H] s.heap s₇.heap := (C₅.skip c₆ fun b m => .inr (by rw [List.mem_singleton.mp m]; exact sI0)).skip c₇' fun b m => .inl (by rw [List.mem_singleton.mp m]; simp)
    have y₇ := c₇'.isList (not_mem_one hHL) (c₆.isList (not_mem_one hHI) y₅)
    have kd₇ : ∀ v ∈ us, Kd s₇.heap key v := fun v hv => (kd v (m₅ v hv)).ch C₇ (kX v (m₅ v hv))
    have hak : AllK key us := fun v hv => (kd₇ v hv).key
    obtain ⟨t1, t2, t3⟩ := siftup_suT (pos := j) hak (by (first | lia | omega))
    have hfs : Frs s₇.heap (lwEnv L f cd :: outer) := by
      obtain ⟨oL, es, ep, hL, hLd⟩ := p₇.frm
      exact ⟨rfl, ⟨L, oL, es, ep, rfl, hL, hLd⟩, hf.chg C₇ fun b _ q => by rw [hof] at q; cases q⟩
    refine wpAny_execs_cons ?_
    refine wpAny_Expr ?_
    refine Call_ ?_
    refine globX G p₇.keep a1 ?_
    refine callWith_def a3 ?_
    refine args_cons ?_
    refine Fm.ld p₇ (at_skip (by decide) (k₅ _ _ (by decide) l2)) ?_
    refine args_cons ?_
    refine Fm.ld p₇ rfl ?_
    refine args_nil ⟨p₇.keep _ _ a2, ?_⟩
    refine wpAny_call (su_call (key := key) G p₇.keep p₇.sz a2 a3 a4 (by (first | lia | omega)) y₇ nHb (fun v hv => (kd₇ v hv).itm (nH v (m₅ v hv))) (by (first | lia | omega)) (by (first | lia | omega)) hh (by (first | lia | omega)) hfr hfs (fun us' s₈ g₈ e₈ l₈ k₈ => ?_) fun us' s₈ h₁ fs e g₈ e₈ => ?_)
    · dsimp only
      rw [t1] at e₈; cases e₈
      have c₈ : Ch [H] s₇.heap s₈.heap := fun b o n e => k₈ b o (fun q => n (by rw [q]; simp)) e
      refine wpAny_execs_nil ?_
      dsimp only
      refine ⟨_, _, g₅.trans (Gx.trans ⟨rfl, rfl⟩ (g₇.x.trans g₈.x)), p₇.ch c₈ (not_mem_one (Ne.symm hHL)) (fun b m => by rw [List.mem_singleton.mp m]; exact nHb), fun x v n h => at_skip n (k₅ x v n h), ⟨?_, ?_⟩, l₈, ?_, t2.trans n₅, fun v hv => m₅ v (t3 v hv), C₇.skip c₈ fun b m => .inl (by rw [List.mem_singleton.mp m]; simp)⟩
      · exact (hS.1.at fun o e => c₇' I o (not_mem_one hIL) e).at fun o e => c₈ I o (not_mem_one (Ne.symm hHI)) e
      · exact c₈.isList (not_mem_one (Ne.symm hHT)) (c₇'.isList (not_mem_one hTL) hS.2)
      · rw [List.take_succ, hj', e₅]
        simp
    · rw [t1] at e₈; cases e₈
  · rintro s₅ h' tk' ⟨bs₅, us, g₅, p₅, k₅, _, y₅, e₅, n₅, m₅, C₅⟩ hkp
    have c₆ : Ch [I] s₅.heap h' := hkp
    refine wpAny_execs_nil ?_
    rw [List.size_toArray, List.take_of_length_le (by (first | lia | omega)), hfin] at e₅
    rw [e₅] at y₅
    exact hok _ bs₅ (g₅.trans ⟨rfl, rfl⟩) (p₅.ch c₆ (not_mem_one (Ne.symm hIL)) (fun b m => by rw [List.mem_singleton.mp m]; exact bI)) k₅ (c₆.isList (not_mem_one hHI) y₅) (C₅.skip c₆ fun b m => .inr (by rw [List.mem_singleton.mp m]; exact sI0))
  · exact ⟨bs, vs, g₄', p₄, fun _ _ _ h => h, ⟨hit, hT₄⟩, C₄.isList (nl _) hH, rfl, rfl, fun _ h => h, C₄.nil⟩
end
end Mine
end PartL6
section PartL7
set_option maxHeartbeats 400000
namespace Mine
def rdNear : Stmt := match rdBody with | _ :: _ :: _ :: _ :: _ :: _ :: a :: _ => a | _ => .Pass default
def rdCheck : Stmt := match rdBody with | _ :: _ :: _ :: _ :: _ :: _ :: _ :: a :: _ => a | _ => .Pass default
def chBody : List Stmt := match rdCheck with | .For _ _ b _ _ => b | _ => []
def chNear : Expr := match chBody with | _ :: .Assign _ v _ :: _ => v | _ => .Name "" default
def chIf1 : Stmt := match chBody with | _ :: _ :: a :: _ => a | _ => .Pass default
def chIf2 : Stmt := match chBody with | _ :: _ :: _ :: a :: _ => a | _ => .Pass default
theorem rep_eq (n : Nat) (v : Value) : List.foldl (fun x1 x2 => x1 ++ x2) #[] (List.replicate n #[v]) = (List.replicate n v).toArray := by
  have : ∀ (n : Nat) (acc : Array Value), List.foldl (fun x1 x2 => x1 ++ x2) acc (List.replicate n #[v]) = acc ++ (List.replicate n v).toArray := by
    intro n
    induction n with
    | zero => intro acc; simp
    | succ n ih =>
      intro acc
      rw [List.replicate_succ, List.foldl_cons, ih, List.replicate_succ]
      apply Array.ext'
      simp
  rw [this]; simp
theorem fdiv_above {i : Nat} (h : 0 < i) : ((i : Int) - 1).fdiv 2 = (((i - 1) / 2 : Nat) : Int) := by
  rw [Int.fdiv_eq_ediv_of_nonneg _ (by (first | lia | omega))]; (first | lia | omega)
theorem any_js {js : List Nat} {i : Nat} : ((js.map fun (j : Nat) => (j : Int)).any (· == (i : Int))) = Rj js i := by
  rw [Bool.eq_iff_iff, List.any_eq_true]
  constructor
  · rintro ⟨x, hx, e⟩
    obtain ⟨j, hj, rfl⟩ := List.mem_map.mp hx
    have e : (j : Int) = i := by simpa using e
    have : j = i := by (first | lia | omega)
    subst this
    simpa using hj
  · intro h
    exact ⟨(i : Int), List.mem_map.mpr ⟨i, by simpa using h, rfl⟩, by simp⟩
theorem all_news (h₀ h : Heap) (L : Addr) : ∃ news, News h₀ L h news ∧ ∀ b o, h.get? b = some o → b ≠ L → h₀.get? b = none → (b, o) ∈ news := by
  classical
  refine ⟨(List.range h.objs.size).filterMap fun b => match h.get? b with | some o => if b ≠ L ∧ h₀.get? b = none then some (b, o) else none | none => none, fun q hq => ?_, fun b o e n1 n2 => ?_⟩
  · obtain ⟨b, _, e⟩ := List.mem_filterMap.mp hq
    cases hb : h.get? b with
    | none => rw [hb] at e; cases e
    | some o =>
      rw [hb] at e
      dsimp only at e
      by_cases c : b ≠ L ∧ h₀.get? b = none
      · rw [if_pos c] at e; cases e; exact ⟨hb, c.1, c.2⟩
      · rw [if_neg c] at e; cases e
  · refine List.mem_filterMap.mpr ⟨b, List.mem_range.mpr (Heap.lt_size e), ?_⟩
    rw [e]
    dsimp only
    rw [if_pos ⟨n1, n2⟩]
theorem mulL {prog : Program} {w : World} {A : Around} {E : Value → Shared → Prop} {s : Shared} {h₀ : Heap} {L l : Addr} {bs : List (Str × Value)} {v : Value} {n : Nat} {u : Tok} {Q : Value → Shared → Prop} (p : Fm h₀ L bs s.heap) (hl : s.heap.PlainList l #[v]) (hn : n ≤ 100)
    (h : ∀ s', Go s s' → s'.heap.IsList s.heap.objs.size (List.replicate n v).toArray → Fm h₀ L bs s'.heap → Ch [L] s.heap s'.heap → Q (.ref s.heap.objs.size) s') : wpAny (model prog w) A (binaryOp .Mult (.ref l) (.int (n : Nat) u)) Q E s := by
  obtain ⟨k, hl⟩ := hl
  obtain ⟨m, F, lk⟩ := id p
  obtain ⟨news, N, all⟩ := all_news h₀ s.heap L
  have e : (List.foldl (fun x1 x2 => x1 ++ x2) #[] (List.replicate (if (#[v] : Array Value).isEmpty = true then 0 else ((n : Nat) : Int).toNat) #[v])) = (List.replicate n v).toArray := by
    rw [Int.toNat_natCast, if_neg (by simp), rep_eq]
  refine mul_list F N hl (by (first | lia | omega)) (by (first | lia | omega)) (by rw [Int.toNat_natCast]; show 1 * n ≤ _; (first | lia | omega)) fun h' F' N' => ?_
  rw [e] at N'
  refine h _ ⟨_, _, rfl⟩ ⟨_, N'.get List.mem_cons_self, rfl, 0, rfl⟩ ⟨m, F', lk⟩ fun b o nb eb => ?_
  cases q : h₀.get? b with
  | some o' =>
    have := p.keep _ _ q
    rw [eb] at this
    cases this
    exact F'.keep _ _ q
  | none => exact N'.get (List.mem_cons_of_mem _ (all b o eb (fun z => nb (by rw [z]; simp)) q))
section
variable {h₀ : Heap} {mg mb : Str → Option Value} {H L Nl Bf Rd : Addr} {vs us ws rs : List Value} {bs : List (Str × Value)} {w : World} {A : Around} {E : Value → Shared → Prop} {s : Shared} {f : Addr} {cd : Value} {outer : List Env} {key : Value → Option Int} {js : List Nat}
theorem near_st {n : Nat} {tn : Tok} {Q : Flow → Shared → Prop} (p : Fm h₀ L bs s.heap) (l3 : At bs "size" (.int (n : Nat) tn)) (hn : n ≤ 100)
    (hok : ∀ D s', Go s s' → s.heap.get? D = none → s'.heap.IsList D (List.replicate n (Value.bool false)).toArray → Fm h₀ L (("near", .ref D) :: bs) s'.heap → Ch [L] s.heap s'.heap → Q .next s') :
    wpAny (model pw w) A (exec rdNear (lwEnv L f cd)) Q E s := by
  have nl : ∀ b : Addr, b ∉ ([] : List Addr) := fun _ m => nomatch m
  have n0 : ∀ b ∈ ([] : List Addr), h₀.get? b = none := fun _ m => nomatch m
  unfold rdNear rdBody lwBody
  refine wpAny_Assign_Name ?_
  refine wpAny_BinOp ?_
  refine List_ ?_
  refine args_cons ?_
  refine Constant_bool ?_
  refine args_nil ?_
  refine newL (by rw [sizeLine_eq]; simp) fun s₁ D g₁ hD y₁ c₁ => ?_
  have p₁ := p.ch c₁ (nl _) n0
  refine Fm.ld p₁ l3 ?_
  refine mulL p₁ y₁ hn fun s₂ g₂ y₂ p₂ c₂ => ?_
  have hz : s.heap.get? s₁.heap.objs.size = none := Ch.fresh c₁ (get_none (Nat.le_refl _)) (nl _)
  refine Fm.st p₂ fun s₃ g₃ p₃ c₃ => ?_
  exact hok _ s₃ ((g₁.trans g₂).trans g₃) hz (c₃.isList (not_mem_one (ls_nf y₂ p₂)) y₂) p₃ ((c₁.nil.trans c₂).trans c₃)
theorem near_val {i : Nat} {ti ta : Tok} {Q : Value → Shared → Prop} (p : Fm h₀ L bs s.heap) (l1 : At bs "place" (.int (i : Nat) ti)) (l2 : At bs "above" (.int (((i : Int) - 1).fdiv 2) ta)) (l4 : At bs "raised" (.ref Rd)) (l5 : At bs "near" (.ref Nl))
    (hR : s.heap.IsList Rd rs.toArray) (iR : IntsAre rs (js.map fun (j : Nat) => (j : Int))) (hN : s.heap.IsList Nl ws.toArray) (hi : i < ws.length) (hw : ws.length ≤ 100) (hb : ∀ k, k < i → nth ws k = .bool (Nr (Rj js) k))
    (hok : ∀ tk, Q (.bool (Nr (Rj js) i)) { s with toks := tk }) : wpAny (model pw w) A (eval chNear (lwEnv L f cd)) Q E s := by
  unfold chNear chBody rdCheck rdBody lwBody
  refine BoolOp_or ?_
  refine wpAny_Compare1 ?_
  refine Fm.ld p l1 ?_
  refine Fm.ld p l4 ?_
  refine in_list_ints hR iR ?_
  refine wpAny_truthy_bool ?_
  rw [any_js]
  cases h1 : Rj js i with
  | true =>
    simp only [if_true]
    have := hok s.toks
    rw [Nr.of h1] at this
    exact this
  | false =>
    simp only [Bool.false_eq_true, if_false]
    refine BoolOp_one ?_
    refine BoolOp_and ?_
    refine wpAny_Compare1 ?_
    refine Fm.ld p l1 ?_
    refine wpAny_Constant_int ?_
    refine gt_int ?_
    refine wpAny_truthy_bool ?_
    by_cases h2 : 0 < i
    · rw [show decide ((0 : Int) < ((i : Nat) : Int)) = true by simp; (first | lia | omega)]
      simp only [if_true]
      refine BoolOp_one ?_
      refine Subscript_ ?_
      refine Fm.ld (s := Shared.mk _ _ _ _ _) p l5 ?_
      refine Fm.ld (s := Shared.mk _ _ _ _ _) p l2 ?_
      rw [fdiv_above h2]
      refine getAt (s := Shared.mk _ _ _ _ _) hN (by (first | lia | omega)) (by (first | lia | omega)) (by (first | lia | omega)) ?_
      rw [Int.toNat_natCast, hb _ (by (first | lia | omega))]
      have := hok (s.toks + 1)
      obtain ⟨j, rfl⟩ : ∃ j, i = j + 1 := ⟨i - 1, by (first | lia | omega)⟩
      rw [Nr, h1] at this
      simpa using this
    · rw [show decide ((0 : Int) < ((i : Nat) : Int)) = false by simp; (first | lia | omega)]
      simp only [Bool.false_eq_true, if_false]
      have : i = 0 := by (first | lia | omega)
      subst this
      have := hok (s.toks + 1)
      rw [Nr, h1] at this
      exact this
theorem if1_st {i : Nat} {ti : Tok} {b : Bool} {Q : Flow → Shared → Prop} (p : Fm h₀ L bs s.heap) (l1 : At bs "place" (.int (i : Nat) ti)) (l2 : At bs "heap" (.ref H)) (l4 : At bs "before" (.ref Bf)) (l5 : At bs "near" (.ref Nl))
    (hH : s.heap.IsList H us.toArray) (hB : s.heap.IsList Bf vs.toArray) (hN : s.heap.IsList Nl ws.toArray) (h1 : i < us.length) (h2 : i < vs.length) (h3 : i < ws.length) (b1 : us.length ≤ 100) (b2 : vs.length ≤ 100) (b3 : ws.length ≤ 100)
    (hw : nth ws i = .bool b) (he : b = false → nth us i = nth vs i) (hu : ItmAt s.heap (nth us i)) (hv : ItmAt s.heap (nth vs i)) (hok : Q .next s) : wpAny (model pw w) A (exec chIf1 (lwEnv L f cd)) Q E s := by
  unfold chIf1 chBody rdCheck rdBody lwBody
  refine wpAny_If ?_
  refine isTrue_and ?_
  refine isTrue_not ?_
  refine wpAny_isTrue_value ?_
  refine Subscript_ ?_
  refine Fm.ld p l5 ?_
  refine Fm.ld p l1 ?_
  refine getAt hN (by (first | lia | omega)) (by (first | lia | omega)) (by (first | lia | omega)) ?_
  rw [Int.toNat_natCast, hw]
  refine wpAny_truthy_bool ?_
  cases b with
  | true =>
    simp only [Bool.not_true, Bool.false_eq_true, if_false]
    exact wpAny_execs_nil hok
  | false =>
    simp only [Bool.not_false, if_true]
    refine isTrue_and ?_
    refine wpAny_isTrue_Compare1 ?_
    refine Subscript_ ?_
    refine Fm.ld p l2 ?_
    refine Fm.ld p l1 ?_
    refine getAt hH (by (first | lia | omega)) (by (first | lia | omega)) (by (first | lia | omega)) ?_
    refine Subscript_ ?_
    refine Fm.ld p l4 ?_
    refine Fm.ld p l1 ?_
    refine getAt hB (by (first | lia | omega)) (by (first | lia | omega)) (by (first | lia | omega)) ?_
    rw [Int.toNat_natCast]
    refine isNotV hu hv ?_
    refine wpAny_truthy_bool ?_
    rw [he rfl]
    simp only [decide_true, Bool.not_true, Bool.false_eq_true, if_false]
    exact wpAny_execs_nil hok
theorem if2_st {i : Nat} {ti ta : Tok} {Q : Flow → Shared → Prop} (p : Fm h₀ L bs s.heap) (l1 : At bs "place" (.int (i : Nat) ti)) (l2 : At bs "above" (.int (((i : Int) - 1).fdiv 2) ta)) (l3 : At bs "heap" (.ref H))
    (hH : s.heap.IsList H us.toArray) (h1 : i < us.length) (b1 : us.length ≤ 100) (kd : ∀ v ∈ us, Kd s.heap key v) (hp : Hp key 0 us) (hc : A.units < cLine) (hok : ∀ tk, Q .next { s with toks := tk }) : wpAny (model pw w) A (exec chIf2 (lwEnv L f cd)) Q E s := by
  unfold chIf2 chBody rdCheck rdBody lwBody
  refine wpAny_If ?_
  refine isTrue_and ?_
  refine wpAny_isTrue_Compare1 ?_
  refine Fm.ld p l1 ?_
  refine wpAny_Constant_int ?_
  refine gt_int ?_
  refine wpAny_truthy_bool ?_
  by_cases h2 : 0 < i
  · rw [show decide ((0 : Int) < ((i : Nat) : Int)) = true by simp; (first | lia | omega)]
    simp only [if_true]
    refine isTrue_and ?_
    refine wpAny_isTrue_Compare1 ?_
    refine Subscript_ ?_
    refine Fm.ld (s := Shared.mk _ _ _ _ _) p l3 ?_
    refine Fm.ld (s := Shared.mk _ _ _ _ _) p l1 ?_
    refine getAt (s := Shared.mk _ _ _ _ _) hH (by (first | lia | omega)) (by (first | lia | omega)) (by (first | lia | omega)) ?_
    refine Subscript_ ?_
    refine Fm.ld (s := Shared.mk _ _ _ _ _) p l3 ?_
    refine Fm.ld (s := Shared.mk _ _ _ _ _) p l2 ?_
    rw [fdiv_above h2]
    refine getAt (s := Shared.mk _ _ _ _ _) hH (by (first | lia | omega)) (by (first | lia | omega)) (by (first | lia | omega)) ?_
    rw [Int.toNat_natCast, Int.toNat_natCast]
    refine cmpK (s := Shared.mk _ _ _ _ _) (key := key) (kd _ (nth_mem h1)) (kd _ (nth_mem (by (first | lia | omega)))) hc fun r hr => ?_
    rw [hp i h2 h1 (Nat.zero_le _)] at hr
    cases hr
    refine wpAny_truthy_bool ?_
    simp only [Bool.false_eq_true, if_false]
    exact wpAny_execs_nil (hok _)
  · rw [show decide ((0 : Int) < ((i : Nat) : Int)) = false by simp; (first | lia | omega)]
    simp only [Bool.false_eq_true, if_false]
    exact wpAny_execs_nil (hok _)
end
end Mine
end PartL7
section PartL8
set_option maxHeartbeats 400000
namespace Mine
theorem nth_set_ne {vs : List Value} {i k : Nat} {v : Value} (h : k ≠ i) : nth (vs.set i v) k = nth vs k := by
  rw [nth_set', if_neg fun q => h q.1]
theorem nth_set_eq {vs : List Value} {i : Nat} {v : Value} (h : i < vs.length) : nth (vs.set i v) i = v := by
  rw [nth_set', if_pos ⟨rfl, h⟩]
theorem ItmAt.ch {X : List Addr} {h h' : Heap} {v : Value} (k : ItmAt h v) (c : Ch X h h') (n : ∀ b ∈ X, v ≠ .ref b) : ItmAt h' v := by
  rcases k with rfl | ⟨a, its, rfl, l⟩
  · exact .inl rfl
  · exact .inr ⟨a, its, rfl, c.isList (fun m => n a m rfl) l⟩
section
variable {h₀ : Heap} {mg mb : Str → Option Value} {H L Nl Bf Rd : Addr} {vs us ws rs : List Value} {bs : List (Str × Value)} {w : World} {A : Around} {E : Value → Shared → Prop} {s : Shared} {f : Addr} {cd : Value} {outer : List Env} {key : Value → Option Int} {js : List Nat}
theorem check_turn {i : Nat} {ti : Tok} {Q : Flow → Shared → Prop} (p : Fm h₀ L bs s.heap) (l1 : At bs "place" (.int (i : Nat) ti)) (l2 : At bs "heap" (.ref H)) (l3 : At bs "before" (.ref Bf)) (l4 : At bs "raised" (.ref Rd)) (l5 : At bs "near" (.ref Nl))
    (hH : s.heap.IsList H us.toArray) (hB : s.heap.IsList Bf vs.toArray) (hR : s.heap.IsList Rd rs.toArray) (iR : IntsAre rs (js.map fun (j : Nat) => (j : Int))) (hN : s.heap.IsList Nl ws.toArray)
    (n1 : H ≠ Nl) (n2 : Bf ≠ Nl) (n3 : h₀.get? Nl = none) (n4 : ∀ v ∈ us, v ≠ .ref Nl) (n5 : ∀ v ∈ vs, v ≠ .ref Nl)
    (e1 : us.length = vs.length) (e2 : ws.length = vs.length) (hi : i < vs.length) (hn : vs.length ≤ 100) (hb : ∀ k, k < i → nth ws k = .bool (Nr (Rj js) k))
    (kd : ∀ v ∈ us, Kd s.heap key v) (iv : ∀ v ∈ vs, ItmAt s.heap v) (hp : Hp key 0 us) (hs : ∀ i, i < vs.length → Nr (Rj js) i = false → nth us i = nth vs i) (hc : A.units < cLine)
    (hok : ∀ s' bs', Go s s' → Fm h₀ L bs' s'.heap → (∀ (x : Str) v, x ≠ "above" → At bs x v → At bs' x v) → s'.heap.IsList Nl (ws.set i (.bool (Nr (Rj js) i))).toArray → Ch [L, Nl] s.heap s'.heap → Q .next s') :
    wpAny (model pw w) A (execs chBody (lwEnv L f cd)) Q E s := by
  have nNL : Nl ≠ L := ls_nf hN p
  have eL : ∀ {a : Addr} {items}, s.heap.IsList a items → a ∉ [L] := fun l => not_mem_one (ls_nf l p)
  unfold chBody rdCheck rdBody lwBody
  refine wpAny_execs_cons ?_
  refine wpAny_Assign_Name ?_
  refine wpAny_BinOp ?_
  refine wpAny_BinOp ?_
  refine Fm.ld p l1 ?_
  refine wpAny_Constant_int ?_
  refine sub_int ?_
  refine wpAny_Constant_int ?_
  refine floordiv_int (by decide) ?_
  refine Fm.st (s := Shared.mk _ _ _ _ _) p fun s₁ g₁ p₁ c₁ => ?_
  dsimp only
  have c₁' : Ch [L] s.heap s₁.heap := c₁
  have g₁' : Go s s₁ := Go.trans ⟨_, _, rfl⟩ g₁
  refine wpAny_execs_cons ?_
  refine wpAny_Assign_Subscript ?_
  refine near_val (i := i) (ws := ws) (rs := rs) (js := js) p₁ (at_skip (by decide) l1) rfl (at_skip (by decide) l4) (at_skip (by decide) l5) (c₁'.isList (eL hR) hR) iR (c₁'.isList (eL hN) hN) (by (first | lia | omega)) (by (first | lia | omega)) hb fun tk => ?_
  refine Fm.ld (s := Shared.mk _ _ _ _ _) p₁ (at_skip (by decide) l5) ?_
  refine Fm.ld (s := Shared.mk _ _ _ _ _) p₁ (at_skip (by decide) l1) ?_
  refine setAt (s := Shared.mk _ _ _ _ _) (c₁'.isList (eL hN) hN) (by (first | lia | omega)) (by (first | lia | omega)) (by (first | lia | omega)) fun s₂ g₂ y₂ c₂ => ?_
  dsimp only
  rw [Int.toNat_natCast] at y₂
  have c₂' : Ch [Nl] s₁.heap s₂.heap := c₂
  have g₂' : Go s₁ s₂ := Go.trans ⟨_, _, rfl⟩ g₂
  have p₂ := p₁.ch c₂' (not_mem_one (Ne.symm nNL)) (fun b m => by rw [List.mem_singleton.mp m]; exact n3)
  have C₂ : Ch [L, Nl] s.heap s₂.heap := (c₁'.mono fun b m => by rw [List.mem_singleton.mp m]; simp).trans (c₂'.mono fun b m => by rw [List.mem_singleton.mp m]; simp)
  have kX : ∀ v ∈ us, ∀ b ∈ [L, Nl], v ≠ .ref b := fun v hv b m => by
    rcases List.mem_cons.mp m with q | q
    · rw [q]; exact (kd v hv).nf p
    · rw [List.mem_singleton.mp q]; exact n4 v hv
  have kd₂ : ∀ v ∈ us, Kd s₂.heap key v := fun v hv => (kd v hv).ch C₂ (kX v hv)
  have H₂ := C₂.isList (two_not (ls_nf hH p) n1) hH
  have iv₂ : ItmAt s₂.heap (nth vs i) := by
    refine (iv _ (nth_mem hi)).ch C₂ fun b m => ?_
    rcases List.mem_cons.mp m with q | q
    · rw [q]
      rcases iv _ (nth_mem hi) with e | ⟨a, its, e, l⟩
      · rw [e]; intro z; cases z
      · rw [e]; intro z; cases z; exact ls_nf l p rfl
    · rw [List.mem_singleton.mp q]; exact n5 _ (nth_mem hi)
  refine wpAny_execs_cons ?_
  refine if1_st (i := i) (us := us) (vs := vs) (ws := ws.set i (.bool (Nr (Rj js) i))) (b := Nr (Rj js) i) p₂ (at_skip (by decide) l1) (at_skip (by decide) l2) (at_skip (by decide) l3) (at_skip (by decide) l5) H₂ (C₂.isList (two_not (ls_nf hB p) n2) hB) y₂ (by (first | lia | omega)) hi (by rw [List.length_set]; (first | lia | omega)) (by (first | lia | omega)) hn (by rw [List.length_set]; (first | lia | omega)) (nth_set_eq (by (first | lia | omega))) (hs i hi) (kd₂ _ (nth_mem (by (first | lia | omega)))).at iv₂ ?_
  refine wpAny_execs_cons ?_
  refine if2_st (i := i) (us := us) (key := key) p₂ (at_skip (by decide) l1) rfl (at_skip (by decide) l2) H₂ (by (first | lia | omega)) (by (first | lia | omega)) kd₂ hp hc fun tk => ?_
  refine wpAny_execs_nil ?_
  exact hok _ _ (g₁'.trans (g₂'.trans ⟨_, _, rfl⟩)) p₂ (fun x v n h => at_skip n h) y₂ C₂

theorem check_st {tn : Tok} {Q : Flow → Shared → Prop} (G : Gd h₀ mg mb) (p : Fm h₀ L bs s.heap) (l1 : At bs "size" (.int vs.length tn)) (l2 : At bs "heap" (.ref H)) (l3 : At bs "before" (.ref Bf)) (l4 : At bs "raised" (.ref Rd)) (l5 : At bs "near" (.ref Nl))
    (hH : s.heap.IsList H us.toArray) (hB : s.heap.IsList Bf vs.toArray) (hR : s.heap.IsList Rd rs.toArray) (iR : IntsAre rs (js.map fun (j : Nat) => (j : Int))) (hN : s.heap.IsList Nl (List.replicate vs.length (Value.bool false)).toArray)
    (n1 : H ≠ Nl) (n2 : Bf ≠ Nl) (n6 : Rd ≠ Nl) (n3 : h₀.get? Nl = none) (n4 : ∀ v ∈ us, v ≠ .ref Nl) (n5 : ∀ v ∈ vs, v ≠ .ref Nl)
    (e1 : us.length = vs.length) (hn : vs.length ≤ 100)
    (kd : ∀ v ∈ us, Kd s.heap key v) (iv : ∀ v ∈ vs, ItmAt s.heap v) (hp : Hp key 0 us) (hs : ∀ i, i < vs.length → Nr (Rj js) i = false → nth us i = nth vs i) (hc : A.units < cLine) (hh : A.handled = none)
    (hok : ∀ s' bs', Go s s' → Fm h₀ L bs' s'.heap → (∀ (x : Str) v, x ≠ "above" → x ≠ "place" → At bs x v → At bs' x v) → Ch [L, Nl] s.heap s'.heap → Q .next s') :
    wpAny (model pw w) A (exec rdCheck (lwEnv L f cd)) Q E s := by
  have nl : ∀ b : Addr, b ∉ ([] : List Addr) := fun _ m => nomatch m
  have n0 : ∀ b ∈ ([] : List Addr), h₀.get? b = none := fun _ m => nomatch m
  unfold rdCheck rdBody lwBody
  refine wpAny_For ?_
  refine Call_ ?_
  refine bltX G p.keep PyProof.Rows.boot_range ?_
  refine PyProof.Rows.callWith_type1 ?_
  refine args_cons ?_
  refine Fm.ld p l1 ?_
  refine args_nil ?_
  refine rng1 vs.length rfl fun s₁ r tr ur vr g₁ hr c₁ => ?_
  refine range_iter hr (by (first | lia | omega)) fun s₂ g₂ c₂ hz₂ hit => ?_
  have C₂ : Ch [] s.heap s₂.heap := c₁.trans c₂
  have sI : s.heap.get? s₁.heap.objs.size = none := Ch.fresh c₁ (get_none (Nat.le_refl _)) (nl _)
  generalize s₁.heap.objs.size = I at *
  have hIL : I ≠ L := p.nL sI
  have bI : h₀.get? I = none := p.b0 sI
  have hIN : I ≠ Nl := Ne.symm (ls_nn hN sI)
  have vL : ∀ v ∈ vs, v ≠ .ref L := fun v hv => by
    rcases iv v hv with e | ⟨a, its, e, l⟩
    · rw [e]; intro z; cases z
    · rw [e]; intro z; cases z; exact ls_nf l p rfl
  have kX : ∀ v ∈ us, ∀ b ∈ [L, Nl], v ≠ .ref b := fun v hv b m => by
    rcases List.mem_cons.mp m with q | q
    · rw [q]; exact (kd v hv).nf p
    · rw [List.mem_singleton.mp q]; exact n4 v hv
  have vX : ∀ v ∈ vs, ∀ b ∈ [L, Nl], v ≠ .ref b := fun v hv b m => by
    rcases List.mem_cons.mp m with q | q
    · rw [q]; exact vL v hv
    · rw [List.mem_singleton.mp q]; exact n5 v hv
  refine for_rule (walks_range hh I 0 vs.length) (fun i s' => ∃ bs' ws, Go s s' ∧ Fm h₀ L bs' s'.heap ∧ (∀ (x : Str) v, x ≠ "above" → x ≠ "place" → At bs x v → At bs' x v) ∧ s'.heap.IsList Nl (List.toArray ws) ∧ ws.length = vs.length ∧ (∀ k, k < i → nth ws k = .bool (Nr (Rj js) k)) ∧
    i ≤ vs.length ∧ IsRangeIter s'.heap I (((0 : Nat) : Int) + (i : Nat) * 1) ((vs.length : Int) - (i : Nat)) 1 ∧ Ch [L, Nl] s.heap s'.heap) ?_ ?_ ?_ ?_
  · rintro i s' ⟨_, _, _, _, _, _, _, _, h1, h2, _⟩
    exact ⟨h1, h2⟩
  · rintro i v s₃ h' tk ⟨bs₃, ws, g₃, p₃, k₃, N₃, w₃, b₃, hi3, _, C₃⟩ hi ⟨_, t', rfl⟩ hS hkp
    have c₄ : Ch [I] s₃.heap h' := hkp
    have p₄ := p₃.ch c₄ (not_mem_one (Ne.symm hIL)) (fun b m => by rw [List.mem_singleton.mp m]; exact bI)
    refine Fm.st (s := { s₃ with heap := h', toks := tk }) p₄ fun s₅ g₅ p₅ c₅ => ?_
    have c₅' : Ch [L] h' s₅.heap := c₅
    have C₅ : Ch [L, Nl] s.heap s₅.heap := (C₃.skip c₄ fun b m => .inr (by rw [List.mem_singleton.mp m]; exact sI)).skip c₅' fun b m => .inl (by rw [List.mem_singleton.mp m]; simp)
    have N₅ := c₅'.isList (not_mem_one (ls_nf hN p)) (c₄.isList (not_mem_one (Ne.symm hIN)) N₃)
    refine check_turn (i := 0 + i) (us := us) (vs := vs) (ws := ws) (rs := rs) (js := js) (key := key) p₅ rfl (at_skip (by decide) (k₃ _ _ (by decide) (by decide) l2)) (at_skip (by decide) (k₃ _ _ (by decide) (by decide) l3)) (at_skip (by decide) (k₃ _ _ (by decide) (by decide) l4)) (at_skip (by decide) (k₃ _ _ (by decide) (by decide) l5))
      (C₅.isList (two_not (ls_nf hH p) n1) hH) (C₅.isList (two_not (ls_nf hB p) n2) hB) (C₅.isList (two_not (ls_nf hR p) n6) hR) iR N₅ n1 n2 n3 n4 n5 e1 w₃ (by (first | lia | omega)) hn (fun k hk => b₃ k (by (first | lia | omega))) (fun v hv => (kd v hv).ch C₅ (kX v hv)) (fun v hv => (iv v hv).ch C₅ (vX v hv)) hp hs hc fun s₆ bs₆ g₆ p₆ k₆ N₆ c₆ => ?_
    dsimp only
    rw [Nat.zero_add] at N₆
    refine ⟨bs₆, _, g₃.trans (Go.trans ⟨_, _, rfl⟩ (g₅.trans g₆)), p₆, fun x v m1 m2 h => k₆ x v m1 (at_skip m2 (k₃ x v m1 m2 h)), N₆, by rw [List.length_set]; exact w₃, fun k hk => ?_, hS.1, c₆ I _ (two_not hIL hIN) (c₅' I _ (not_mem_one hIL) hS.2), C₅.trans c₆⟩
    by_cases q : k = i
    · rw [q, nth_set_eq (by (first | lia | omega))]
    · rw [nth_set_ne q]; exact b₃ k (by (first | lia | omega))
  · rintro s₃ h' tk ⟨bs₃, ws, g₃, p₃, k₃, N₃, w₃, b₃, hi3, _, C₃⟩ hkp
    have c₄ : Ch [I] s₃.heap h' := hkp
    refine wpAny_execs_nil ?_
    exact hok _ bs₃ (g₃.trans ⟨_, _, rfl⟩) (p₃.ch c₄ (not_mem_one (Ne.symm hIL)) (fun b m => by rw [List.mem_singleton.mp m]; exact bI)) k₃ (C₃.skip c₄ fun b m => .inr (by rw [List.mem_singleton.mp m]; exact sI))
  · exact ⟨bs, _, g₁.trans g₂, p.ch C₂ (nl _) n0, fun _ _ _ _ h => h, C₂.isList (nl _) hN, by simp, fun k hk => absurd hk (Nat.not_lt_zero _), Nat.zero_le _, hit, C₂.nil⟩
end
end Mine
end PartL8
section PartL9
set_option maxHeartbeats 400000
namespace Mine
def rdDiff : Stmt := match rdBody with | _ :: _ :: _ :: _ :: _ :: _ :: _ :: _ :: a :: _ => a | _ => .Pass default
theorem reads_two {h : Heap} : ∀ (us fs : List Value), us.length = fs.length → (∀ i, i < us.length → ∃ x a t b u, nth us i = .ref a ∧ h.IsList a #[.int x t] ∧ nth fs i = .ref b ∧ h.IsList b #[.int x u]) →
    ∃ ds as bs, ReadsAll h us ds as ∧ ReadsAll h fs ds bs ∧ PyData.canLayAll0 ds = true ∧ PyData.depthAll ds ≤ 1
  | [], [], _, _ => ⟨[], [], [], .nil, .nil, rfl, Nat.zero_le _⟩
  | [], _ :: _, e, _ => by simp at e
  | _ :: _, [], e, _ => by simp at e
  | u :: us, f :: fs, e, k => by
    obtain ⟨ds, as, bs, h1, h2, h3, h4⟩ := reads_two us fs (by simpa using e) fun i hi => by
      have := k (i + 1) (by simpa using hi)
      simpa [nth] using this
    obtain ⟨x, a, t, b, v, e1, l1, e2, l2⟩ := k 0 (by simp)
    have e1 : u = .ref a := by simpa [nth] using e1
    have e2 : f = .ref b := by simpa [nth] using e2
    subst e1 e2
    obtain ⟨o1, o2, o3, n1, o4⟩ := l1
    obtain ⟨q1, q2, q3, n2, q4⟩ := l2
    refine ⟨.list [.int x] :: ds, _, _, .cons (.list o2 o3 o4 (.cons (.int x t) .nil)) h1, .cons (.list q2 q3 q4 (.cons (.int x v) .nil)) h2, ?_, ?_⟩
    · simp [PyData.canLayAll0, PyData.canLay0, h3]
    · simp [PyData.depthAll, PyData.depth]; (first | lia | omega)
noncomputable def keyOf (h : Heap) (v : Value) : Option Int := by
  classical
  exact if q : ∃ x, Pc h v x then some q.choose else none
theorem keyOf_pc {h : Heap} {v : Value} {x : Int} (p : Pc h v x) : keyOf h v = some x := by
  unfold keyOf
  have q : ∃ x, Pc h v x := ⟨x, p⟩
  rw [dif_pos q]
  exact congrArg some (q.choose_spec.uniq p)
theorem Pc.kd {h : Heap} {v : Value} {x : Int} (p : Pc h v x) : Kd h (keyOf h) v := by
  have k := keyOf_pc p
  obtain ⟨a, t, e, l⟩ := p
  exact ⟨a, x, t, e, k, l.isList⟩
/-- no list is less than the one over it -/
def Hq (h : Heap) (vs : List Value) : Prop := ∀ k, 0 < k → k < vs.length → ∀ x y, Pc h (nth vs k) x → Pc h (nth vs ((k - 1) / 2)) y → y ≤ x
theorem hq_of {h : Heap} {vs : List Value} (hp : Hp (keyOf h) 0 vs) : Hq h vs := fun k k0 kl _ _ hx hy => key_le (hp k k0 kl (Nat.zero_le _)) (keyOf_pc hx) (keyOf_pc hy)
theorem Hq.ch {h h' : Heap} {vs : List Value} {X : List Addr} (q : Hq h vs) (c : Ch X h h') (n : ∀ v ∈ vs, ∀ b ∈ X, v ≠ .ref b) (cs : Cs h vs) : Hq h' vs := fun k k0 kl x y hx hy => by
  obtain ⟨x', hx'⟩ := cs _ (nth_mem kl)
  obtain ⟨y', hy'⟩ := cs (nth vs ((k - 1) / 2)) (nth_mem (by (first | lia | omega)))
  have e1 := hx.uniq (hx'.ch c (n _ (nth_mem kl)))
  have e2 := hy.uniq (hy'.ch c (n _ (nth_mem (by (first | lia | omega)))))
  rw [e1, e2]
  exact q k k0 kl x' y' hx' hy'
section
variable {h₀ : Heap} {mg mb : Str → Option Value} {H L Fs : Addr} {us fs : List Value} {bs : List (Str × Value)} {w : World} {A : Around} {E : Value → Shared → Prop} {s : Shared} {f : Addr} {cd : Value} {outer : List Env} {key : Value → Option Int}
theorem diff_st {Q : Flow → Shared → Prop} (p : Fm h₀ L bs s.heap) (l2 : At bs "heap" (.ref H)) (l3 : At bs "fresh" (.ref Fs)) (hH : s.heap.IsList H us.toArray) (hF : s.heap.IsList Fs fs.toArray)
    (kd : ∀ v ∈ us, Kd s.heap key v) (kf : ∀ v ∈ fs, Kd s.heap key v) (he : Eqk key us fs) (hu : A.units + 64 < cLine) (hok : Q .next s) : wpAny (model pw w) A (exec rdDiff (lwEnv L f cd)) Q E s := by
  obtain ⟨ds, as, bs', h1, h2, h3, h4⟩ := reads_two us fs he.1 fun i hi => by
    obtain ⟨a, x, t, e1, k1, l1⟩ := kd _ (nth_mem hi)
    obtain ⟨b, y, u, e2, k2, l2⟩ := kf (nth fs i) (nth_mem (by rw [← he.1]; exact hi))
    have := he.2 i
    rw [k1, k2] at this
    cases this
    exact ⟨x, a, t, b, u, e1, l1, e2, l2⟩
  obtain ⟨o1, o2, o3, n1, o4⟩ := hH
  obtain ⟨q1, q2, q3, n2, q4⟩ := hF
  have hl : (PyData.list ds).canLay0 = true := h3
  unfold rdDiff rdBody lwBody
  refine wpAny_If ?_
  refine wpAny_isTrue_Compare1 ?_
  refine Fm.ld p l2 ?_
  refine Fm.ld p l3 ?_
  refine PySem.SeqAt.compareNe_reads (.list o2 o3 o4 h1) (.list q2 q3 q4 h2) hl hl (by simp [PyData.depth]; (first | lia | omega)) ?_
  rw [PySem.SeqAt.eqv_refl _ hl]
  refine wpAny_truthy_bool ?_
  simp only [Bool.not_true, Bool.false_eq_true, if_false]
  exact wpAny_execs_nil hok
end
end Mine
end PartL9
section PartL10
set_option maxHeartbeats 400000
namespace Mine
def rdA : List Stmt := match rdBody with | a :: b :: c :: d :: e :: _ => [a, b, c, d, e] | _ => []
def rdB : List Stmt := match rdBody with | _ :: _ :: _ :: _ :: _ :: r => r | _ => []
theorem nth_out {vs : List Value} {i : Nat} (h : vs.length ≤ i) : nth vs i = .none := by
  unfold nth
  rw [List.getD_eq_getElem?_getD, List.getElem?_eq_none h]; rfl
theorem plain_round {h h' : Heap} {vs fs : List Value} {js : List Nat} {key : Value → Option Int} (q : Hq h vs) (cs : Cs h vs) (up : Up js h h' vs) (inj : Inj vs) (kp : ∀ v x, v ∈ vs → Pc h' v x → key v = some x)
    (hfl : fs.length = vs.length) (hfe : ∀ i, i < vs.length → key (nth vs i) = key (nth fs i)) (hak : AllK key vs) :
    (sweep (ltK key) (Rj js) vs.length vs).length = vs.length ∧ Hp key 0 (sweep (ltK key) (Rj js) vs.length vs) ∧ Inj (sweep (ltK key) (Rj js) vs.length vs) ∧ (∀ v ∈ sweep (ltK key) (Rj js) vs.length vs, v ∈ vs) ∧ Eqk key (sweep (ltK key) (Rj js) vs.length vs) (hfy (ltK key) fs) ∧ (∀ i, i < vs.length → Nr (Rj js) i = false → nth (sweep (ltK key) (Rj js) vs.length vs) i = nth vs i) := by
  have old : ∀ i, i < vs.length → ∃ x y, Pc h (nth vs i) x ∧ (keyOf h (nth vs i)).getD 0 = x ∧ key (nth vs i) = some y ∧ x ≤ y ∧ (i ∉ js → y = x) := fun i hi => by
    obtain ⟨x, hx⟩ := cs _ (nth_mem hi)
    obtain ⟨y, hy, h1, h2⟩ := up i hi x hx
    exact ⟨x, y, hx, by rw [keyOf_pc hx]; rfl, kp _ _ (nth_mem hi) hy, h1, h2⟩
  have he : Eqk key vs fs := ⟨hfl.symm, fun i => by
    by_cases hi : i < vs.length
    · exact hfe i hi
    · rw [nth_out (by (first | lia | omega)), nth_out (by (first | lia | omega))]⟩
  refine round_all (ol := fun i => (keyOf h (nth vs i)).getD 0) (fun k k0 kl => ?_) (fun i hi hR => ?_) hak (fun i hi => ?_) inj he fun v hv => ?_
  · obtain ⟨x, _, hx, e, _⟩ := old k kl
    obtain ⟨y, _, hy, e', _⟩ := old ((k - 1) / 2) (by (first | lia | omega))
    rw [e, e']
    exact q k k0 kl x y hx hy
  · obtain ⟨x, y, hx, e, e', _, z⟩ := old i hi
    rw [e, e', z (by simpa using hR)]
  · obtain ⟨x, y, hx, e, e', z, _⟩ := old i hi
    exact ⟨y, e', by dsimp only; rw [e]; exact z⟩
  · obtain ⟨i, hi, e⟩ := List.mem_iff_getElem.mp hv
    have en : nth fs i = v := by rw [← e]; simp [nth, hi]
    rw [← en, ← hfe i (by (first | lia | omega))]
    exact hak _ (nth_mem (by (first | lia | omega)))
section
variable {h₀ : Heap} {mg mb : Str → Option Value} {H L N : Addr} {vs : List Value} {bs : List (Str × Value)} {w : World} {A : Around} {E : Value → Shared → Prop} {s : Shared} {f : Addr} {cd : Value} {outer : List Env}
theorem roundA {rest : List Stmt} {ys : List Value} {ns : List Int} {k : Nat} {tk tn : Tok} {Q : Flow → Shared → Prop} (G : Gd h₀ mg mb) (p : Fm h₀ L bs s.heap) (l0 : At bs "numbers" (.ref N)) (l1 : At bs "k" (.int (k : Nat) tk)) (l2 : At bs "heap" (.ref H)) (l3 : At bs "size" (.int vs.length tn))
    (hN : s.heap.IsList N ys.toArray) (iN : IntsAre ys ns) (hy : ys.length ≤ 100)
    (hH : s.heap.IsList H vs.toArray) (cs : Cs s.heap vs) (inj : Inj vs) (hq : Hq s.heap vs) (nH : ∀ v ∈ vs, v ≠ .ref H) (nb : ∀ b, Value.ref b ∈ vs → h₀.get? b = none) (h0 : 0 < vs.length) (hn : vs.length ≤ 100)
    (hh : A.handled = none) (hu : A.units + 200 < cLine) (hroom : A.depth + 2 < recursionLimit) (hfr : A.frames = some (lwEnv L f cd :: outer)) (hf : Frs s.heap outer) (hof : outer.filterMap (·.frame) = [])
    (hok : ∀ s' bs' js rs fs key Rd Bf Fs, Go s s' → Fm h₀ L bs' s'.heap → At bs' "raised" (.ref Rd) → At bs' "before" (.ref Bf) → At bs' "fresh" (.ref Fs) → (∀ (x : Str) v, x ∈ (["numbers", "heap", "size", "lists"] : List Str) → At bs x v → At bs' x v) →
      s'.heap.IsList Rd (List.toArray rs) → IntsAre rs (js.map fun (j : Nat) => (j : Int)) → rs.length ≤ 100 → (∀ j ∈ js, j < vs.length) → s'.heap.IsList Bf vs.toArray → s'.heap.IsList Fs (List.toArray fs) → s.heap.get? Rd = none → s.heap.get? Bf = none → s.heap.get? Fs = none →
      (∀ v ∈ vs, ∃ x, Pc s'.heap v x ∧ key v = some x) → (∀ v ∈ fs, Kd s'.heap key v) → (∀ v ∈ fs, v ≠ .ref H) →
      ((sweep (ltK key) (Rj js) vs.length vs).length = vs.length ∧ Hp key 0 (sweep (ltK key) (Rj js) vs.length vs) ∧ Inj (sweep (ltK key) (Rj js) vs.length vs) ∧ (∀ v ∈ sweep (ltK key) (Rj js) vs.length vs, v ∈ vs) ∧ Eqk key (sweep (ltK key) (Rj js) vs.length vs) fs ∧ (∀ i, i < vs.length → Nr (Rj js) i = false → nth (sweep (ltK key) (Rj js) vs.length vs) i = nth vs i)) →
      Ch (L :: cellsOf vs) s.heap s'.heap → wpAny (model pw w) A (execs rest (lwEnv L f cd)) Q E s') :
    wpAny (model pw w) A (execs (rdA ++ rest) (lwEnv L f cd)) Q E s := by
  have nl : ∀ b : Addr, b ∉ ([] : List Addr) := fun _ m => nomatch m
  have n0 : ∀ b ∈ ([] : List Addr), h₀.get? b = none := fun _ m => nomatch m
  have cL : ∀ v ∈ vs, v ≠ .ref L := fun v hv => by obtain ⟨x, hx⟩ := cs v hv; exact hx.nf p
  have hHL : H ≠ L := ls_nf hH p
  have hNL : N ≠ L := ls_nf hN p
  unfold rdA rdBody lwBody
  -- raised = []
  refine wpAny_execs_cons ?_
  refine wpAny_Assign_Name ?_
  refine List_ ?_
  refine args_nil ?_
  refine newL (by rw [sizeLine_eq]; simp) fun s₁ Rd g₁ hRd y₁ c₁ => ?_
  have sR : s.heap.get? Rd = none := get_none (by rw [hRd]; exact Nat.le_refl _)
  have p₁ := p.ch c₁ (nl _) n0
  have hRL : Rd ≠ L := p.nL sR
  refine Fm.st p₁ fun s₂ g₂ p₂ c₂ => ?_
  dsimp only
  have C₂ : Ch [L] s.heap s₂.heap := c₁.nil.trans c₂
  have R₂ := c₂.plain (not_mem_one hRL) y₁
  have one : ∀ v ∈ vs, ∀ b ∈ [L], v ≠ .ref b := fun v hv b m => by rw [List.mem_singleton.mp m]; exact cL v hv
  have cs₂ : Cs s₂.heap vs := fun v hv => by obtain ⟨x, hx⟩ := cs v hv; exact ⟨x, hx.ch C₂ (one v hv)⟩
  have nR : ∀ v ∈ vs, v ≠ .ref Rd := fun v hv => by obtain ⟨x, hx⟩ := cs v hv; exact hx.nn sR
  have hHR : H ≠ Rd := ls_nn hH sR
  have hq₂ := hq.ch C₂ one cs
  have g₂' : Go s s₂ := g₁.trans g₂
  clear g₁ g₂ c₁ c₂ p₁ y₁ hRd
  -- for x in numbers[k:k + 9]
  refine wpAny_execs_cons ?_
  refine raise_st (vs := vs) G p₂ (at_skip (by decide) l0) (at_skip (by decide) l1) (at_skip (by decide) l2) (at_skip (by decide) l3) rfl (C₂.isList (not_mem_one hNL) hN) iN hy (C₂.isList (not_mem_one hHL) hH) cs₂ inj R₂ nH nR hHR nb (p.b0 sR) h0 hn hh fun s₃ bs₃ js rs g₃ p₃ k₃ R₃ i₃ r₃ j₃ u₃ c₃ => ?_
  dsimp only
  have C₃ : Ch (L :: cellsOf vs) s.heap s₃.heap := (C₂.mono fun b m => by rw [List.mem_singleton.mp m]; simp).skip c₃ fun b m => by
    rcases List.mem_cons.mp m with q | q
    · exact .inl (by rw [q]; simp)
    · rcases List.mem_cons.mp q with q | q
      · exact .inr (by rw [q]; exact sR)
      · exact .inl (List.mem_cons_of_mem _ q)
  have hX : ∀ {b : Addr}, b ≠ L → Value.ref b ∉ vs → b ∉ L :: cellsOf vs := fun n1 n3 m => by
    rcases List.mem_cons.mp m with q | q
    · exact n1 q
    · exact n3 (mem_cells.mp q)
  have hHX : H ∉ L :: cellsOf vs := hX hHL fun m => nH _ m rfl
  have H₃ := C₃.isList hHX hH
  have cs₃ : Cs s₃.heap vs := u₃.cs cs₂
  have q₃ : ∀ (x : Str) v, x ∈ (["numbers", "heap", "size", "lists"] : List Str) → At bs x v → At bs₃ x v := fun x v m h => k₃ x v (by rintro rfl; revert m; decide) (at_skip (by rintro rfl; revert m; decide) h)
  have r₃' : At bs₃ "raised" (.ref Rd) := k₃ _ _ (by decide) rfl
  have g₃' : Go s s₃ := g₂'.trans g₃
  clear g₂' g₃ c₃ k₃ p₂ R₂
  -- before = heap[:]
  refine wpAny_execs_cons ?_
  refine wpAny_Assign_Name ?_
  refine copyAll ?_
  refine Fm.ld p₃ (q₃ _ _ (by decide) l2) ?_
  refine ⟨H, vs, rfl, H₃, by rw [sizeLine_eq]; (first | lia | omega), fun s₄ Bf g₄ hBf y₄ c₄ => ?_⟩
  have tB : s₃.heap.get? Bf = none := get_none (by rw [hBf]; exact Nat.le_succ _)
  have p₄ := p₃.ch c₄ (nl _) n0
  have hBL : Bf ≠ L := p₃.nL tB
  have nB : ∀ v ∈ vs, v ≠ .ref Bf := fun v hv => by obtain ⟨x, hx⟩ := cs₃ v hv; exact hx.nn tB
  have sB : s.heap.get? Bf = none := C₃.fresh tB (hX hBL fun m => nB _ m rfl)
  refine Fm.st p₄ fun s₅ g₅ p₅ c₅ => ?_
  dsimp only
  have c₅' : Ch [L] s₃.heap s₅.heap := c₄.nil.trans c₅
  have C₅ : Ch (L :: cellsOf vs) s.heap s₅.heap := C₃.trans (c₅'.mono fun b m => by rw [List.mem_singleton.mp m]; simp)
  have cs₅ : Cs s₅.heap vs := fun v hv => by obtain ⟨x, hx⟩ := cs₃ v hv; exact ⟨x, hx.ch c₅' (one v hv)⟩
  have B₅ := c₅.isList (not_mem_one hBL) y₄.isList
  have g₅' : Go s s₅ := (g₃'.trans g₄).trans g₅
  clear g₃' g₄ g₅ p₄ y₄ hBf
  -- fresh = [[entry[0]] for entry in heap]
  refine wpAny_execs_cons ?_
  refine fresh_st (vs := vs) p₅ (at_skip (by decide) (q₃ _ _ (by decide) l2)) (C₅.isList hHX hH) cs₅ hn hh fun Fs s₆ fs g₆ tF y₆ f1 f2 f3 f4 f5 p₆ c₆ => ?_
  dsimp only
  have C₆ : Ch (L :: cellsOf vs) s.heap s₆.heap := C₅.trans (c₆.mono fun b m => by rw [List.mem_singleton.mp m]; simp)
  have nF : ∀ v ∈ vs, v ≠ .ref Fs := fun v hv => by obtain ⟨x, hx⟩ := cs₅ v hv; exact hx.nn tF
  have hFL : Fs ≠ L := p₅.nL tF
  have sF : s.heap.get? Fs = none := C₅.fresh tF (hX hFL fun m => nF _ m rfl)
  have bF : h₀.get? Fs = none := p₅.b0 tF
  have kp : ∀ v x, v ∈ vs → Pc s₃.heap v x → keyOf s₆.heap v = some x := fun v x hv hx => keyOf_pc ((hx.ch c₅' (one v hv)).ch c₆ (one v hv))
  have cs₆ : ∀ v ∈ vs, ∃ x, Pc s₆.heap v x ∧ keyOf s₆.heap v = some x := fun v hv => by
    obtain ⟨x, hx⟩ := cs₅ v hv
    have := hx.ch c₆ (one v hv)
    exact ⟨x, this, keyOf_pc this⟩
  have f2' : ∀ i, i < vs.length → ∃ x, Pc s₆.heap (nth vs i) x ∧ Pc s₆.heap (nth fs i) x := fun i hi => by
    obtain ⟨x, h1, h2⟩ := f2 i hi
    exact ⟨x, h1.ch c₆ (one _ (nth_mem hi)), h2⟩
  have kf₆ : ∀ v ∈ fs, Kd s₆.heap (keyOf s₆.heap) v := fun v hv => by
    obtain ⟨i, hi, e⟩ := List.mem_iff_getElem.mp hv
    have en : nth fs i = v := by rw [← e]; simp [nth, hi]
    obtain ⟨x, _, h2⟩ := f2' i (by (first | lia | omega))
    rw [← en]; exact h2.kd
  have hak : AllK (keyOf s₆.heap) vs := fun v hv => by obtain ⟨x, _, e⟩ := cs₆ v hv; rw [e]; simp
  have hakf : AllK (keyOf s₆.heap) fs := fun v hv => (kf₆ v hv).key
  have PR := plain_round (key := keyOf s₆.heap) hq₂ cs₂ u₃ inj kp f1 (fun i hi => by
    obtain ⟨x, h1, h2⟩ := f2' i hi
    rw [keyOf_pc h1, keyOf_pc h2]) hak
  obtain ⟨z1, z2, z3, z4⟩ := hfy_all hakf f3
  have hfs₆ : Frs s₆.heap (lwEnv L f cd :: outer) := by
    obtain ⟨oL, es, ep, hL, hLd⟩ := p₆.frm
    exact ⟨rfl, ⟨L, oL, es, ep, rfl, hL, hLd⟩, hf.chg C₆ fun b _ q => by rw [hof] at q; cases q⟩
  -- heapify(fresh)
  obtain ⟨f1', o1, pm1, cd1, doc1, a1, a2, a3, a4⟩ := G.hy
  refine wpAny_execs_cons ?_
  refine wpAny_Expr ?_
  refine Call_ ?_
  refine globX G p₆.keep a1 ?_
  refine callWith_def a3 ?_
  refine args_cons ?_
  refine Fm.ld p₆ rfl ?_
  refine args_nil ⟨p₆.keep _ _ a2, ?_⟩
  refine wpAny_call (hy_call (key := keyOf s₆.heap) G p₆.keep p₆.sz a2 a3 a4 hroom y₆.isList bF (fun v hv => (kf₆ v hv).itm (f4 v hv)) hakf (by (first | lia | omega)) hh (by (first | lia | omega)) hfr hfs₆ fun s₇ g₇ l₇ k₇ => ?_)
  dsimp only
  have c₇ : Ch [Fs] s₆.heap s₇.heap := fun b o n e => k₇ b o (fun q => n (by rw [q]; simp)) e
  have hRF : Rd ≠ Fs := by
    have R₅ := c₅'.isList (not_mem_one hRL) R₃.isList
    exact ls_nn R₅ tF
  have hBF : Bf ≠ Fs := ls_nn B₅ tF
  refine hok s₇ _ js rs _ (keyOf s₆.heap) Rd Bf Fs ((g₅'.trans g₆).trans g₇) (p₆.ch c₇ (not_mem_one (Ne.symm hFL)) fun b m => by rw [List.mem_singleton.mp m]; exact bF) (at_skip (by decide) (at_skip (by decide) r₃')) (at_skip (by decide) rfl) rfl
    (fun x v m h => at_skip (by rintro rfl; revert m; decide) (at_skip (by rintro rfl; revert m; decide) (q₃ x v m h))) (c₇.isList (not_mem_one hRF) (c₆.isList (not_mem_one hRL) (c₅'.isList (not_mem_one hRL) R₃.isList))) i₃ r₃ j₃ (c₇.isList (not_mem_one hBF) (c₆.isList (not_mem_one hBL) B₅)) l₇ sR sB sF (fun v hv => ?_) (fun v hv => ?_) (fun v hv e => ?_) PR (C₆.skip c₇ fun b m => .inr (by rw [List.mem_singleton.mp m]; exact sF))
  · obtain ⟨x, h1, h2⟩ := cs₆ v hv
    exact ⟨x, h1.ch c₇ (fun b m => by rw [List.mem_singleton.mp m]; exact nF v hv), h2⟩
  · exact (kf₆ v (z2 v hv)).ch c₇ fun b m => by rw [List.mem_singleton.mp m]; exact f4 v (z2 v hv)
  · subst e
    have H₅ := C₅.isList hHX hH
    exact ls_nn H₅ (f5 H (z2 _ hv)) rfl
end
end Mine
end PartL10
section PartL11
set_option maxHeartbeats 400000
namespace Mine
section
variable {h₀ : Heap} {mg mb : Str → Option Value} {H L N : Addr} {vs : List Value} {bs : List (Str × Value)} {w : World} {A : Around} {E : Value → Shared → Prop} {s : Shared} {f : Addr} {cd : Value} {outer : List Env}
theorem round_st {ys : List Value} {ns : List Int} {k : Nat} {tk tn : Tok} {Q : Flow → Shared → Prop} (G : Gd h₀ mg mb) (p : Fm h₀ L bs s.heap) (l0 : At bs "numbers" (.ref N)) (l1 : At bs "k" (.int (k : Nat) tk)) (l2 : At bs "heap" (.ref H)) (l3 : At bs "size" (.int vs.length tn))
    (hN : s.heap.IsList N ys.toArray) (iN : IntsAre ys ns) (hy : ys.length ≤ 100)
    (hH : s.heap.IsList H vs.toArray) (cs : Cs s.heap vs) (inj : Inj vs) (hq : Hq s.heap vs) (nH : ∀ v ∈ vs, v ≠ .ref H) (nHb : h₀.get? H = none) (nb : ∀ b, Value.ref b ∈ vs → h₀.get? b = none) (h0 : 0 < vs.length) (hn : vs.length ≤ 100)
    (hh : A.handled = none) (hu : A.units + 200 < cLine) (hroom : A.depth + 2 < recursionLimit) (hfr : A.frames = some (lwEnv L f cd :: outer)) (hf : Frs s.heap outer) (hof : outer.filterMap (·.frame) = [])
    (hok : ∀ s' bs' us, Gx s s' → Fm h₀ L bs' s'.heap → (∀ (x : Str) v, x ∈ (["numbers", "heap", "size", "lists"] : List Str) → At bs x v → At bs' x v) → s'.heap.IsList H (List.toArray us) → us.length = vs.length → Cs s'.heap us → Inj us → (∀ v ∈ us, v ∈ vs) → Hq s'.heap us → Ch (L :: H :: cellsOf vs) s.heap s'.heap → Q .next s') :
    wpAny (model pw w) A (execs rdBody (lwEnv L f cd)) Q E s := by
  have cL : ∀ v ∈ vs, v ≠ .ref L := fun v hv => by obtain ⟨x, hx⟩ := cs v hv; exact hx.nf p
  have hHL : H ≠ L := ls_nf hH p
  show wpAny (model pw w) A (execs (rdA ++ rdB) (lwEnv L f cd)) Q E s
  refine roundA (rest := rdB) G p l0 l1 l2 l3 hN iN hy hH cs inj hq nH nb h0 hn hh hu hroom hfr hf hof fun s₁ bs₁ js rs fs key Rd Bf Fs g₁ p₁ a1 a2 a3 k₁ R₁ i₁ r₁ j₁ B₁ F₁ sR sB sF pcs kf nfH PR C₁ => ?_
  obtain ⟨z1, z2, z3, z4, z5, z6⟩ := PR
  have hHX : H ∉ L :: cellsOf vs := fun m => by
    rcases List.mem_cons.mp m with q | q
    · exact hHL q
    · exact nH _ (mem_cells.mp q) rfl
  have kd₁ : ∀ v ∈ vs, Kd s₁.heap key v := fun v hv => by
    obtain ⟨x, ⟨a, t, e, l⟩, h2⟩ := pcs v hv
    exact ⟨a, x, t, e, h2, l.isList⟩
  have vX : ∀ v ∈ vs, ∀ b ∈ [L, H], v ≠ .ref b := fun v hv b m => by
    rcases List.mem_cons.mp m with q | q
    · rw [q]; exact cL v hv
    · rw [List.mem_singleton.mp q]; exact nH v hv
  have hRL : Rd ≠ L := p.nL sR
  have hBL : Bf ≠ L := p.nL sB
  have hFL : Fs ≠ L := p.nL sF
  have hRH : Rd ≠ H := Ne.symm (ls_nn hH sR)
  have hBH : Bf ≠ H := Ne.symm (ls_nn hH sB)
  have hFH : Fs ≠ H := Ne.symm (ls_nn hH sF)
  unfold rdB rdBody lwBody
  -- the calls of _siftup
  refine wpAny_execs_cons ?_
  refine sift_st (key := key) (vs := vs) (js := js) (rs := rs) G p₁ (k₁ _ _ (by decide) l2) a1 (C₁.isList hHX hH) R₁ i₁ r₁ j₁ kd₁ nH nHb hn hh hu hroom hfr (hf.chg C₁ fun b _ q => by rw [hof] at q; cases q) hof fun s₂ bs₂ g₂ p₂ k₂ H₂ c₂ => ?_
  dsimp only
  generalize sweep (ltK key) (Rj js) vs.length vs = us at *
  have C₂ : Ch (L :: H :: cellsOf vs) s.heap s₂.heap := (C₁.mono fun b m => by
      rcases List.mem_cons.mp m with q | q
      · rw [q]; simp
      · exact List.mem_cons_of_mem _ (List.mem_cons_of_mem _ q)).trans (c₂.mono fun b m => by
      rcases List.mem_cons.mp m with q | q
      · rw [q]; simp
      · rw [List.mem_singleton.mp q]; simp)
  have pcs₂ : ∀ v ∈ vs, ∃ x, Pc s₂.heap v x ∧ key v = some x := fun v hv => by
    obtain ⟨x, h1, h2⟩ := pcs v hv
    exact ⟨x, h1.ch c₂ (vX v hv), h2⟩
  have fX : ∀ v ∈ fs, ∀ b ∈ [L, H], v ≠ .ref b := fun v hv b m => by
    rcases List.mem_cons.mp m with q | q
    · rw [q]; exact (kf v hv).nf p₁
    · rw [List.mem_singleton.mp q]
      exact nfH v hv
  have kf₂ : ∀ v ∈ fs, Kd s₂.heap key v := fun v hv => (kf v hv).ch c₂ (fX v hv)
  have R₂ := c₂.isList (two_not hRL hRH) R₁
  have B₂ := c₂.isList (two_not hBL hBH) B₁
  have F₂ := c₂.isList (two_not hFL hFH) F₁
  have q₂ : ∀ (x : Str) v, x ∈ (["numbers", "heap", "size", "lists"] : List Str) → At bs x v → At bs₂ x v := fun x v m h => k₂ x v (by rintro rfl; revert m; decide) (k₁ x v m h)
  have b1 := k₂ _ _ (by decide) a1
  have b2 := k₂ _ _ (by decide) a2
  have b3 := k₂ _ _ (by decide) a3
  have g₂' : Gx s s₂ := g₁.x.trans g₂
  clear c₂ k₂ k₁ a1 a2 a3 R₁ B₁ F₁ kf pcs kd₁ p₁ g₁ g₂ vX fX C₁
  -- near = [False] * size
  refine wpAny_execs_cons ?_
  refine near_st (n := vs.length) p₂ (q₂ _ _ (by decide) l3) hn fun Nl s₃ g₃ tN N₃ p₃ c₃ => ?_
  dsimp only
  have hNL : Nl ≠ L := p₂.nL tN
  have hHN : H ≠ Nl := ls_nn H₂ tN
  have hRN : Rd ≠ Nl := ls_nn R₂ tN
  have hBN : Bf ≠ Nl := ls_nn B₂ tN
  have hFN : Fs ≠ Nl := ls_nn F₂ tN
  have vN : ∀ v ∈ vs, v ≠ .ref Nl := fun v hv => by obtain ⟨x, h1, _⟩ := pcs₂ v hv; exact h1.nn tN
  have fN : ∀ v ∈ fs, v ≠ .ref Nl := fun v hv => (kf₂ v hv).nn tN
  have sN : s.heap.get? Nl = none := C₂.fresh tN fun m => by
    rcases List.mem_cons.mp m with q | q
    · exact hNL q
    · rcases List.mem_cons.mp q with q | q
      · exact hHN q.symm
      · exact vN _ (mem_cells.mp q) rfl
  have oneV : ∀ v ∈ vs, ∀ b ∈ [L], v ≠ .ref b := fun v hv b m => by rw [List.mem_singleton.mp m]; exact cL v hv
  have oneF : ∀ v ∈ fs, ∀ b ∈ [L], v ≠ .ref b := fun v hv b m => by rw [List.mem_singleton.mp m]; exact (kf₂ v hv).nf p₂
  have pcs₃ : ∀ v ∈ vs, ∃ x, Pc s₃.heap v x ∧ key v = some x := fun v hv => by
    obtain ⟨x, h1, h2⟩ := pcs₂ v hv
    exact ⟨x, h1.ch c₃ (oneV v hv), h2⟩
  have kd₃ : ∀ v ∈ vs, Kd s₃.heap key v := fun v hv => by
    obtain ⟨x, ⟨a, t, e, l⟩, h2⟩ := pcs₃ v hv
    exact ⟨a, x, t, e, h2, l.isList⟩
  have H₃ := c₃.isList (not_mem_one hHL) H₂
  have F₃ := c₃.isList (not_mem_one hFL) F₂
  have C₃ : Ch (L :: H :: cellsOf vs) s.heap s₃.heap := C₂.trans (c₃.mono fun b m => by rw [List.mem_singleton.mp m]; simp)
  -- the check
  refine wpAny_execs_cons ?_
  refine check_st (vs := vs) (us := us) (rs := rs) (js := js) (key := key) G p₃ (at_skip (by decide) (q₂ _ _ (by decide) l3)) (at_skip (by decide) (q₂ _ _ (by decide) l2)) (at_skip (by decide) b2) (at_skip (by decide) b1) rfl
    H₃ (c₃.isList (not_mem_one hBL) B₂) (c₃.isList (not_mem_one hRL) R₂) i₁ N₃ hHN hBN hRN (p₂.b0 tN) (fun v hv => vN v (z4 v hv)) vN z1 hn (fun v hv => kd₃ v (z4 v hv)) (fun v hv => (kd₃ v hv).at) z2 z6 (by (first | lia | omega)) hh fun s₄ bs₄ g₄ p₄ k₄ c₄ => ?_
  dsimp only
  have twoV : ∀ v ∈ vs, ∀ b ∈ [L, Nl], v ≠ .ref b := fun v hv b m => by
    rcases List.mem_cons.mp m with q | q
    · rw [q]; exact cL v hv
    · rw [List.mem_singleton.mp q]; exact vN v hv
  have twoF : ∀ v ∈ fs, ∀ b ∈ [L, Nl], v ≠ .ref b := fun v hv b m => by
    rcases List.mem_cons.mp m with q | q
    · rw [q]; exact (kf₂ v hv).nf p₂
    · rw [List.mem_singleton.mp q]; exact fN v hv
  have pcs₄ : ∀ v ∈ vs, ∃ x, Pc s₄.heap v x ∧ key v = some x := fun v hv => by
    obtain ⟨x, h1, h2⟩ := pcs₃ v hv
    exact ⟨x, h1.ch c₄ (twoV v hv), h2⟩
  have H₄ := c₄.isList (two_not hHL hHN) H₃
  have q₄ : ∀ (x : Str) v, x ∈ (["numbers", "heap", "size", "lists"] : List Str) → At bs x v → At bs₄ x v := fun x v m h => k₄ x v (by rintro rfl; revert m; decide) (by rintro rfl; revert m; decide) (at_skip (by rintro rfl; revert m; decide) (q₂ x v m h))
  -- heap != fresh
  refine wpAny_execs_cons ?_
  refine diff_st (us := us) (fs := fs) (key := key) p₄ (q₄ _ _ (by decide) l2) (k₄ _ _ (by decide) (by decide) (at_skip (by decide) b3)) H₄ (c₄.isList (two_not hFL hFN) F₃) (fun v hv => (kd₃ v (z4 v hv)).ch c₄ (twoV v (z4 v hv))) (fun v hv => ((kf₂ v hv).ch c₃ (oneF v hv)).ch c₄ (twoF v hv)) z5 (by (first | lia | omega)) ?_
  dsimp only
  refine wpAny_execs_nil ?_
  have fit : ∀ v x, v ∈ us → Pc s₄.heap v x → key v = some x := fun v x hv hx => by
    obtain ⟨y, h1, h2⟩ := pcs₄ v (z4 v hv)
    rw [h2, hx.uniq h1]
  refine hok s₄ bs₄ us (g₂'.trans (g₃.trans g₄).x) p₄ q₄ H₄ z1 (fun v hv => by obtain ⟨x, h1, _⟩ := pcs₄ v (z4 v hv); exact ⟨x, h1⟩) z3 z4 (fun k k0 kl x y hx hy => ?_) (C₃.skip c₄ fun b m => ?_)
  · exact key_le (z2 k k0 kl (Nat.zero_le _)) (fit _ _ (nth_mem kl) hx) (fit _ _ (nth_mem (by (first | lia | omega))) hy)
  · rcases List.mem_cons.mp m with q | q
    · exact .inl (by rw [q]; simp)
    · exact .inr (by rw [List.mem_singleton.mp q]; exact sN)
end
end Mine
end PartL11
section PartL12
set_option maxHeartbeats 400000
namespace Mine
def lwMark : Stmt := match lwBody with | _ :: _ :: _ :: _ :: _ :: _ :: a :: _ => a | _ => .Pass default
def lwRet : Stmt := match lwBody with | _ :: _ :: _ :: _ :: _ :: _ :: _ :: a :: _ => a | _ => .Pass default
theorem perm_sub {α : Type} [DecidableEq α] : ∀ (l m : List α), l.Nodup → l.length = m.length → (∀ a ∈ l, a ∈ m) → l.Perm m
  | [], m, _, e, _ => by
    have : m = [] := List.eq_nil_of_length_eq_zero (by simpa using e.symm)
    rw [this]
  | a :: l, m, hn, e, h => by
    obtain ⟨h1, h2⟩ := List.nodup_cons.mp hn
    have hp := List.perm_cons_erase (h a List.mem_cons_self)
    have ih := perm_sub l (m.erase a) h2 (by rw [List.length_erase_of_mem (h a List.mem_cons_self)]; simp at e; (first | lia | omega)) fun b hb => by
      have hne : b ≠ a := fun q => h1 (by rw [← q]; exact hb)
      exact (List.mem_erase_of_ne hne).mpr (h b (List.mem_cons_of_mem _ hb))
    exact (ih.cons a).trans hp.symm
theorem perm_of_inj {vs us : List Value} (hi : Inj vs) (e : vs.length = us.length) (h : ∀ v ∈ vs, v ∈ us) : vs.Perm us := by
  classical
  have hn : vs.Nodup := by
    rw [List.Nodup, List.pairwise_iff_getElem]
    intro i j h1 h2 hij q
    have ei : nth vs i = vs[i] := by simp [nth, h1]
    have ej : nth vs j = vs[j] := by simp [nth, h2]
    have := hi i j h1 h2 (by rw [ei, ej, q])
    (first | lia | omega)
  exact @perm_sub Value (fun a b => Classical.propDecidable (a = b)) vs us hn e h
section
variable {h₀ : Heap} {mg mb : Str → Option Value} {H L Ls : Addr} {vs us : List Value} {bs : List (Str × Value)} {w : World} {A : Around} {E : Value → Shared → Prop} {s : Shared} {f : Addr} {cd : Value} {outer : List Env}
theorem mark_st {tn : Tok} {Q : Flow → Shared → Prop} (G : Gd h₀ mg mb) (p : Fm h₀ L bs s.heap) (l1 : At bs "size" (.int us.length tn)) (l2 : At bs "lists" (.ref Ls))
    (hL : s.heap.IsList Ls us.toArray) (cs : Cs s.heap us) (inj : Inj us) (nL : ∀ v ∈ us, v ≠ .ref Ls) (nb : ∀ b, Value.ref b ∈ us → h₀.get? b = none) (hn : us.length ≤ 100) (hh : A.handled = none)
    (hok : ∀ s' bs', Go s s' → Fm h₀ L bs' s'.heap → (∀ (x : Str) v, x ≠ "k" → At bs x v → At bs' x v) → (∀ i, i < us.length → ∃ a x t, nth us i = .ref a ∧ s'.heap.PlainList a #[x, .int ((i : Nat) : Int) t]) → Ch (L :: cellsOf us) s.heap s'.heap → Q .next s') :
    wpAny (model pw w) A (exec lwMark (lwEnv L f cd)) Q E s := by
  have nl : ∀ b : Addr, b ∉ ([] : List Addr) := fun _ m => nomatch m
  have n0 : ∀ b ∈ ([] : List Addr), h₀.get? b = none := fun _ m => nomatch m
  unfold lwMark lwBody
  refine wpAny_For ?_
  refine Call_ ?_
  refine bltX G p.keep PyProof.Rows.boot_range ?_
  refine PyProof.Rows.callWith_type1 ?_
  refine args_cons ?_
  refine Fm.ld p l1 ?_
  refine args_nil ?_
  refine rng1 us.length rfl fun s₁ r tr ur vr g₁ hr c₁ => ?_
  refine range_iter hr (by (first | lia | omega)) fun s₂ g₂ c₂ hz₂ hit => ?_
  have C₂ : Ch [] s.heap s₂.heap := c₁.trans c₂
  have sI : s.heap.get? s₁.heap.objs.size = none := Ch.fresh c₁ (get_none (Nat.le_refl _)) (nl _)
  generalize s₁.heap.objs.size = I at *
  have hIL : I ≠ L := p.nL sI
  have bI : h₀.get? I = none := p.b0 sI
  have cL : ∀ v ∈ us, v ≠ .ref L := fun v hv => by obtain ⟨x, hx⟩ := cs v hv; exact hx.nf p
  have cI : ∀ v ∈ us, v ≠ .ref I := fun v hv => by obtain ⟨x, hx⟩ := cs v hv; exact hx.nn sI
  have hLX : Ls ∉ L :: cellsOf us := fun m => by
    rcases List.mem_cons.mp m with q | q
    · exact ls_nf hL p q
    · exact nL _ (mem_cells.mp q) rfl
  refine for_rule (walks_range hh I 0 us.length) (fun i s' => ∃ bs', Go s s' ∧ Fm h₀ L bs' s'.heap ∧ (∀ (x : Str) v, x ≠ "k" → At bs x v → At bs' x v) ∧ (∀ j, j < i → ∃ a x t, nth us j = .ref a ∧ s'.heap.PlainList a #[x, .int ((j : Nat) : Int) t]) ∧ (∀ j, i ≤ j → j < us.length → ∃ x, Pc s'.heap (nth us j) x) ∧
    i ≤ us.length ∧ IsRangeIter s'.heap I (((0 : Nat) : Int) + (i : Nat) * 1) ((us.length : Int) - (i : Nat)) 1 ∧ Ch (L :: cellsOf us) s.heap s'.heap) ?_ ?_ ?_ ?_
  · rintro i s' ⟨_, _, _, _, _, _, h1, h2, _⟩
    exact ⟨h1, h2⟩
  · rintro i v s₃ h' tk ⟨bs₃, g₃, p₃, k₃, d₃, e₃, hi3, _, C₃⟩ hi ⟨_, t', rfl⟩ hS hkp
    have c₄ : Ch [I] s₃.heap h' := hkp
    have p₄ := p₃.ch c₄ (not_mem_one (Ne.symm hIL)) (fun b m => by rw [List.mem_singleton.mp m]; exact bI)
    refine Fm.st (s := { s₃ with heap := h', toks := tk }) p₄ fun s₅ g₅ p₅ c₅ => ?_
    have c₅' : Ch [L] h' s₅.heap := c₅
    have C₅ : Ch (L :: cellsOf us) s.heap s₅.heap := (C₃.skip c₄ fun b m => .inr (by rw [List.mem_singleton.mp m]; exact sI)).skip c₅' fun b m => .inl (by rw [List.mem_singleton.mp m]; simp)
    have one4 : ∀ v ∈ us, ∀ b ∈ [I], v ≠ .ref b := fun v hv b m => by rw [List.mem_singleton.mp m]; exact cI v hv
    have one5 : ∀ v ∈ us, ∀ b ∈ [L], v ≠ .ref b := fun v hv b m => by rw [List.mem_singleton.mp m]; exact cL v hv
    obtain ⟨x, hx⟩ := e₃ i (Nat.le_refl _) hi
    obtain ⟨a, t, ea, la⟩ := (hx.ch c₄ (one4 _ (nth_mem hi))).ch c₅' (one5 _ (nth_mem hi))
    have ma : Value.ref a ∈ us := by rw [← ea]; exact nth_mem hi
    have naI : I ≠ a := fun q => cI _ ma (by rw [q])
    have naL : L ≠ a := fun q => cL _ ma (by rw [q])
    refine wpAny_execs_cons ?_
    refine wpAny_Expr ?_
    refine wpAny_Call_append (by rfl) (by rfl) (by rfl) (by rfl) ?_
    refine Subscript_ ?_
    refine Fm.ld p₅ (at_skip (by decide) (k₃ _ _ (by decide) l2)) ?_
    refine Fm.ld p₅ rfl ?_
    refine getAt (C₅.isList hLX hL) (by (first | lia | omega)) (by (first | lia | omega)) (by (first | lia | omega)) ?_
    rw [Nat.zero_add, Int.toNat_natCast, ea]
    refine ⟨a, _, rfl, plainL_of la, ?_⟩
    refine Fm.ld p₅ rfl ?_
    refine wpAny_list_append_plain (hsz := by rw [sizeLine_eq]; simp) la fun h₆ l₆ hs₆ => ?_
    have c₆ : Ch [a] s₅.heap h₆ := Ch.one hs₆
    dsimp only
    refine wpAny_execs_nil ?_
    dsimp only
    have other : ∀ j, j < us.length → j ≠ i → ∀ b ∈ [a], nth us j ≠ .ref b := fun j hj hne b m => by
      rw [List.mem_singleton.mp m, ← ea]
      exact fun e => hne (inj j i hj hi e)
    refine ⟨_, g₃.trans (Go.trans ⟨_, _, rfl⟩ (g₅.trans ⟨_, _, rfl⟩)), p₅.ch c₆ (not_mem_one naL) (fun b m => by rw [List.mem_singleton.mp m]; exact nb a ma), fun x v n h => at_skip n (k₃ x v n h), fun j hj => ?_, fun j h1 h2 => ?_, hS.1, c₆ I _ (not_mem_one naI) (c₅' I _ (not_mem_one hIL) hS.2), C₅.skip c₆ fun b m => .inl (by rw [List.mem_singleton.mp m]; exact List.mem_cons_of_mem _ (mem_cells.mpr ma))⟩
    · by_cases q : j = i
      · subst q
        refine ⟨a, .int x t, t', ea, ?_⟩
        simpa using l₆
      · obtain ⟨b, y, u, eb, lb⟩ := d₃ j (by (first | lia | omega))
        have mb : Value.ref b ∈ us := by rw [← eb]; exact nth_mem (by (first | lia | omega))
        exact ⟨b, y, u, eb, c₆.plain (fun m => other j (by (first | lia | omega)) q b m eb) (c₅'.plain (fun m => one5 _ mb b m rfl) (c₄.plain (fun m => one4 _ mb b m rfl) lb))⟩
    · obtain ⟨y, hy⟩ := e₃ j (by (first | lia | omega)) h2
      exact ⟨y, ((hy.ch c₄ (one4 _ (nth_mem h2))).ch c₅' (one5 _ (nth_mem h2))).ch c₆ (other j h2 (by (first | lia | omega)))⟩
  · rintro s₃ h' tk ⟨bs₃, g₃, p₃, k₃, d₃, e₃, hi3, _, C₃⟩ hkp
    have c₄ : Ch [I] s₃.heap h' := hkp
    refine wpAny_execs_nil ?_
    refine hok _ bs₃ (g₃.trans ⟨_, _, rfl⟩) (p₃.ch c₄ (not_mem_one (Ne.symm hIL)) (fun b m => by rw [List.mem_singleton.mp m]; exact bI)) k₃ (fun j hj => ?_) (C₃.skip c₄ fun b m => .inr (by rw [List.mem_singleton.mp m]; exact sI))
    obtain ⟨b, y, u, eb, lb⟩ := d₃ j hj
    have mb : Value.ref b ∈ us := by rw [← eb]; exact nth_mem hj
    exact ⟨b, y, u, eb, c₄.plain (not_mem_one fun q => cI _ mb (by rw [q])) lb⟩
  · exact ⟨bs, g₁.trans g₂, p.ch C₂ (nl _) n0, fun _ _ _ h => h, fun j hj => absurd hj (Nat.not_lt_zero _), fun j _ h => by obtain ⟨x, hx⟩ := cs _ (nth_mem h); exact ⟨x, hx.ch C₂ (fun _ m => nomatch m)⟩, Nat.zero_le _, hit, C₂.nil⟩
end
end Mine
end PartL12
section PartL13
set_option maxHeartbeats 400000
namespace Mine
/-- a list of two, its last number -/
def Lc (h : Heap) (v : Value) (i : Int) : Prop := ∃ a x t, v = .ref a ∧ h.PlainList a #[x, .int i t]
theorem Lc.uniq {h : Heap} {v : Value} {i j : Int} (p : Lc h v i) (q : Lc h v j) : i = j := by
  obtain ⟨a, x, t, rfl, n, e⟩ := p
  obtain ⟨b, y, u, e', m, e2⟩ := q
  cases e'
  rw [e] at e2
  injection e2 with e1
  injection e1 with _ _ e2
  injection e2 with e3
  have := congrArg (fun z => z[1]?) e3
  simp at this
  exact this.1
theorem paired_lc {h : Heap} : ∀ {l r : List Value}, Paired (fun v y => ∃ i t, Lc h v i ∧ y = .int i t) l r → ∃ ns, IntsAre r ns ∧ Paired (Lc h) l ns
  | _, _, .nil => ⟨[], .nil, .nil⟩
  | _, _, .cons ⟨n, t, hl, e⟩ q => by
    obtain ⟨ns, i, h⟩ := paired_lc q
    subst e
    exact ⟨n :: ns, .cons n t i, .cons hl h⟩
theorem paired_map {α : Type} {R : Value → α → Prop} {g : Value → α} (hg : ∀ v i, R v i → g v = i) : ∀ {l : List Value} {r : List α}, Paired R l r → r = l.map g
  | _, _, .nil => rfl
  | _, _, .cons h t => by rw [List.map_cons, hg _ _ h, ← paired_map hg t]
theorem nums_perm {h : Heap} {vs us : List Value} {ns : List Int} (hp : vs.Perm us) (hv : Paired (Lc h) vs ns) (hu : ∀ i, i < us.length → Lc h (nth us i) ((i : Nat) : Int)) : ns.Perm ((List.range us.length).map fun (i : Nat) => (i : Int)) := by
  classical
  let g : Value → Int := fun v => if q : ∃ i, Lc h v i then q.choose else 0
  have hg : ∀ v i, Lc h v i → g v = i := fun v i l => by
    have q : ∃ i, Lc h v i := ⟨i, l⟩
    show (if q : ∃ i, Lc h v i then q.choose else 0) = i
    rw [dif_pos q]
    exact q.choose_spec.uniq l
  have e1 := paired_map hg hv
  have e2 : us.map g = (List.range us.length).map fun (i : Nat) => (i : Int) := by
    apply List.ext_getElem
    · simp
    · intro i h1 h2
      have hi : i < us.length := by simpa using h1
      have := hg _ _ (hu i hi)
      simp [nth, hi] at this
      simp [this]
  rw [e1, ← e2]
  exact hp.map g
theorem range_sorted {ns' : List Int} {n : Nat} (hp : ns'.Perm ((List.range n).map fun (i : Nat) => (i : Int))) (hs : ns'.Pairwise (· ≤ ·)) : ns' = (List.range n).map fun (i : Nat) => (i : Int) := by
  refine List.Perm.eq_of_pairwise (le := (· ≤ ·)) (fun x y _ _ h1 h2 => by (first | lia | omega)) hs ?_ hp
  rw [List.pairwise_map]
  exact List.pairwise_lt_range.imp fun h => by (first | lia | omega)
theorem canLay_ints : ∀ ns : List Int, PyData.canLayAll0 (ns.map PyData.int) = true
  | [] => rfl
  | n :: ns => by simp [PyData.canLayAll0, PyData.canLay0, canLay_ints ns]
theorem depth_ints : ∀ ns : List Int, PyData.depthAll (ns.map PyData.int) = 0
  | [] => rfl
  | n :: ns => by simp [PyData.depthAll, PyData.depth, depth_ints ns]
theorem ints_range : ∀ (n a : Nat) (vs : List Value), vs.length = n → (∀ (j : Nat) v, vs[j]? = some v → ∃ t, v = .int (((a + j : Nat)) : Int) t) → IntsAre vs ((List.range n).map fun (i : Nat) => ((a + i : Nat) : Int))
  | 0, a, vs, hl, _ => by
    have : vs = [] := List.eq_nil_of_length_eq_zero hl
    subst this; exact .nil
  | n + 1, a, vs, hl, h => by
    match vs, hl with
    | v :: r, hl =>
      obtain ⟨t, rfl⟩ := h 0 v rfl
      have ih := ints_range n (a + 1) r (by simpa using hl) (fun j v hj => by
        obtain ⟨t, e⟩ := h (j + 1) v (by simpa using hj)
        exact ⟨t, by rw [e]; congr 2; (first | lia | omega)⟩)
      rw [List.range_succ_eq_map, List.map_cons, List.map_map]
      refine .cons _ _ ?_
      have e : (fun (i : Nat) => ((a + i : Nat) : Int)) ∘ Nat.succ = fun (i : Nat) => ((a + 1 + i : Nat) : Int) := by
        funext i; simp only [Function.comp]; congr 1; (first | lia | omega)
      rw [e]; exact ih
section
variable {h₀ : Heap} {mg mb : Str → Option Value} {H L : Addr} {vs us : List Value} {bs : List (Str × Value)} {w : World} {A : Around} {E : Value → Shared → Prop} {s : Shared} {f : Addr} {cd : Value} {outer : List Env}
theorem ret_st {tn : Tok} {Q : Flow → Shared → Prop} (G : Gd h₀ mg mb) (p : Fm h₀ L bs s.heap) (l1 : At bs "size" (.int us.length tn)) (l2 : At bs "heap" (.ref H))
    (hH : s.heap.IsList H vs.toArray) (hp : vs.Perm us) (hm : ∀ i, i < us.length → Lc s.heap (nth us i) ((i : Nat) : Int)) (hn : us.length ≤ 100) (hh : A.handled = none) (hu : A.units + 200 < cLine)
    (hok : ∀ s', Go s s' → (∀ b o, h₀.get? b = some o → s'.heap.get? b = some o) → Q (.ret (.bool true)) s') :
    wpAny (model pw w) A (exec lwRet (lwEnv L f cd)) Q E s := by
  have nl : ∀ b : Addr, b ∉ ([] : List Addr) := fun _ m => nomatch m
  have n0 : ∀ b ∈ ([] : List Addr), h₀.get? b = none := fun _ m => nomatch m
  have hvl : vs.length = us.length := hp.length_eq
  have lc : ∀ v ∈ vs, ∃ i, Lc s.heap v i := fun v hv => by
    obtain ⟨i, hi, e⟩ := List.mem_iff_getElem.mp (hp.mem_iff.mp hv)
    have en : nth us i = v := by rw [← e]; simp [nth, hi]
    exact ⟨_, by rw [← en]; exact hm i hi⟩
  unfold lwRet lwBody
  refine wpAny_Return_some ?_
  refine wpAny_Compare1 ?_
  refine Call_ ?_
  refine bltX G p.keep boot_sorted ?_
  refine PyProof.Rows.callWith_builtin1 ?_
  refine args_cons ?_
  refine wpAny_ListComp_free (fun _ => true) (fun v y => ∃ i t, Lc s.heap v i ∧ y = .int i t) (cl := []) rfl (by decide) rfl (by decide) rfl ?_ (by intro _; rfl)
  refine Fm.ld p l2 ?_
  refine iter_list hH fun s₁ I g₁ sI hHI hit hH₁ c₁ => ?_
  have hIs : I < s₁.heap.objs.size := by obtain ⟨o, e, _⟩ := hit; exact Heap.lt_size e
  refine ⟨_, _, _, _, _, _, rfl, Walks.list (prog := pw) (w := w) hh I H hHI vs.toArray, by rw [List.size_toArray, sizeLine_eq]; (first | lia | omega), ⟨hit, hH₁⟩, ?_, ⟨?_, ?_⟩, ?_⟩
  · intro b m
    rcases List.mem_cons.mp m with q | q
    · rw [q]; exact hIs
    · rw [List.mem_singleton.mp q]; exact sizeOf_list hH₁
  · intro C i v s₄ m₄ E' hC hv hns hm hkp _
    exact wpAny_tests_nil ⟨rfl, ⟨_, _, rfl, fun _ _ e => e⟩⟩
  · intro C i v s₄ m₄ E' hC hv _ hns hm hkp _
    have hv' : vs[i]? = some v := by simpa using hv
    obtain ⟨j, a, x, t, rfl, la⟩ := lc v (List.mem_of_getElem? hv')
    have la₄ : s₄.heap.PlainList a #[x, .int j t] := la.at fun o e => hkp a o (not_mem_one fun q => by rw [q, sI] at e; cases e) (c₁ a o (nl _) e)
    refine Subscript_ ?_
    refine ldE hns hm ?_
    refine UnaryOp_ ?_
    refine wpAny_Constant_int ?_
    refine PyProof.Rows.neg_int ?_
    refine getLast (s := Shared.mk _ _ _ _ _) (vs := [x]) (v := .int j t) la₄.isList ?_
    exact ⟨⟨j, t, ⟨a, x, t, rfl, la⟩, rfl⟩, _, _, rfl, fun _ _ e => e⟩
  · intro D h' tk ys ws hD hlD hplD hlen hP hF hkp
    have hft : ws.filter (fun _ => true) = ws := List.filter_eq_self.mpr fun _ _ => rfl
    have hws : ws = vs := by
      apply List.ext_getElem?
      intro j
      by_cases hj : j < ws.length
      · have := hP j ws[j] (List.getElem?_eq_getElem hj)
        rw [List.getElem?_eq_getElem hj]
        simpa using this.symm
      · rw [List.getElem?_eq_none (by (first | lia | omega)), List.getElem?_eq_none (by rw [List.size_toArray] at hlen; (first | lia | omega))]
    rw [hft, hws] at hF
    obtain ⟨ns, hI, hPr⟩ := paired_lc hF
    have hperm := nums_perm hp hPr hm
    have c₂ : Ch [] s.heap h' := fun b o _ e => hkp b o (not_mem_one fun q => by rw [q, sI] at e; cases e) (c₁ b o (nl _) e)
    have p₂ := p.ch c₂ (nl _) n0
    have hlD' : h'.IsList D ys.toList.toArray := by simpa using hlD
    refine args_nil ?_
    refine sorted_of (s := Shared.mk _ _ _ _ _) (collect_list (s := Shared.mk _ _ _ _ _) hlD' ⟨ns, hI, by rw [hI.length, hperm.length_eq]; simp; (first | lia | omega), fun D₂ s₃ out ns' g₃ hD₂ y₃ i₃ q₁ q₂ c₃ => ?_⟩ (by rw [hI.length, hperm.length_eq, sizeLine_eq]; simp; (first | lia | omega)))
    have ens := range_sorted (q₁.trans hperm) q₂
    subst ens
    have c₃' : Ch [] h' s₃.heap := fun b o n e => c₃ b o n ((Ch.one (Heap.SameBut.update ..)) b o (not_mem_one (Nat.ne_of_lt (Heap.lt_size e))) (Heap.get?_push_of_some _ e))
    have g₃' : Go s s₃ := g₁.trans (Go.trans ⟨_, _, rfl⟩ g₃)
    have p₃ := p₂.ch c₃' (nl _) n0
    clear c₃ g₃ g₁
    -- list(range(size))
    refine Call_ ?_
    refine bltX G p₃.keep PyProof.Rows.boot_list ?_
    refine PyProof.Rows.callWith_type1 ?_
    refine args_cons ?_
    refine Call_ ?_
    refine bltX G p₃.keep PyProof.Rows.boot_range ?_
    refine PyProof.Rows.callWith_type1 ?_
    refine args_cons ?_
    refine Fm.ld p₃ l1 ?_
    refine args_nil ?_
    refine rng1 us.length rfl fun s₄ r tr ur vr g₄ hr c₄ => ?_
    refine args_nil ?_
    have hrs : Builtin.Range.rangeSize ((0 : Nat) : Int) ((0 + us.length : Nat) : Int) 1 = (us.length : Int) := by rw [rangeSize_one]; split <;> (first | lia | omega)
    refine call_list_range hh hr (small_one (by (first | lia | omega)) (by (first | lia | omega)) (by (first | lia | omega)) (by (first | lia | omega))) hrs (by (first | lia | omega)) fun h₅ tk₅ acc c' hk₅ hS₅ hacc => ?_
    have c₅ : Ch [] s₃.heap h₅ := fun b o n e => hk₅ b o (c₄ b o n e)
    have y₅ : h₅.IsList D₂ out := c₅.isList (nl _) y₃
    have iA : IntsAre acc.toList ((List.range us.length).map fun (i : Nat) => (i : Int)) := by
      have := ints_range us.length 0 acc.toList (by simp [hacc.1]) fun j v hj => by
        obtain ⟨t, e⟩ := hacc.2 j v (by simpa using hj)
        exact ⟨t, by rw [e]; congr 1; (first | lia | omega)⟩
      simpa using this
    obtain ⟨o1, o2, o3, n1, o4⟩ := y₅
    have hl : (PyData.list (((List.range us.length).map fun (i : Nat) => (i : Int)).map PyData.int)).canLay0 = true := canLay_ints _
    refine PySem.SeqAt.compareEq_reads (s := Shared.mk _ _ _ _ _) (.list o2 o3 o4 (i₃.reads h₅)) (.list hS₅ rfl rfl (iA.reads h₅)) hl hl (by rw [PyData.depth, depth_ints]; (first | lia | omega)) ?_
    rw [PySem.SeqAt.eqv_refl _ hl]
    exact hok _ (g₃'.trans (g₄.trans ⟨_, _, rfl⟩)) fun b o e => c₅ b o (nl _) (p₃.keep b o e)
end
end Mine
end PartL13
section PartL14
set_option maxHeartbeats 400000
namespace Mine
def lwS0 : Stmt := match lwBody with | a :: _ => a | _ => .Pass default
def lwS2 : Stmt := match lwBody with | _ :: _ :: a :: _ => a | _ => .Pass default
def lwFor : Stmt := match lwBody with | _ :: _ :: _ :: _ :: _ :: a :: _ => a | _ => .Pass default
theorem small_nine {n : Nat} (h : n ≤ 100) : Builtin.Range.small 0 (n : Int) 9 = true := by
  have k : ∀ n : Fin 101, Builtin.Range.small 0 (n.val : Int) 9 = true := by decide +kernel
  exact k ⟨n, by (first | lia | omega)⟩
section
variable {h₀ : Heap} {mg mb : Str → Option Value} {H L N : Addr} {vs : List Value} {bs : List (Str × Value)} {w : World} {A : Around} {E : Value → Shared → Prop} {s : Shared} {f : Addr} {cd : Value} {outer : List Env}
theorem nums_st {S : Addr} {sv : List Value} {sn : List Int} {Q : Flow → Shared → Prop} (p : Fm h₀ L bs s.heap) (l1 : At bs "script" (.ref S)) (hS : s.heap.IsList S sv.toArray) (iS : IntsAre sv sn) (hlen : sv.length ≤ 63)
    (hok : ∀ D s' ys ns, Go s s' → s.heap.get? D = none → s'.heap.PlainList D (List.toArray ys) → IntsAre ys ns → 6 ≤ ys.length → ys.length ≤ 69 → Fm h₀ L (("numbers", .ref D) :: bs) s'.heap → Ch [L] s.heap s'.heap → Q .next s') :
    wpAny (model pw w) A (exec lwS0 (lwEnv L f cd)) Q E s := by
  have nl : ∀ b : Addr, b ∉ ([] : List Addr) := fun _ m => nomatch m
  have n0 : ∀ b ∈ ([] : List Addr), h₀.get? b = none := fun _ m => nomatch m
  unfold lwS0 lwBody
  refine wpAny_Assign_Name ?_
  refine wpAny_BinOp ?_
  refine Fm.ld p l1 ?_
  refine List_ ?_
  refine args_cons ?_
  refine wpAny_Constant_int ?_
  refine args_cons ?_
  refine wpAny_Constant_int ?_
  refine args_cons ?_
  refine wpAny_Constant_int ?_
  refine args_cons ?_
  refine wpAny_Constant_int ?_
  refine args_cons ?_
  refine wpAny_Constant_int ?_
  refine args_cons ?_
  refine wpAny_Constant_int ?_
  refine args_nil ?_
  refine newL (by rw [sizeLine_eq]; simp) fun s₁ B g₁ hB y₁ c₁ => ?_
  have c₁' : Ch [] s.heap s₁.heap := c₁
  have g₁' : Go s s₁ := Go.trans ⟨_, _, rfl⟩ g₁
  have p₁ := p.ch c₁' (nl _) n0
  refine add_two (c₁'.isList (nl _) hS) y₁.isList (by simp; (first | lia | omega)) fun s₂ D g₂ hD y₂ c₂ => ?_
  have tD : s₁.heap.get? D = none := get_none (by rw [hD]; exact Nat.le_refl _)
  have sD : s.heap.get? D = none := Ch.fresh c₁' tD (nl _)
  have p₂ := p₁.ch c₂ (nl _) n0
  refine Fm.st p₂ fun s₃ g₃ p₃ c₃ => ?_
  have hDL : D ≠ L := p.nL sD
  exact hok D s₃ _ _ ((g₁'.trans g₂).trans g₃) sD (c₃.plain (not_mem_one hDL) y₂) (iS.append (.cons _ _ (.cons _ _ (.cons _ _ (.cons _ _ (.cons _ _ (.cons _ _ .nil))))))) (by simp) (by simp; (first | lia | omega)) p₃ ((c₁'.nil.trans c₂.nil).trans c₃)

theorem heap_st {ys : List Value} {ns : List Int} {Q : Flow → Shared → Prop} (p : Fm h₀ L bs s.heap) (l1 : At bs "numbers" (.ref N)) (hN : s.heap.IsList N ys.toArray) (iN : IntsAre ys ns) (hlen : ys.length ≤ 100) (hh : A.handled = none)
    (hok : ∀ D s' vs, Go s s' → s.heap.get? D = none → s'.heap.PlainList D (List.toArray vs) → vs.length = ys.length → Cs s'.heap vs → Inj vs → (∀ y ∈ vs, y ≠ .ref D) → (∀ b, Value.ref b ∈ vs → s.heap.get? b = none) → Fm h₀ L (("heap", .ref D) :: bs) s'.heap → Ch [L] s.heap s'.heap → Q .next s') :
    wpAny (model pw w) A (exec lwS2 (lwEnv L f cd)) Q E s := by
  have nl : ∀ b : Addr, b ∉ ([] : List Addr) := fun _ m => nomatch m
  unfold lwS2 lwBody
  refine as_plain (h₀ := h₀) (fun _ _ its => ∃ n t, its = #[.int n t]) ?_ hh
  refine Fm.ld p l1 ?_
  refine ⟨N, _, bs, rfl, hN, by rw [List.size_toArray]; (first | lia | omega), p, ?_, ?_⟩
  · intro C v s₃ m₃ E' hC hv hns hm hkp
    obtain ⟨n, t, rfl⟩ : ∃ n t, v = .int n t := iN.allInts v (by simpa using hv)
    refine List_ ?_
    refine args_cons ?_
    refine IfExp_ ?_
    refine wpAny_isTrue_Compare1 ?_
    refine wpAny_BinOp ?_
    refine ldE hns hm ?_
    refine wpAny_Constant_int ?_
    refine mod_int (by decide) ?_
    refine wpAny_Constant_int ?_
    refine eq_int ?_
    refine wpAny_truthy_bool ?_
    split
    · refine wpAny_BinOp ?_
      refine ldE (s := Shared.mk _ _ _ _ _) hns hm ?_
      refine wpAny_Constant_int ?_
      refine floordiv_int (by decide) ?_
      refine args_nil ?_
      refine newL (by rw [sizeLine_eq]; simp) fun s₄ D g₄ hD y₄ c₄ => ?_
      refine ⟨⟨D, _, rfl, by rw [hD]; exact Heap.get?_none_of_le (Nat.le_refl _), y₄, _, _, rfl⟩, ?_⟩
      obtain ⟨h', tk, rfl⟩ := g₄
      exact ⟨_, _, rfl, fun b o e => c₄ b o (nl _) e⟩
    · refine wpAny_BinOp ?_
      refine wpAny_BinOp ?_
      refine ldE (s := Shared.mk _ _ _ _ _) hns hm ?_
      refine wpAny_Constant_int ?_
      refine floordiv_int (by decide) ?_
      refine wpAny_Constant_int ?_
      refine mod_int (by decide) ?_
      refine args_nil ?_
      refine newL (by rw [sizeLine_eq]; simp) fun s₄ D g₄ hD y₄ c₄ => ?_
      refine ⟨⟨D, _, rfl, by rw [hD]; exact Heap.get?_none_of_le (Nat.le_refl _), y₄, _, _, rfl⟩, ?_⟩
      obtain ⟨h', tk, rfl⟩ := g₄
      exact ⟨_, _, rfl, fun b o e => c₄ b o (nl _) e⟩
  · intro D s' zs g hD hpl hF hpw hne p' c
    refine hok D s' zs g hD hpl (by have := hF.length; simpa using this.symm) (fun v hv => ?_) (inj_of hpw) hne (fun b hb => ?_) p' c
    · obtain ⟨_, T, its, e, _, _, h2, n, t, rfl⟩ := Paired.right hF v hv
      exact ⟨n, T, t, e, h2⟩
    · obtain ⟨_, T, its, e, h1, _⟩ := Paired.right hF _ hb
      cases e; exact h1

theorem rounds_st {ys : List Value} {ns : List Int} {tn : Tok} {Q : Flow → Shared → Prop} (G : Gd h₀ mg mb) (p : Fm h₀ L bs s.heap) (l0 : At bs "numbers" (.ref N)) (l2 : At bs "heap" (.ref H)) (l3 : At bs "size" (.int vs.length tn))
    (hN : s.heap.IsList N ys.toArray) (iN : IntsAre ys ns) (hy : ys.length ≤ 100) (nNH : N ≠ H) (nNc : Value.ref N ∉ vs)
    (hH : s.heap.IsList H vs.toArray) (cs : Cs s.heap vs) (inj : Inj vs) (hq : Hq s.heap vs) (nH : ∀ v ∈ vs, v ≠ .ref H) (nHb : h₀.get? H = none) (nb : ∀ b, Value.ref b ∈ vs → h₀.get? b = none) (h0 : 0 < vs.length) (hn : vs.length ≤ 100)
    (hh : A.handled = none) (hu : A.units + 200 < cLine) (hroom : A.depth + 2 < recursionLimit) (hfr : A.frames = some (lwEnv L f cd :: outer)) (hf : Frs s.heap outer) (hof : outer.filterMap (·.frame) = [])
    (hok : ∀ s' bs' us, Gx s s' → Fm h₀ L bs' s'.heap → (∀ (x : Str) v, x ∈ (["numbers", "heap", "size", "lists"] : List Str) → At bs x v → At bs' x v) → s'.heap.IsList H (List.toArray us) → us.length = vs.length → Cs s'.heap us → Inj us → (∀ v ∈ us, v ∈ vs) → Ch (L :: H :: cellsOf vs) s.heap s'.heap → Q .next s') :
    wpAny (model pw w) A (exec lwFor (lwEnv L f cd)) Q E s := by
  have nl : ∀ b : Addr, b ∉ ([] : List Addr) := fun _ m => nomatch m
  have n0 : ∀ b ∈ ([] : List Addr), h₀.get? b = none := fun _ m => nomatch m
  unfold lwFor lwBody
  refine wpAny_For ?_
  refine Call_ ?_
  refine bltX G p.keep PyProof.Rows.boot_range ?_
  refine PyProof.Rows.callWith_type1 ?_
  refine args_cons ?_
  refine wpAny_Constant_int ?_
  refine args_cons ?_
  refine Fm.ld (s := Shared.mk _ _ _ _ _) p l3 ?_
  refine args_cons ?_
  refine wpAny_Constant_int ?_
  refine args_nil ?_
  refine call_range_3 (s := Shared.mk _ _ _ _ _) (by decide) ?_ (Or.inl (PyProof.noPylong_small (by decide)))
  dsimp only
  have hm := rangeSize_toNat 0 (vs.length : Int) 9
  generalize (Builtin.Range.rangeSize 0 (vs.length : Int) 9).toNat = m at hm
  refine wpAny_pyIter_range (s := Shared.mk _ _ _ _ _) (IsRange.new ..) (small_nine hn) ?_
  dsimp only
  rw [hm]
  have sI : s.heap.get? (s.heap.push { cls := .type "range", data := .fields #[.int 0 s.toks, .int vs.length tn, .int 9 (s.toks + 1)] }).objs.size = none := get_none (by rw [Heap.size_push]; exact Nat.le_succ _)
  have c₁ : Ch [] s.heap ((s.heap.push { cls := .type "range", data := .fields #[.int 0 s.toks, .int vs.length tn, .int 9 (s.toks + 1)] }).push { cls := .type "range_iterator", data := .fields #[rawInt 0, rawInt (m : Int), rawInt 9] }) := fun b o _ e => Heap.get?_push_of_some _ (Heap.get?_push_of_some _ e)
  have hit : IsRangeIter ((s.heap.push { cls := .type "range", data := .fields #[.int 0 s.toks, .int vs.length tn, .int 9 (s.toks + 1)] }).push { cls := .type "range_iterator", data := .fields #[rawInt 0, rawInt (m : Int), rawInt 9] }) (s.heap.push { cls := .type "range", data := .fields #[.int 0 s.toks, .int vs.length tn, .int 9 (s.toks + 1)] }).objs.size ((0 : Int) + ((0 : Nat) : Int) * 9) ((m : Int) - ((0 : Nat) : Int)) 9 := by
    have := Heap.get?_push_size (s.heap.push { cls := .type "range", data := .fields #[.int 0 s.toks, .int vs.length tn, .int 9 (s.toks + 1)] }) (o := { cls := .type "range_iterator", data := .fields #[rawInt 0, rawInt (m : Int), rawInt 9] }) rfl
    simpa using this
  generalize (s.heap.push { cls := .type "range", data := .fields #[.int 0 s.toks, .int vs.length tn, .int 9 (s.toks + 1)] }).objs.size = I at *
  generalize (s.heap.push { cls := .type "range", data := .fields #[.int 0 s.toks, .int vs.length tn, .int 9 (s.toks + 1)] }).push { cls := .type "range_iterator", data := .fields #[rawInt 0, rawInt (m : Int), rawInt 9] } = h₁ at *
  have hIL : I ≠ L := p.nL sI
  have bI : h₀.get? I = none := p.b0 sI
  have hHI : H ≠ I := ls_nn hH sI
  have hHL : H ≠ L := ls_nf hH p
  have vI : ∀ v ∈ vs, v ≠ .ref I := fun v hv => by obtain ⟨x, hx⟩ := cs v hv; exact hx.nn sI
  have vL : ∀ v ∈ vs, v ≠ .ref L := fun v hv => by obtain ⟨x, hx⟩ := cs v hv; exact hx.nf p
  have hX : ∀ {b : Addr}, b ≠ L → b ≠ H → Value.ref b ∉ vs → b ∉ L :: H :: cellsOf vs := fun n1 n2 n3 m => by
    rcases List.mem_cons.mp m with q | q
    · exact n1 q
    · rcases List.mem_cons.mp q with q | q
      · exact n2 q
      · exact n3 (mem_cells.mp q)
  have hNX : N ∉ L :: H :: cellsOf vs := hX (ls_nf hN p) nNH nNc
  have hIX : I ∉ L :: H :: cellsOf vs := hX hIL (Ne.symm hHI) fun m => vI _ m rfl
  refine for_rule (Walks.range (prog := pw) (w := w) hh I 0 9 m) (fun i s' => ∃ bs' us, Gx s s' ∧ Fm h₀ L bs' s'.heap ∧ (∀ (x : Str) v, x ∈ (["numbers", "heap", "size", "lists"] : List Str) → At bs x v → At bs' x v) ∧ s'.heap.IsList H (List.toArray us) ∧ us.length = vs.length ∧ Cs s'.heap us ∧ Inj us ∧ (∀ v ∈ us, v ∈ vs) ∧ Hq s'.heap us ∧
    IsRangeIter s'.heap I ((0 : Int) + (i : Nat) * 9) ((m : Int) - (i : Nat)) 9 ∧ Ch (L :: H :: cellsOf vs) s.heap s'.heap) ?_ ?_ ?_ ?_
  · rintro i s' ⟨_, _, _, _, _, _, _, _, _, _, _, h2, _⟩
    exact h2
  · rintro i v s₃ h' tk ⟨bs₃, us, g₃, p₃, k₃, H₃, e₃, cs₃, j₃, m₃, q₃, _, C₃⟩ hi ⟨t', rfl⟩ hS hkp
    have c₄ : Ch [I] s₃.heap h' := hkp
    have p₄ := p₃.ch c₄ (not_mem_one (Ne.symm hIL)) (fun b m => by rw [List.mem_singleton.mp m]; exact bI)
    have ek : (0 : Int) + (i : Nat) * 9 = ((i * 9 : Nat) : Int) := by (first | lia | omega)
    rw [ek]
    refine Fm.st (s := { s₃ with heap := h', toks := tk }) p₄ fun s₅ g₅ p₅ c₅ => ?_
    have c₅' : Ch [L] h' s₅.heap := c₅
    have C₅ : Ch (L :: H :: cellsOf vs) s.heap s₅.heap := (C₃.skip c₄ fun b m => .inr (by rw [List.mem_singleton.mp m]; exact sI)).skip c₅' fun b m => .inl (by rw [List.mem_singleton.mp m]; simp)
    have one4 : ∀ v ∈ us, ∀ b ∈ [I], v ≠ .ref b := fun v hv b m => by rw [List.mem_singleton.mp m]; exact vI v (m₃ v hv)
    have one5 : ∀ v ∈ us, ∀ b ∈ [L], v ≠ .ref b := fun v hv b m => by rw [List.mem_singleton.mp m]; exact vL v (m₃ v hv)
    have cs₄ : Cs h' us := fun v hv => by obtain ⟨x, hx⟩ := cs₃ v hv; exact ⟨x, hx.ch c₄ (one4 v hv)⟩
    have cs₅ : Cs s₅.heap us := fun v hv => by obtain ⟨x, hx⟩ := cs₄ v hv; exact ⟨x, hx.ch c₅' (one5 v hv)⟩
    have q₅ : Hq s₅.heap us := (q₃.ch c₄ one4 cs₃).ch c₅' one5 cs₄
    refine round_st (vs := us) (k := i * 9) G p₅ (at_skip (by decide) (k₃ _ _ (by decide) l0)) rfl (at_skip (by decide) (k₃ _ _ (by decide) l2)) (by rw [e₃]; exact at_skip (by decide) (k₃ _ _ (by decide) l3)) (C₅.isList hNX hN) iN hy
      (c₅'.isList (not_mem_one hHL) (c₄.isList (not_mem_one hHI) H₃)) cs₅ j₃ q₅ (fun v hv => nH v (m₃ v hv)) nHb (fun b hb => nb b (m₃ _ hb)) (by (first | lia | omega)) (by (first | lia | omega)) hh hu hroom hfr (hf.chg C₅ fun b _ q => by rw [hof] at q; cases q) hof fun s₆ bs₆ us₆ g₆ p₆ k₆ H₆ e₆ cs₆ j₆ m₆ q₆ c₆ => ?_
    dsimp only
    have c₆' : Ch (L :: H :: cellsOf vs) s₅.heap s₆.heap := c₆.mono fun b m => by
      rcases List.mem_cons.mp m with q | q
      · rw [q]; simp
      · rcases List.mem_cons.mp q with q | q
        · rw [q]; simp
        · exact List.mem_cons_of_mem _ (List.mem_cons_of_mem _ (mem_cells.mpr (m₃ _ (mem_cells.mp q))))
    exact ⟨bs₆, us₆, g₃.trans (Gx.trans ⟨rfl, rfl⟩ (g₅.x.trans g₆)), p₆, fun x v m h => k₆ x v m (at_skip (by rintro rfl; revert m; decide) (k₃ x v m h)), H₆, e₆.trans e₃, cs₆, j₆, fun v hv => m₃ v (m₆ v hv), q₆, c₆' I _ hIX (c₅' I _ (not_mem_one hIL) hS), C₅.trans c₆'⟩
  · rintro s₃ h' tk ⟨bs₃, us, g₃, p₃, k₃, H₃, e₃, cs₃, j₃, m₃, q₃, _, C₃⟩ hkp
    have c₄ : Ch [I] s₃.heap h' := hkp
    refine wpAny_execs_nil ?_
    exact hok _ bs₃ us (g₃.trans ⟨rfl, rfl⟩) (p₃.ch c₄ (not_mem_one (Ne.symm hIL)) (fun b m => by rw [List.mem_singleton.mp m]; exact bI)) k₃ (c₄.isList (not_mem_one hHI) H₃) e₃ (fun v hv => by obtain ⟨x, hx⟩ := cs₃ v hv; exact ⟨x, hx.ch c₄ fun b m => by rw [List.mem_singleton.mp m]; exact vI v (m₃ v hv)⟩) j₃ m₃ (C₃.skip c₄ fun b m => .inr (by rw [List.mem_singleton.mp m]; exact sI))
  · exact ⟨bs, vs, ⟨rfl, rfl⟩, p.ch c₁ (nl _) n0, fun _ _ _ h => h, c₁.isList (nl _) hH, rfl, fun v hv => by obtain ⟨x, hx⟩ := cs v hv; exact ⟨x, hx.ch c₁ (fun _ m => nomatch m)⟩, inj, fun _ h => h, hq.ch c₁ (fun _ _ _ m => nomatch m) cs, hit, c₁.nil⟩
end
end Mine
end PartL14
section PartL15
set_option maxHeartbeats 400000
namespace Mine
section
variable {h₀ : Heap} {mg mb : Str → Option Value} {L : Addr} {bs : List (Str × Value)} {w : World} {A : Around} {E : Value → Shared → Prop} {s : Shared} {f : Addr} {cd : Value} {outer : List Env}
theorem lw_body {S : Addr} {sv : List Value} {sn : List Int} {Q : Flow → Shared → Prop} (G : Gd h₀ mg mb)
    (p : Fm h₀ L bs s.heap) (l0 : At bs "script" (.ref S)) (hS : s.heap.IsList S sv.toArray) (iS : IntsAre sv sn) (hlen : sv.length ≤ 63)
    (hh : A.handled = none) (hu : A.units + 200 < cLine) (hroom : A.depth + 2 < recursionLimit) (hfr : A.frames = some (lwEnv L f cd :: outer)) (hf : Frs s.heap outer) (hof : outer.filterMap (·.frame) = [])
    (hok : ∀ s', Gx s s' → (∀ b o, h₀.get? b = some o → s'.heap.get? b = some o) → Q (.ret (.bool true)) s') :
    wpAny (model pw w) A (execs lwBody (lwEnv L f cd)) Q E s := by
  have nl : ∀ b : Addr, b ∉ ([] : List Addr) := fun _ m => nomatch m
  have n0 : ∀ b ∈ ([] : List Addr), h₀.get? b = none := fun _ m => nomatch m
  unfold lwBody
  -- numbers
  refine wpAny_execs_cons ?_
  refine nums_st p l0 hS iS hlen fun N s₁ ys ns g₁ hN y₁ iN hy6 hy69 p₁ c₁ => ?_
  dsimp only
  -- size
  refine wpAny_execs_cons ?_
  refine wpAny_Assign_Name ?_
  refine Call_ ?_
  refine bltX G p₁.keep boot_len ?_
  refine PyProof.Rows.callWith_builtin1 ?_
  refine args_cons ?_
  refine Fm.ld p₁ rfl ?_
  refine args_nil ?_
  refine Calls.call_len_list y₁.isList (by rw [List.size_toArray]; (first | lia | omega)) ?_
  rw [List.size_toArray]
  refine Fm.st (s := Shared.mk _ _ _ _ _) p₁ fun s₂ g₂ p₂ c₂ => ?_
  dsimp only
  have c₂' : Ch [L] s₁.heap s₂.heap := c₂
  have g₂' : Go s s₂ := g₁.trans (Go.trans ⟨_, _, rfl⟩ g₂)
  have y₂ := c₂'.isList (not_mem_one (ls_nf y₁.isList p₁)) y₁.isList
  have C₂ : Ch [L] s.heap s₂.heap := c₁.trans c₂'
  clear c₁ c₂ c₂' g₁ g₂ y₁
  -- heap
  refine wpAny_execs_cons ?_
  refine heap_st p₂ (at_skip (by decide) rfl) y₂ iN (by (first | lia | omega)) hh fun H s₃ vs g₃ hH y₃ hvl cs₃ inj₃ nH nv p₃ c₃ => ?_
  dsimp only
  have C₃ : Ch [L] s.heap s₃.heap := C₂.trans c₃
  have yN₃ := c₃.isList (not_mem_one (ls_nf y₂ p₂)) y₂
  have nH0 : h₀.get? H = none := p₂.b0 hH
  have hNH : N ≠ H := ls_nn y₂ hH
  have nb : ∀ b, Value.ref b ∈ vs → h₀.get? b = none := fun b hb => p₂.b0 (nv b hb)
  have nNc : Value.ref N ∉ vs := fun m => ls_nn y₂ (nv N m) rfl
  have hHL : H ≠ L := p₂.nL hH
  -- lists = heap[:]
  refine wpAny_execs_cons ?_
  refine wpAny_Assign_Name ?_
  refine copyAll ?_
  refine Fm.ld p₃ rfl ?_
  refine ⟨H, vs, rfl, y₃.isList, by rw [sizeLine_eq]; (first | lia | omega), fun s₄ Ls g₄ hLs y₄ c₄ => ?_⟩
  have tL : s₃.heap.get? Ls = none := get_none (by rw [hLs]; exact Nat.le_succ _)
  have p₄ := p₃.ch c₄ (nl _) n0
  have hLL : Ls ≠ L := p₃.nL tL
  have nLv : ∀ v ∈ vs, v ≠ .ref Ls := fun v hv => by obtain ⟨x, hx⟩ := cs₃ v hv; exact hx.nn tL
  have hHLs : H ≠ Ls := ls_nn y₃.isList tL
  have hNLs : N ≠ Ls := ls_nn yN₃ tL
  refine Fm.st p₄ fun s₅ g₅ p₅ c₅ => ?_
  dsimp only
  have c₅' : Ch [L] s₃.heap s₅.heap := c₄.nil.trans c₅
  have C₅ : Ch [L] s.heap s₅.heap := C₃.trans c₅'
  have vL₃ : ∀ v ∈ vs, v ≠ .ref L := fun v hv => by obtain ⟨x, hx⟩ := cs₃ v hv; exact hx.nf p₃
  have cs₅ : Cs s₅.heap vs := fun v hv => by obtain ⟨x, hx⟩ := cs₃ v hv; exact ⟨x, hx.ch c₅' fun b m => by rw [List.mem_singleton.mp m]; exact vL₃ v hv⟩
  have L₅ := c₅.isList (not_mem_one hLL) y₄.isList
  have H₅ := c₅'.isList (not_mem_one hHL) y₃.isList
  have N₅ := c₅'.isList (not_mem_one (ls_nf yN₃ p₃)) yN₃
  have kd₅ : ∀ v ∈ vs, Kd s₅.heap (keyOf s₅.heap) v := fun v hv => by obtain ⟨x, hx⟩ := cs₅ v hv; exact hx.kd
  have hak : AllK (keyOf s₅.heap) vs := fun v hv => (kd₅ v hv).key
  have hf₅ : Frs s₅.heap outer := hf.chg C₅ fun b _ q => by rw [hof] at q; cases q
  have hfs₅ : Frs s₅.heap (lwEnv L f cd :: outer) := by
    obtain ⟨oL, es, ep, hL, hLd⟩ := p₅.frm
    exact ⟨rfl, ⟨L, oL, es, ep, rfl, hL, hLd⟩, hf₅⟩
  have g₅' : Go s s₅ := ((g₂'.trans g₃).trans g₄).trans g₅
  clear g₂' g₃ g₄ g₅ p₄ y₄ hLs C₃ C₂ c₃ yN₃ y₂ y₃ c₄
  -- heapify(heap)
  obtain ⟨f1, o1, pm1, cd1, doc1, a1, a2, a3, a4⟩ := G.hy
  refine wpAny_execs_cons ?_
  refine wpAny_Expr ?_
  refine Call_ ?_
  refine globX G p₅.keep a1 ?_
  refine callWith_def a3 ?_
  refine args_cons ?_
  refine Fm.ld p₅ (at_skip (by decide) rfl) ?_
  refine args_nil ⟨p₅.keep _ _ a2, ?_⟩
  refine wpAny_call (hy_call (key := keyOf s₅.heap) G p₅.keep p₅.sz a2 a3 a4 hroom H₅ nH0 (fun v hv => (kd₅ v hv).itm (nH v hv)) hak (by (first | lia | omega)) hh (by (first | lia | omega)) hfr hfs₅ fun s₆ g₆ l₆ k₆ => ?_)
  dsimp only
  have c₆ : Ch [H] s₅.heap s₆.heap := fun b o n e => k₆ b o (fun q => n (by rw [q]; simp)) e
  obtain ⟨z1, z2, z3, z4⟩ := hfy_all hak inj₃
  have p₆ := p₅.ch c₆ (not_mem_one (Ne.symm hHL)) fun b m => by rw [List.mem_singleton.mp m]; exact nH0
  have oneH : ∀ v ∈ vs, ∀ b ∈ [H], v ≠ .ref b := fun v hv b m => by rw [List.mem_singleton.mp m]; exact nH v hv
  have cs₆ : Cs s₆.heap (hfy (ltK (keyOf s₅.heap)) vs) := fun v hv => by obtain ⟨x, hx⟩ := cs₅ v (z2 v hv); exact ⟨x, hx.ch c₆ (oneH v (z2 v hv))⟩
  have q₆ : Hq s₆.heap (hfy (ltK (keyOf s₅.heap)) vs) := (hq_of z3).ch c₆ (fun v hv => oneH v (z2 v hv)) fun v hv => cs₅ v (z2 v hv)
  have L₆ := c₆.isList (not_mem_one (Ne.symm hHLs)) L₅
  have N₆ := c₆.isList (not_mem_one hNH) N₅
  have hf₆ : Frs s₆.heap outer := hf₅.chg c₆ fun b _ q => by rw [hof] at q; cases q
  generalize hfy (ltK (keyOf s₅.heap)) vs = hs at *
  -- the rounds
  refine wpAny_execs_cons ?_
  refine rounds_st (vs := hs) G p₆ (at_skip (by decide) (at_skip (by decide) (at_skip (by decide) rfl))) (at_skip (by decide) rfl) (by rw [z1, hvl]; exact at_skip (by decide) (at_skip (by decide) rfl)) N₆ iN (by (first | lia | omega)) hNH (fun m => nNc (z2 _ m)) l₆ cs₆ z4 q₆ (fun v hv => nH v (z2 v hv)) nH0 (fun b hb => nb b (z2 _ hb)) (by (first | lia | omega)) (by (first | lia | omega)) hh hu hroom hfr hf₆ hof fun s₇ bs₇ us g₇ p₇ k₇ H₇ e₇ cs₇ j₇ m₇ c₇ => ?_
  dsimp only
  have hperm : us.Perm vs := perm_of_inj j₇ (e₇.trans z1) fun v hv => z2 v (m₇ v hv)
  have L₇ : s₇.heap.IsList Ls vs.toArray := c₇.isList (fun m => by
    rcases List.mem_cons.mp m with q | q
    · exact hLL q
    · rcases List.mem_cons.mp q with q | q
      · exact hHLs q.symm
      · exact nLv _ (z2 _ (mem_cells.mp q)) rfl) L₆
  -- the marks
  refine wpAny_execs_cons ?_
  refine mark_st (us := vs) G p₇ (by rw [hvl]; exact k₇ _ _ (by decide) (at_skip (by decide) (at_skip (by decide) rfl))) (k₇ _ _ (by decide) rfl) L₇ (fun v hv => cs₇ v (hperm.mem_iff.mpr hv)) inj₃ nLv nb (by (first | lia | omega)) hh fun s₈ bs₈ g₈ p₈ k₈ d₈ c₈ => ?_
  dsimp only
  have H₈ : s₈.heap.IsList H us.toArray := c₈.isList (fun m => by
    rcases List.mem_cons.mp m with q | q
    · exact hHL q
    · exact nH _ (mem_cells.mp q) rfl) H₇
  -- the answer
  refine wpAny_execs_cons ?_
  refine ret_st (us := vs) (vs := us) G p₈ (k₈ _ _ (by decide) (by rw [hvl]; exact k₇ _ _ (by decide) (at_skip (by decide) (at_skip (by decide) rfl)))) (k₈ _ _ (by decide) (k₇ _ _ (by decide) (at_skip (by decide) rfl))) H₈ hperm d₈ (by (first | lia | omega)) hh hu fun s₉ g₉ k₉ => ?_
  dsimp only
  exact hok s₉ (g₅'.x.trans (g₆.x.trans (g₇.trans (g₈.x.trans g₉.x)))) k₉
theorem lw_call {R : Result → Shared → Prop} {o : Obj} {pm doc : Value} {S : Addr} {sv : List Value} {sn : List Int} (G : Gd s.heap mg mb)
    (ho : s.heap.get? f = some o) (hdat : o.data = .func (Calls.docDef "law" lwParams lwBody lwScope pm cd doc)) (hcd : s.heap.CodeRec cd "law")
    (hroom : A.depth + 3 < recursionLimit) (hS : s.heap.IsList S sv.toArray) (iS : IntsAre sv sn) (hlen : sv.length ≤ 63)
    (hh : A.handled = none) (hu : A.units + 203 < cLine) (hfr : A.frames = some [])
    (hok : ∀ s', Gx s s' → (∀ b o, s.heap.get? b = some o → s'.heap.get? b = some o) → R (.ok (.ret (.bool true))) s') :
    codeAny (model pw w) A (.call (.ref f) ⟨[.ref S], []⟩) R s := by
  refine call_plain_ret (binds := [("script", .ref S)]) (by (first | lia | omega)) ho hdat G.lim hcd rfl (locs rfl) (fun h₁ F => ?_)
  have p : Fm s.heap s.heap.objs.size [("script", .ref S)] h₁ := ⟨_, ⟨F.ns, fun b o e => F.keep b o e, Nat.le_refl _⟩, fun _ _ e => e⟩
  have hfr' : (A.deeper (lwEnv s.heap.objs.size f cd)).frames = some (lwEnv s.heap.objs.size f cd :: []) := Around.frames_deeper hfr
  refine lw_body (s := { s with heap := h₁, toks := s.toks + _ }) (outer := []) G p rfl (hS.at fun o e => F.keep _ _ e) iS hlen hh (by show A.units + 3 + 200 < cLine; (first | lia | omega)) (by show A.depth + 1 + 2 < recursionLimit; (first | lia | omega)) hfr' trivial rfl (fun s' g k => ?_)
  exact hok s' (Gx.trans ⟨rfl, rfl⟩ g) k
end
end Mine
end PartL15
section PartL16
set_option maxHeartbeats 400000
namespace Mine
theorem isDef_of {p : Program} {loose : List Str} {mean : ExcName → Option Value} {mg mb : Str → Option Value} {h : Heap} {x : Str} {a : Arguments} {b : List Stmt} {sc : Scope} {ps : Pos} (T : Top p loose mean mg mb h) (hf : (recsOf p).find? (fun e => e.name == x) = some ⟨x, a, b, sc, ps⟩) : IsDef h mg x a b sc := by
  obtain ⟨f, o, pm, code, doc, h1, h2, h3, h4⟩ := T.fn _ (List.mem_of_find?_eq_some hf)
  exact ⟨f, o, pm, code, doc, h1, h2, h3, h4⟩
def psAt (n : Nat) : Pos := match pw.main.body[n]? with | some (.FunctionDef _ _ _ _ _ _ _ _ _ ps) => ps | _ => default
end Mine
end PartL16
open Mine in
set_option maxRecDepth 100000 in
set_option maxHeartbeats 8000000 in
theorem PySem.Challenge.cw_dp0037_01_holds : PySem.Challenge.rw_dp0037_01.Holds := by
  w_on
  o_law
  k_head
  (case hw => w_witness2)
  k_fill
  intro w s₀ s₁ mg mb G Y fa o pm cd doc dV kV ho hd hcd hD hmg hg args vals as hpre hlay hrd hwl hlo
  refine Ground.open G ?_
  intro T B D TE TW
  clear hmg
  wrow_args hpre hlay hrd hwl hlo
  rename_i xs hs0 hlay0 hL1 hr1 hl2 b4 b3 S sv b0 hL ra w1 r0 hI hr hcond hcond2
  refine enter_call ?_
  refine codeAny_mono ?_ (fun _ _ g => GoodW.toG g)
  have he := Dflts.none hD rfl; subst he; have he := Dflts.noKw hD; subst he
  have hd' := fd_plain hd
  have Gd0 : Gd s₁.heap mg mb := by
    refine ⟨T.g, T.b, T.nolimit, T.builtins, ?_, ?_, ?_, ?_⟩
    · intro x hx
      refine T.free x ?_ ?_ ?_ ?_ ?_ <;> (revert x; decide +kernel)
    · exact isDef_of (ps := psAt 2) T (by kernel_rfl)
    · exact isDef_of (ps := psAt 3) T (by kernel_rfl)
    · exact isDef_of (ps := psAt 1) T (by kernel_rfl)
  refine lw_call Gd0 ho hd' hcd (by decide +kernel) hL hI ?_ rfl (by decide +kernel) rfl ?_
  · have := hI.length
    omega
  · rintro s' ⟨hgn, hos⟩ hk
    refine ⟨.inl ⟨_, _, [], rfl, raisesW_false ?_, readsW_of_reads (.bool true), ?_, unshared_nil⟩, hk, hos, ?_⟩
    · wrow_none_raised
    · wrow_post
    · rw [hgn]; exact hg
