import PyProof.Rows.All
import Wide.All
import OpenK.AllK
import Wide.FinOn
import PySem.Challenge.RW_hu0002_01
set_option Elab.async false
section PartHd
open PySem PySem.W PyProof.Rows
set_option maxRecDepth 100000
set_option maxHeartbeats 8000000
namespace Mine
open_top hd for PySem.Challenge.rw_hu0002_01
end Mine
end PartHd
section PartL1
open PySem PySem.W PyProof.Rows PySem.Calls PySem.Spec
set_option maxRecDepth 100000
set_option maxHeartbeats 4000000
namespace Mine
abbrev tupOf (its : Array Value) (n : Nat) : Obj := { cls := .type "tuple", data := .seq its n }
def Stop (P : Prop) : Prop := P
theorem stop_ {P : Prop} (h : Stop P) : P := h
theorem Stop.go {P : Prop} (h : P) : Stop P := h
def mp (bs : List (Str × Value)) : Str → Option Value := fun y => List.lookup y bs
theorem fr_re {h₀ h : Heap} {L : Addr} {m m' : Str → Option Value} (F : Fr h₀ L h m) (e : m = m') : Fr h₀ L h m' := e ▸ F
/-- a state of the frame at hand, of which P holds -/
def At (s : Shared) (g : Heap) (L : Addr) (P : (Str → Option Value) → List (Addr × Obj) → Prop) (s' : Shared) : Prop :=
  ∃ h tk m news, s' = { s with heap := h, toks := tk } ∧ Fr g L h m ∧ News g L h news ∧ P m news
/-- lexicographic < on pairs -/
def plt (a b : Int × Int) : Bool := if a.1 = b.1 then decide (a.2 < b.2) else decide (a.1 < b.1)
/-- a heap's tuple of two ints -/
def TupI (h : Heap) (v : Value) (p : Int × Int) : Prop := ∃ a t1 t2 n, v = .ref a ∧ h.get? a = some (tupOf #[.int p.1 t1, .int p.2 t2] n)

section
variable {prog : Program} {w : World} {A : Around} {E : Value → Shared → Prop} {s : Shared}
theorem lt_tree {x y : Addr} {p q : Int × Int} {t1 t2 u1 u2 : Tok} {n k : Nat} {P : Fin → Shared → Prop}
    (hx : s.heap.get? x = some (tupOf #[.int p.1 t1, .int p.2 t2] n)) (hy : s.heap.get? y = some (tupOf #[.int q.1 u1, .int q.2 u2] k))
    (h : P (.done (.ret (.bool (plt p q)))) s) :
    wpAny (model prog w) A (Builtin.«tuple.__lt__» ⟨[.ref x, .ref y], []⟩) P E s := by
  have hTb : s.TypeIs (.ref y) "tuple" := ⟨_, hy, rfl⟩
  show wpAny _ _ (isInstance (.ref y) (.type "tuple") >>= _) _ _ s
  refine wpAny_bind (wpAny_isInstance hTb isSubtype_tuple_tuple ?_)
  simp only [Bool.not_true, Bool.false_eq_true, if_false]
  refine wpAny_bind (wpAny_tupleItemsOf hx rfl ?_)
  refine wpAny_bind (wpAny_tupleItemsOf hy rfl ?_)
  simp only [List.zip_cons_cons, List.zip_nil_right, List.forIn_cons, List.forIn_nil]
  refine wpAny_bind (wpAny_bind (wpAny_bind (wpAny_eqBool_int ?_)))
  by_cases h1 : p.1 = q.1
  · have e1 : (p.1 == q.1) = true := by simpa using h1
    rw [e1]
    simp only [Bool.not_true, Bool.false_eq_true, if_false]
    refine wpAny_pure (wpAny_bind (wpAny_bind (wpAny_eqBool_int ?_)))
    by_cases h2 : p.2 = q.2
    · have e2 : (p.2 == q.2) = true := by simpa using h2
      rw [e2]
      simp only [Bool.not_true, Bool.false_eq_true, if_false]
      refine wpAny_pure (wpAny_pure ?_)
      have : plt p q = false := by unfold plt; rw [if_pos h1]; simp; omega
      rw [this] at h
      exact wpAny_pure h
    · have e2 : (p.2 == q.2) = false := by simpa using h2
      rw [e2]
      simp only [Bool.not_false, if_true]
      refine wpAny_bind (wpAny_rule (wpAny_bind ?_))
      refine lt_int ?_
      refine wpAny_bind (wpAny_pure (wpAny_pure (wpAny_pure ?_)))
      have : plt p q = decide (p.2 < q.2) := by unfold plt; rw [if_pos h1]
      rw [this] at h
      exact wpAny_pure h
  · have e1 : (p.1 == q.1) = false := by simpa using h1
    rw [e1]
    simp only [Bool.not_false, if_true]
    refine wpAny_bind (wpAny_rule (wpAny_bind ?_))
    refine lt_int ?_
    refine wpAny_bind (wpAny_pure (wpAny_pure ?_))
    have : plt p q = decide (p.1 < q.1) := by unfold plt; rw [if_neg h1]
    rw [this] at h
    exact wpAny_pure (wpAny_pure h)
theorem lt_tup {x y : Value} {p q : Int × Int} {Q : Value → Shared → Prop} (hu : A.units < cLine)
    (hx : TupI s.heap x p) (hy : TupI s.heap y q) (h : Q (.bool (plt p q)) s) : wpAny (model prog w) A (compareOp .Lt x y) Q E s := by
  obtain ⟨a, t1, t2, n, rfl, ha⟩ := hx
  obtain ⟨b, u1, u2, k, rfl, hb⟩ := hy
  refine cmp_ofLt ?_
  exact wpAny_richCompare_same_room (op := .Lt) (T := "tuple") ⟨_, ha, rfl⟩ ⟨_, hb, rfl⟩ F.slot_tuple_lt
      (wpAny_call_entry F.slot_tuple_lt ⟨_, ha, rfl⟩ F.entry_tuple_lt (lt_tree ha hb ⟨_, rfl, (fun e => nomatch e), h⟩) (F.args_tuple_lt_2 _ _)) hu

def WEnd (I : Nat → Shared → Prop) (n : Nat) (s : Shared) : Prop := ∃ m, m < n ∧ I m s
theorem WEnd.intro {I : Nat → Shared → Prop} {n : Nat} {s : Shared} (m : Nat) (hm : m < n) (h : I m s) : WEnd I n s := ⟨m, hm, h⟩
theorem while_rule {env : Env} {test : Expr} {body : List Stmt} {pos : Pos} {Q : Flow → Shared → Prop} (I : Nat → Shared → Prop)
    (turn : ∀ n s, I n s → wpAny (model prog w) A (isTrue test env (eval test env)) (fun b s₂ =>
      if b = true then wpAny (model prog w) A (execs body env) (fun f s₃ => match f with
          | .next => WEnd I n s₃ | .cont => WEnd I n s₃ | .brk => Q .next s₃ | .ret v => Q (.ret v) s₃) (fun _ _ => False) s₂
      else Q .next s₂) (fun _ _ => False) s)
    (n : Nat) (h : I n s) : wpAny (model prog w) A (exec (.While test body [] pos) env) Q E s := by
  refine wpAny_While (codeAny_whileLoop I (fun n s hI => ?_) n h)
  refine wpAny_mono (turn n s hI) (fun b s₂ h₂ => ?_) fun _ _ x => x.elim
  cases b with
  | false => simp only [Bool.false_eq_true, if_false] at h₂ ⊢; exact wpAny_execs_nil h₂
  | true =>
    simp only [if_true] at h₂ ⊢
    refine wpAny_mono h₂ (fun f s₃ h₃ => ?_) fun _ _ x => x.elim
    cases f <;> exact h₃

theorem getItem_led {value slice : PySem.Expr} {l : Addr} {vs : List Value} {k : Int} {u : Tok} {v : Value} {Q : Value → Shared → Prop} (hl : s.heap.IsList l vs.toArray) (h0 : 0 ≤ k) (hhi : k < 2 ^ 63) (hx : vs[k.toNat]? = some v) (h : Q v s)
    (hs : subscripted slice false (.ref l) (.int k u) = operate [.ref l, .int k u] (getItem (.ref l) (.int k u)) := by with_unfolding_all rfl) :
    wpAny (model prog w) A (subscriptTail value slice (.ref l) (.int k u)) Q E s := item_litK hl h0 hhi hx h hs
end

/-- the loop of bisect_left -/
noncomputable def bisF (lt : Nat → Bool) : Nat → Nat → Nat → Nat
  | 0, lo, _ => lo
  | f + 1, lo, hi => if lo < hi then (if lt ((lo + hi) / 2) then bisF lt f ((lo + hi) / 2 + 1) hi else bisF lt f lo ((lo + hi) / 2)) else lo
noncomputable def bis (ps : List (Int × Int)) (p : Int × Int) : Nat := bisF (fun i => plt (ps.getD i (0, 0)) p) ps.length 0 ps.length

theorem bisF_le (lt : Nat → Bool) : ∀ f lo hi, lo ≤ hi → bisF lt f lo hi ≤ hi
  | 0, lo, hi, h => h
  | f + 1, lo, hi, h => by
    unfold bisF
    by_cases h1 : lo < hi
    · rw [if_pos h1]
      by_cases h2 : lt ((lo + hi) / 2) = true
      · rw [if_pos h2]; exact bisF_le lt f _ _ (by omega)
      · rw [if_neg h2]; exact Nat.le_trans (bisF_le lt f _ _ (by omega)) (by omega)
    · rw [if_neg h1]; exact h
theorem bis_le (ps : List (Int × Int)) (p : Int × Int) : bis ps p ≤ ps.length := bisF_le _ _ _ _ (Nat.zero_le _)
/-- insort_left -/
noncomputable def ins (ps : List (Int × Int)) (p : Int × Int) : List (Int × Int) := ps.take (bis ps p) ++ p :: ps.drop (bis ps p)
theorem ins_length (ps : List (Int × Int)) (p : Int × Int) : (ins ps p).length = ps.length + 1 := by
  unfold ins
  have := bis_le ps p
  simp; omega
def PAt (news : List (Addr × Obj)) (v : Value) (p : Int × Int) : Prop :=
  ∃ a t1 t2 n, v = .ref a ∧ (a, tupOf #[.int p.1 t1, .int p.2 t2] n) ∈ news
inductive PsAt (news : List (Addr × Obj)) : List Value → List (Int × Int) → Prop
  | nil : PsAt news [] []
  | cons {v p vs ps} : PAt news v p → PsAt news vs ps → PsAt news (v :: vs) (p :: ps)
theorem PAt.tup {news h₀ L h v p} (N : News h₀ L h news) (x : PAt news v p) : TupI h v p := by
  obtain ⟨a, t1, t2, n, rfl, hm⟩ := x
  exact ⟨a, t1, t2, n, rfl, N.get hm⟩
theorem PsAt.length {news vs ps} (x : PsAt news vs ps) : vs.length = ps.length := by
  induction x with
  | nil => rfl
  | cons _ _ ih => simp [ih]
theorem PsAt.get {news vs ps} (x : PsAt news vs ps) (i : Nat) (h : i < ps.length) : ∃ v, vs[i]? = some v ∧ PAt news v (ps.getD i (0, 0)) := by
  induction x generalizing i with
  | nil => exact absurd h (Nat.not_lt_zero _)
  | cons hp _ ih =>
    cases i with
    | zero => exact ⟨_, rfl, hp⟩
    | succ i => exact ih i (Nat.lt_of_succ_lt_succ h)
end Mine
end PartL1
section PartL2
open PySem PySem.W PyProof.Rows PySem.Calls PySem.Spec
set_option maxRecDepth 100000
set_option maxHeartbeats 4000000
namespace Mine
/-- the ledger with another object at l -/
def upd (l : Addr) (o : Obj) (news : List (Addr × Obj)) : List (Addr × Obj) := (l, o) :: news.filter (fun p => p.1 != l)
theorem mem_upd {l : Addr} {o : Obj} {news : List (Addr × Obj)} {q : Addr × Obj} (h : q ∈ news) (hn : q.1 ≠ l) : q ∈ upd l o news :=
  .tail _ (List.mem_filter.mpr ⟨h, by simpa using hn⟩)
theorem mem_upd_self {l : Addr} {o : Obj} {news : List (Addr × Obj)} : (l, o) ∈ upd l o news := .head _
theorem upd_news {g h h' : Heap} {L l : Addr} {news : List (Addr × Obj)} {o o' : Obj} (N : News g L h news) (hl : (l, o) ∈ news) (hs : Heap.SameBut l h h') (ho : h'.get? l = some o') :
    News g L h' (upd l o' news) := by
  intro p hp
  rcases List.mem_cons.mp hp with rfl | hp
  · exact ⟨ho, (N _ hl).2⟩
  · obtain ⟨hp, hne⟩ := List.mem_filter.mp hp
    exact ⟨(hs.2 _ (by simpa using hne)).trans (N p hp).1, (N p hp).2⟩
theorem upd_fr {g h h' : Heap} {L l : Addr} {m : Str → Option Value} {news : List (Addr × Obj)} {o : Obj} (F : Fr g L h m) (N : News g L h news) (hl : (l, o) ∈ news) (hs : Heap.SameBut l h h') : Fr g L h' m :=
  F.change hs (N _ hl).2.1 (N _ hl).2.2
/-- two facts of one address agree -/
theorem News.one {g h : Heap} {L a : Addr} {news : List (Addr × Obj)} {o o' : Obj} (N : News g L h news) (h1 : (a, o) ∈ news) (h2 : (a, o') ∈ news) : o = o' := by
  have e1 := N.get h1; have e2 := N.get h2
  rw [e1] at e2; exact Option.some.inj e2
theorem News.same {g h : Heap} {L a : Addr} {news : List (Addr × Obj)} {o : Obj} {q : Addr × Obj} (N : News g L h news) (h1 : (a, o) ∈ news) (h2 : q ∈ news) (e : q.1 = a) : q.2 = o := by
  obtain ⟨b, o'⟩ := q
  cases e
  exact News.one N h2 h1
/-- what differs in a property stands elsewhere -/
theorem News.off {g h : Heap} {L a : Addr} {news : List (Addr × Obj)} {o : Obj} {q : Addr × Obj} (P : Obj → Prop) (N : News g L h news) (h1 : (a, o) ∈ news) (h2 : q ∈ news) (hq : P q.2) (ho : ¬ P o) : q.1 ≠ a :=
  fun e => ho (News.same N h1 h2 e ▸ hq)
theorem News.ne {g h : Heap} {L a b : Addr} {news : List (Addr × Obj)} {o o' : Obj} (N : News g L h news) (h1 : (a, o) ∈ news) (h2 : (b, o') ∈ news) (hne : o.cls ≠ o'.cls) : a ≠ b := by
  rintro rfl
  exact hne (congrArg Obj.cls (News.one N h1 h2))
theorem PAt.mono {news news' : List (Addr × Obj)} {v : Value} {p : Int × Int} (x : PAt news v p) (hs : ∀ q ∈ news, q.2.cls = .type "tuple" → q ∈ news') : PAt news' v p := by
  obtain ⟨a, t1, t2, n, rfl, hm⟩ := x
  exact ⟨a, t1, t2, n, rfl, hs _ hm rfl⟩
theorem PsAt.mono {news news' : List (Addr × Obj)} {vs : List Value} {ps : List (Int × Int)} (x : PsAt news vs ps) (hs : ∀ q ∈ news, q.2.cls = .type "tuple" → q ∈ news') : PsAt news' vs ps := by
  induction x with
  | nil => exact .nil
  | cons hp _ ih => exact .cons (hp.mono hs) ih
theorem PsAt.app {news : List (Addr × Obj)} {vs us : List Value} {ps qs : List (Int × Int)} (x : PsAt news vs ps) (y : PsAt news us qs) : PsAt news (vs ++ us) (ps ++ qs) := by
  induction x with
  | nil => exact y
  | cons hp _ ih => exact .cons hp ih
theorem PsAt.take {news : List (Addr × Obj)} {vs : List Value} {ps : List (Int × Int)} (x : PsAt news vs ps) (k : Nat) : PsAt news (vs.take k) (ps.take k) := by
  induction x generalizing k with
  | nil => rw [List.take_nil, List.take_nil]; exact .nil
  | cons hp _ ih =>
    cases k with
    | zero => exact .nil
    | succ k => exact .cons hp (ih k)
theorem PsAt.drop {news : List (Addr × Obj)} {vs : List Value} {ps : List (Int × Int)} (x : PsAt news vs ps) (k : Nat) : PsAt news (vs.drop k) (ps.drop k) := by
  induction x generalizing k with
  | nil => rw [List.drop_nil, List.drop_nil]; exact .nil
  | cons hp hr ih =>
    cases k with
    | zero => exact .cons hp hr
    | succ k => exact ih k
theorem PsAt.rev {news : List (Addr × Obj)} {vs : List Value} {ps : List (Int × Int)} (x : PsAt news vs ps) : PsAt news vs.reverse ps.reverse := by
  induction x with
  | nil => exact .nil
  | cons hp _ ih => rw [List.reverse_cons, List.reverse_cons]; exact ih.app (.cons hp .nil)

section
variable {prog : Program} {w : World} {A : Around} {E : Value → Shared → Prop} {s : Shared} {g : Heap} {L l : Addr} {m : Str → Option Value} {news : List (Addr × Obj)}
theorem insert_led {its : List Value} {n k : Nat} {t : Tok} {x : Value} {Q : Value → Shared → Prop} (F : Fr g L s.heap m) (N : News g L s.heap news) (hl : (l, listOf its.toArray n) ∈ news)
    (hk : k ≤ its.length) (hsz : its.length ≤ 1000)
    (h : ∀ h' n', Fr g L h' m → News g L h' (upd l (listOf (its.take k ++ x :: its.drop k).toArray n') news) → Q .none { s with heap := h' }) :
    wpAny (model prog w) A (call (.builtin "list.insert") [.ref l, .int (k : Nat) t, x]) Q E s := by
  have hz : its.toArray.size ≤ sizeLine := by rw [List.size_toArray, sizeLine_eq]; omega
  have hfit : ¬ (!Builtin.List.listFitsIndex (k : Int)) = true := by
    unfold Builtin.List.listFitsIndex
    simp
    omega
  generalize hkk : (k : Int) = kk at hfit ⊢
  have M := AutoListH.list_insert_list_int_val_1 l its.toArray n kk t x hfit hz
  refine call_meets PySem.F.slot_list_insert ⟨_, N.get hl, rfl⟩ PySem.F.entry_list_insert (PySem.F.args_list_insert_3 _ _ _) M ?_
  refine ⟨N.get hl, ?_⟩
  subst hkk
  have hs := Heap.SameBut.update s.heap l (Obj.mapSeq fun xs => have k := if (k : Int) < 0 then ((k : Int) + ((xs.size : Nat) : Int)).toNat else min (k : Int).toNat xs.size; (xs.extract 0 k).push x ++ xs.extract k)
  have e : (have kk := if (k : Int) < 0 then ((k : Int) + ((its.toArray.size : Nat) : Int)).toNat else min (k : Int).toNat its.toArray.size; (its.toArray.extract 0 kk).push x ++ its.toArray.extract kk) = (its.take k ++ x :: its.drop k).toArray := by
    have h1 : (if (k : Int) < 0 then ((k : Int) + ((its.toArray.size : Nat) : Int)).toNat else min (k : Int).toNat its.toArray.size) = k := by
      rw [if_neg (by omega), Int.toNat_natCast, List.size_toArray]; omega
    show (its.toArray.extract 0 _).push x ++ its.toArray.extract _ = _
    rw [h1]
    apply Array.toList_inj.mp
    simp
    rw [List.take_of_length_le (by simp)]
  have hg := get?_update_seq (N.get hl) fun xs => have k := if (k : Int) < 0 then ((k : Int) + ((xs.size : Nat) : Int)).toNat else min (k : Int).toNat xs.size; (xs.extract 0 k).push x ++ xs.extract k
  rw [e] at hg
  exact h _ _ (upd_fr F N hl hs) (upd_news N hl hs hg)
theorem append_led {its : List Value} {n : Nat} {x : Value} {Q : Value → Shared → Prop} (F : Fr g L s.heap m) (N : News g L s.heap news) (hl : (l, listOf its.toArray n) ∈ news)
    (hsz : its.length ≤ 1000)
    (h : ∀ h' n', Fr g L h' m → News g L h' (upd l (listOf (its ++ [x]).toArray n') news) → Q .none { s with heap := h' }) :
    wpAny (model prog w) A (call (.builtin "list.append") [.ref l, x]) Q E s := by
  have hz : its.toArray.size ≤ sizeLine := by rw [List.size_toArray, sizeLine_eq]; omega
  refine append_at (N.get hl) (fun h' hs ho => h h' (n + 1) (upd_fr F N hl hs) (upd_news N hl hs ?_)) hz
  rw [ho]; simp
end
end Mine
end PartL2
section PartL3
open PySem PySem.W PyProof.Rows PySem.Calls PySem.Spec PyProof.Rows.LCg
set_option maxRecDepth 100000
set_option maxHeartbeats 4000000
namespace Mine
theorem AllLt.mem {d : Addr} : ∀ {l : List (Addr × Obj)}, AllLt d l → ∀ p ∈ l, p.1 < d
  | [], _, _, h => nomatch h
  | q :: r, x, p, h => by
    rcases List.mem_cons.mp h with rfl | h
    · exact x.1
    · exact AllLt.mem x.2 p h
/-- an object that no iterator is -/
def nonIt (o : Obj) : Prop := o.cls ≠ .type "list_iterator" ∧ o.cls ≠ .type "enumerate" ∧ o.cls ≠ .type "range_iterator" ∧ o.cls ≠ .type "dict_itemiterator" ∧ o.cls ≠ .type "dict_valueiterator"
section
variable {prog : Program} {w : World} {A : Around} {s : Shared} {env : Env} {h₀ : Heap} {target : Expr} {body : List Stmt} {Q : Flow → Shared → Prop}
/-- the end of a turn: the iterator's own objects stand, the invariant holds of the ledger -/
def TEnd (h₀ : Heap) (L : Addr) (s : Shared) (its : List (Addr × Obj)) (J : (Str → Option Value) → List (Addr × Obj) → Prop) (s₂ : Shared) : Prop :=
  ∃ h' tk m' all, s₂ = { s with heap := h', toks := tk } ∧ Fr h₀ L h' m' ∧ News h₀ L h' all ∧ (∀ p ∈ its, p ∈ all) ∧ J m' all
def TPost (h₀ : Heap) (L : Addr) (s : Shared) (its : List (Addr × Obj)) (J : (Str → Option Value) → List (Addr × Obj) → Prop) (Q : Flow → Shared → Prop) (f : Flow) (s₂ : Shared) : Prop :=
  match f with
  | .next => TEnd h₀ L s its J s₂
  | .cont => TEnd h₀ L s its J s₂
  | .brk => Q .next s₂
  | .ret v => Q (.ret v) s₂
theorem items_invO {ws : List (Addr × String)} {keep : List (Addr × Obj)} (outer : List (Addr × Obj)) (hout : ∀ p ∈ outer, ∀ q ∈ ws, p.1 ≠ q.1) (hws : ∀ p ∈ ws, ∀ o : Obj, o.cls = .type p.2 → ¬ nonIt o)
    (J : List Itm → (Str → Option Value) → List (Addr × Obj) → Prop)
    (hJ : ∀ xs m led led', J xs m led → (∀ q ∈ led, nonIt q.2 ∨ q ∈ outer → q ∈ led') → J xs m led')
    (hk : ∀ p ∈ keep, nonIt p.2)
    (turn : ∀ a r m led v h tk its, J (a :: r) m led → (∀ p ∈ keep, p ∈ led) → (∀ p ∈ its, p ∈ led ∧ ¬ nonIt p.2) → a.Is v h → Fr h₀ env.locals h m → News h₀ env.locals h led →
      wpAny (model prog w) A (assign target env v) (fun _ s₂ => wpAny (model prog w) A (execs body env)
        (TPost h₀ env.locals { s with heap := h, toks := tk } (keep ++ its) (J r) Q) (fun _ _ => False) s₂) (fun _ _ => False) { s with heap := h, toks := tk })
    (done : ∀ m led h tk, J [] m led → Fr h₀ env.locals h m → News h₀ env.locals h led → Q .next { s with heap := h, toks := tk }) :
    ∀ xs m news, J xs m news → (∀ p ∈ keep, p ∈ news) → ItemsRest prog w A (fun _ _ => False) h₀ env target body Q s ws keep xs m news
  | [], m, news, hj, _ => fun h tk F N => done m news h tk hj F N
  | a :: r, m, news, hj, hkn => by
    intro v h tk hv F
    have core : ∀ its : List (Addr × Obj), (∀ p ∈ its, ∃ q ∈ ws, p.1 = q.1 ∧ p.2.cls = .type q.2) → News h₀ env.locals h (its ++ news) →
        wpAny (model prog w) A (assign target env v) (fun _ s₂ => wpAny (model prog w) A (execs body env) (UnrPostW h₀ env.locals { s with heap := h, toks := tk } its (fun m' n' => SubL keep n' ∧ ItemsRest prog w A (fun _ _ => False) h₀ env target body Q s ws keep r m' n') Q) (fun _ _ => False) s₂) (fun _ _ => False) { s with heap := h, toks := tk } := by
      intro its hits N
      have bad : ∀ p ∈ its, ¬ nonIt p.2 := fun p hp => by
        obtain ⟨q, hq, _, e⟩ := hits p hp
        exact hws q hq _ e
      refine wpAny_mono (turn a r m (its ++ news) v h tk its (hJ _ _ _ _ hj fun q hq _ => List.mem_append_right _ hq) (fun p hp => List.mem_append_right _ (hkn p hp))
        (fun p hp => ⟨List.mem_append_left _ hp, bad p hp⟩) hv F N) (fun _ s₂ h₂ => wpAny_mono h₂ (fun f s₃ h₃ => ?_) fun _ _ e => e) fun _ _ e => e
      have apart : ∀ q ∈ outer, ∀ i ∈ its, i.1 ≠ q.1 := fun q hq i hi e => by
        obtain ⟨x, hx, e1, _⟩ := hits i hi
        exact hout q hq x hx (by rw [← e1, e])
      have fin : TEnd h₀ env.locals { s with heap := h, toks := tk } (keep ++ its) (J r) s₃ → UnrEndW h₀ env.locals { s with heap := h, toks := tk } its (fun m' n' => SubL keep n' ∧ ItemsRest prog w A (fun _ _ => False) h₀ env target body Q s ws keep r m' n') s₃ := by
        rintro ⟨h', tk', m', all, rfl, F', N', hin, hj'⟩
        have stay : ∀ q ∈ all, nonIt q.2 ∨ q ∈ outer → q ∈ all.filter (fun p => its.all fun q => q.1 != p.1) := fun q hq hn => by
          refine List.mem_filter.mpr ⟨hq, List.all_eq_true.mpr fun i hi => ?_⟩
          have hne : i.1 ≠ q.1 := fun e => by
            rcases hn with hn | hn
            case inr => exact apart q hn i hi e
            have e1 := N'.get (hin i (List.mem_append_right _ hi))
            have e2 := N'.get hq
            rw [e, e2] at e1
            exact bad i hi (Option.some.inj e1 ▸ hn)
          simpa using hne
        have subl : ∀ l : List (Addr × Obj), (∀ p ∈ l, p ∈ all.filter (fun p => its.all fun q => q.1 != p.1)) → SubL l (all.filter (fun p => its.all fun q => q.1 != p.1)) := by
          intro l
          induction l with
          | nil => intro _; trivial
          | cons p r ih => intro hp; exact ⟨hp p List.mem_cons_self, ih fun q hq => hp q (List.mem_cons_of_mem _ hq)⟩
        refine ⟨h', tk', m', all.filter (fun p => its.all fun q => q.1 != p.1), rfl, F', fun p hp => ?_, fun p hp q hq => ?_, ?_, ?_⟩
        · rcases List.mem_append.mp hp with hp | hp
          · exact N' p (hin p (List.mem_append_right _ hp))
          · exact N' p (List.mem_filter.mp hp).1
        · have := List.all_eq_true.mp (List.mem_filter.mp hp).2 q hq
          exact fun e => by simp [e] at this
        · exact subl keep fun p hp => stay p (hin p (List.mem_append_left _ hp)) (.inl (hk p hp))
        · exact items_invO outer hout hws J hJ hk turn done r m' _ (hJ _ _ _ _ hj' stay) fun p hp => stay p (hin p (List.mem_append_left _ hp)) (.inl (hk p hp))
      cases f with
      | ret v => exact h₃
      | brk => exact h₃
      | next => exact fin h₃
      | cont => exact fin h₃
    have lift : ∀ (l : List (Addr × String)) (pre : List (Addr × Obj)), (∀ q ∈ l, q ∈ ws) → (∀ p ∈ pre, ∃ q ∈ ws, p.1 = q.1 ∧ p.2.cls = .type q.2) →
        AllObj l (fun its => News h₀ env.locals h ((pre ++ its) ++ news) → wpAny (model prog w) A (assign target env v) (fun _ s₂ => wpAny (model prog w) A (execs body env) (UnrPostW h₀ env.locals { s with heap := h, toks := tk } (pre ++ its) (fun m' n' => SubL keep n' ∧ ItemsRest prog w A (fun _ _ => False) h₀ env target body Q s ws keep r m' n') Q) (fun _ _ => False) s₂) (fun _ _ => False) { s with heap := h, toks := tk }) := by
      intro l
      induction l with
      | nil => intro pre _ hp; exact fun N => core (pre ++ []) (by simpa using hp) N
      | cons q l ih =>
        intro pre hl hp o ho
        have := ih (pre ++ [(q.1, o)]) (fun x hx => hl x (List.mem_cons_of_mem _ hx)) (fun p hp' => by
          rcases List.mem_append.mp hp' with h1 | h1
          · exact hp p h1
          · rw [List.mem_singleton.mp h1]; exact ⟨q, hl q List.mem_cons_self, rfl, ho⟩)
        simpa only [List.append_assoc, List.singleton_append] using this
    have := lift ws [] (fun _ h => h) (fun p hp => nomatch hp)
    simpa only [List.nil_append] using this
theorem items_inv {ws : List (Addr × String)} {keep : List (Addr × Obj)} (hws : ∀ p ∈ ws, ∀ o : Obj, o.cls = .type p.2 → ¬ nonIt o)
    (J : List Itm → (Str → Option Value) → List (Addr × Obj) → Prop)
    (hJ : ∀ xs m led led', J xs m led → (∀ q ∈ led, nonIt q.2 → q ∈ led') → J xs m led')
    (hk : ∀ p ∈ keep, nonIt p.2)
    (turn : ∀ a r m led v h tk its, J (a :: r) m led → (∀ p ∈ keep, p ∈ led) → (∀ p ∈ its, p ∈ led ∧ ¬ nonIt p.2) → a.Is v h → Fr h₀ env.locals h m → News h₀ env.locals h led →
      wpAny (model prog w) A (assign target env v) (fun _ s₂ => wpAny (model prog w) A (execs body env)
        (TPost h₀ env.locals { s with heap := h, toks := tk } (keep ++ its) (J r) Q) (fun _ _ => False) s₂) (fun _ _ => False) { s with heap := h, toks := tk })
    (done : ∀ m led h tk, J [] m led → Fr h₀ env.locals h m → News h₀ env.locals h led → Q .next { s with heap := h, toks := tk }) :
    ∀ xs m news, J xs m news → (∀ p ∈ keep, p ∈ news) → ItemsRest prog w A (fun _ _ => False) h₀ env target body Q s ws keep xs m news :=
  items_invO [] (fun _ h => nomatch h) hws J (fun xs m led led' hj hs => hJ xs m led led' hj fun q hq hn => hs q hq (.inl hn)) hk turn done
end
end Mine
end PartL3
section PartL4
open PySem PySem.W PyProof.Rows PySem.Calls PySem.Spec PyProof.Rows.LCg
set_option maxRecDepth 100000
set_option maxHeartbeats 4000000
namespace Mine
section
variable {prog : Program} {w : World} {A : Around} {E : Value → Shared → Prop} {s : Shared} {env cenv : Env} {h₀ : Heap} {L : Addr} {m : Str → Option Value} {elt target iter : Expr} {ifs : List Expr} {scope : Scope} {pos : Pos}
/-- a comprehension's tests: at most one -/
def TestsK (prog : Program) (w : World) (A : Around) (cenv : Env) (ifs : List Expr) (yes no : Shared → Prop) (s : Shared) : Prop :=
  match ifs with
  | [] => yes s
  | [c] => wpAny (model prog w) A (isTrue c cenv (eval c cenv)) (fun ok s₃ => if ok = true then yes s₃ else no s₃) (fun _ _ => False) s
  | _ => False
theorem comp_walk {it acc : Value} {R : Result → Shared → Prop} (hifs : ifs.length ≤ 1) (I : Nat → Shared → Prop)
    (turn : ∀ n s, I n s → wpAny (model prog w) A (pyNext it) (fun r s₁ => match r with
      | none => R (.ok .next) s₁
      | some v => wpAny (model prog w) A (letOwnedTupleGo target it v) (fun _ s₀ => wpAny (model prog w) A (assign target cenv v) (fun _ s₂ =>
          TestsK prog w A cenv ifs (fun s₃ => wpAny (model prog w) A (eval elt cenv) (fun x s₄ =>
            wpAny (model prog w) A (call (.builtin "list.append") [acc, x]) (fun _ s₅ => ∃ m, m < n ∧ I m s₅) (fun _ _ => False) s₄) (fun _ _ => False) s₃) (fun s₃ => ∃ m, m < n ∧ I m s₃) s₂)
          (fun _ _ => False) s₀) (fun _ _ => False) s₁) (fun _ _ => False) s)
    (n : Nat) (h : I n s) : codeAny (model prog w) A (.compLoop (.ListComp elt [⟨target, iter, ifs, 0⟩] scope pos) 0 it acc cenv) R s := by
  match ifs, hifs, turn with
  | [], _, turn =>
    refine kcp_loop I (fun n s hI => ?_) n h
    refine wpAny_mono (turn n s hI) (fun r s₁ h₁ => ?_) fun _ _ x => x.elim
    cases r with
    | none => exact h₁
    | some v => exact wpAny_mono h₁ (fun _ s₀ h₂ => wpAny_mono h₂ (fun _ s₂ h₃ => wpAny_mono h₃ (fun x s₄ h₄ => wpAny_mono h₄ (fun _ _ x => x) fun _ _ x => x.elim) fun _ _ x => x.elim) fun _ _ x => x.elim) fun _ _ x => x.elim
  | [c], _, turn =>
    refine kct_loop I (fun n s hI => ?_) n h
    refine wpAny_mono (turn n s hI) (fun r s₁ h₁ => ?_) fun _ _ x => x.elim
    cases r with
    | none => exact h₁
    | some v =>
      refine wpAny_mono h₁ (fun _ s₀ h₂ => wpAny_mono h₂ (fun _ s₂ h₃ => ?_) fun _ _ x => x.elim) fun _ _ x => x.elim
      refine wpAny_mono h₃ (fun ok s₃ h₄ => ?_) fun _ _ x => x.elim
      cases ok with
      | false => simpa using h₄
      | true =>
        simp only [if_true] at h₄ ⊢
        exact wpAny_mono h₄ (fun x s₄ h₅ => wpAny_mono h₅ (fun _ _ x => x) fun _ _ x => x.elim) fun _ _ x => x.elim
  | c :: d :: r, hifs, _ => exact absurd hifs (by simp)
/-- the end of a comprehension's turn: what was there stands, the new is at new places -/
def CEnd (h₀ : Heap) (L : Addr) (m : Str → Option Value) (s : Shared) (full led : List (Addr × Obj)) (K : List (Addr × Obj) → Prop) (s₂ : Shared) : Prop :=
  ∃ h' tk add, s₂ = { s with heap := h', toks := tk } ∧ Fr h₀ L h' m ∧ News h₀ L h' (add ++ full) ∧ (∀ p ∈ add, ∀ q ∈ full, p.1 ≠ q.1) ∧ K (add ++ led)

/-- the block of a comprehension, over any iterator, in any environment of its own -/
theorem comp_block {I D : Addr} {fp wr ce : List Addr} {n : Nat} {P Md : Nat → Value → Heap → Prop} {St : Nat → Heap → Prop} {En : Heap → Prop} {Bd : Nat → List (Addr × Obj) → Prop} {news : List (Addr × Obj)} {R : Result → Shared → Prop}
    (hifs : ifs.length ≤ 1) (W : KTurns prog w A target I fp wr n P Md St)
    (hLf : L ∉ fp) (hwr : ∀ b ∈ wr, h₀.get? b = none) (hlive : ∀ i h, St i h → ∀ b ∈ wr, ∃ o, h.get? b = some o)
    (hce0 : ∀ c ∈ ce, h₀.get? c = none) (hceL : L ∉ ce) (hceD : D ∉ ce) (hcef : ∀ c ∈ ce, c ∉ fp) (hDf : D ∉ fp) (hD0 : h₀.get? D = none) (hDL : D ≠ L)
    (hEn : ∀ h h', En h → (∀ c ∈ ce, ∀ o, h.get? c = some o → h'.get? c = some o) → En h') (hEl : ∀ h, En h → ∀ c ∈ ce, ∃ o, h.get? c = some o)
    (hassign : ∀ i v (s₀ : Shared) (Q : Unit → Shared → Prop), i < n → P i v s₀.heap → (∀ q ∈ news, s₀.heap.get? q.1 = some q.2) → En s₀.heap →
      (∀ h' tk bl, En h' → (∀ p ∈ bl, p.1 ∈ ce ∧ h'.get? p.1 = some p.2) → Bd i bl → (∀ c o, c ∉ ce → s₀.heap.get? c = some o → h'.get? c = some o) → Q () { s₀ with heap := h', toks := tk }) →
      wpAny (model prog w) A (assign target cenv v) Q (fun _ _ => False) s₀)
    (hn : n ≤ sizeLine) (J : Nat → List Value → List (Addr × Obj) → Prop) (hJl : ∀ i ys led, J i ys led → ys.length ≤ i)
    (hst : St 0 s.heap) (hen : En s.heap) (F : Fr h₀ L s.heap m) (N : News h₀ L s.heap ((D, lst []) :: news)) (hoff : ∀ p ∈ news, p.1 ∉ wr ∧ p.1 ∉ ce ∧ p.1 ≠ D) (hJ0 : J 0 [] news)
    (turn : ∀ i ys led full h tk bl, i < n → J i ys led → (∀ q ∈ news, q ∈ led) → (∀ q ∈ led, q ∈ full) → (∀ q ∈ bl, q ∈ full) → Bd i bl → Fr h₀ L h m → News h₀ L h full →
      TestsK prog w A cenv ifs (fun s₃ => wpAny (model prog w) A (eval elt cenv) (fun y s₄ => CEnd h₀ L m { s with heap := h, toks := tk } full led (J (i + 1) (ys ++ [y])) s₄) (fun _ _ => False) s₃)
        (fun s₃ => CEnd h₀ L m { s with heap := h, toks := tk } full led (J (i + 1) ys) s₃) { s with heap := h, toks := tk })
    (hfin : ∀ h tk ys led, En h → Fr h₀ L h m → News h₀ L h ((D, lst ys) :: led) → (∀ q ∈ news, q ∈ led) → (∀ p ∈ led, p.1 ∉ ce ∧ p.1 ≠ D) → J n ys led → R (.ok .next) { s with heap := h, toks := tk }) :
    codeAny (model prog w) A (.compLoop (.ListComp elt [⟨target, iter, ifs, 0⟩] scope pos) 0 (.ref I) (.ref D) cenv) R s := by
  have hLw : L ∉ wr := fun h => hLf (W.sub _ h)
  have hDw : D ∉ wr := fun h => hDf (W.sub _ h)
  have hcw : ∀ c ∈ ce, c ∉ wr := fun c hc h => hcef c hc (W.sub _ h)
  have old : ∀ b o, h₀.get? b = some o → b ∉ wr := fun b o e hb => by rw [hwr b hb] at e; cases e
  have oldc : ∀ b o, h₀.get? b = some o → b ∉ ce := fun b o e hb => by rw [hce0 b hb] at e; cases e
  refine comp_walk hifs (fun k s' => ∃ h' tk i ys led, s' = { s with heap := h', toks := tk } ∧ i ≤ n ∧ k = n + 1 - i ∧ St i h' ∧ En h' ∧ Fr h₀ L h' m ∧ News h₀ L h' ((D, lst ys) :: led) ∧ (∀ q ∈ news, q ∈ led) ∧ (∀ p ∈ led, p.1 ∉ wr ∧ p.1 ∉ ce ∧ p.1 ≠ D) ∧ J i ys led) ?_ (n + 1)
    ⟨s.heap, s.toks, 0, [], news, rfl, Nat.zero_le _, rfl, hst, hen, F, N, fun _ h => h, hoff, hJ0⟩
  rintro k s' ⟨h', tk, i, ys, led, rfl, hi, rfl, hst', hen', F', N', hsub, hoff', hJ⟩
  by_cases hlt : i < n
  · refine W.item i _ _ _ hlt hst' fun v h₁ tk₁ hMd hk₁ => ?_
    refine W.go i v _ _ _ hMd fun h₂ hP hst₂ hk₂ => ?_
    have up₂ : ∀ b o, b ∉ wr → h'.get? b = some o → h₂.get? b = some o := fun b o hb x => hk₂ b o hb (hk₁ b o hb x)
    have hen₂ : En h₂ := hEn _ _ hen' fun c hc o e => up₂ c o (hcw c hc) e
    refine hassign i v _ _ hlt hP (fun q hq => ?_) hen₂ fun h₃ tk₃ bl hen₃ hbl hB hk₃ => ?_
    · exact up₂ _ _ (hoff' q (hsub q hq)).1 (N' q (List.mem_cons_of_mem _ (hsub q hq))).1
    have up₃ : ∀ b o, b ∉ wr → b ∉ ce → h'.get? b = some o → h₃.get? b = some o := fun b o hb hc x => hk₃ b o hc (up₂ b o hb x)
    have hst₃ : St (i + 1) h₃ := W.frame _ _ _ hst₂ fun b hb o e => hk₃ b o (fun hc => hcef b hc hb) e
    have F₃ : Fr h₀ L h₃ m := ⟨F'.ns.at' fun o e => up₃ _ o hLw hceL e, fun b o e => up₃ b o (old b o e) (oldc b o e) (F'.keep b o e), F'.above⟩
    have N₃ : News h₀ L h₃ ((D, lst ys) :: led) := fun p hp => by
      refine ⟨up₃ _ _ ?_ ?_ (N' p hp).1, (N' p hp).2⟩
      · rcases List.mem_cons.mp hp with rfl | hp
        · exact hDw
        · exact (hoff' p hp).1
      · rcases List.mem_cons.mp hp with rfl | hp
        · exact hceD
        · exact (hoff' p hp).2.1
    have Nfp : News h₀ L h₃ (PyProof.Rows.ownOf h₀ fp h₃) := news_ownOf hLf
    have Nce : News h₀ L h₃ (PyProof.Rows.ownOf h₀ ce h₃) := news_ownOf hceL
    have Nall : News h₀ L h₃ (PyProof.Rows.ownOf h₀ fp h₃ ++ (PyProof.Rows.ownOf h₀ ce h₃ ++ ((D, lst ys) :: led))) := Nfp.append (Nce.append N₃)
    have inD : (D, lst ys) ∈ PyProof.Rows.ownOf h₀ fp h₃ ++ (PyProof.Rows.ownOf h₀ ce h₃ ++ ((D, lst ys) :: led)) := by simp
    have live : ∀ b, b ∈ wr ∨ b ∈ ce → ∃ o, (b, o) ∈ PyProof.Rows.ownOf h₀ fp h₃ ++ (PyProof.Rows.ownOf h₀ ce h₃ ++ ((D, lst ys) :: led)) := fun b hb => by
      rcases hb with hb | hb
      · obtain ⟨o, ho⟩ := hlive _ _ hst₃ b hb
        exact ⟨o, List.mem_append_left _ (mem_ownOf (W.sub _ hb) (hwr b hb) ho)⟩
      · obtain ⟨o, ho⟩ := hEl _ hen₃ b hb
        exact ⟨o, List.mem_append_right _ (List.mem_append_left _ (mem_ownOf hb (hce0 b hb) ho))⟩
    have hlen := hJl _ _ _ hJ
    -- what a turn leaves, closed up
    have close : ∀ (ys' : List Value) (s₄ : Shared), CEnd h₀ L m { s with heap := h₃, toks := tk₃ } (PyProof.Rows.ownOf h₀ fp h₃ ++ (PyProof.Rows.ownOf h₀ ce h₃ ++ ((D, lst ys) :: led))) led (J (i + 1) ys') s₄ →
        ∃ h₅ tk₅ led₅, s₄ = { s with heap := h₅, toks := tk₅ } ∧ St (i + 1) h₅ ∧ En h₅ ∧ Fr h₀ L h₅ m ∧ News h₀ L h₅ ((D, lst ys) :: led₅) ∧ (∀ q ∈ news, q ∈ led₅) ∧ (∀ p ∈ led₅, p.1 ∉ wr ∧ p.1 ∉ ce ∧ p.1 ≠ D) ∧ J (i + 1) ys' led₅ := by
      rintro ys' s₄ ⟨h₅, tk₅, add, rfl, F₅, N₅, hadd, hJ'⟩
      have stand : ∀ q ∈ PyProof.Rows.ownOf h₀ fp h₃ ++ (PyProof.Rows.ownOf h₀ ce h₃ ++ ((D, lst ys) :: led)), h₅.get? q.1 = some q.2 := fun q hq => (N₅ q (List.mem_append_right _ hq)).1
      refine ⟨h₅, tk₅, add ++ led, rfl, ?_, ?_, F₅, fun p hp => ?_, fun q hq => List.mem_append_right _ (hsub q hq), fun p hp => ?_, hJ'⟩
      · refine W.frame _ _ _ hst₃ fun b hb o e => ?_
        cases hn0 : h₀.get? b with
        | some o₀ =>
          have : o₀ = o := by have q := F₃.keep b o₀ hn0; rw [e] at q; exact (Option.some.inj q).symm
          exact this ▸ F₅.keep b o₀ hn0
        | none => exact stand (b, o) (List.mem_append_left _ (mem_ownOf hb hn0 e))
      · exact hEn _ _ hen₃ fun c hc o e => stand (c, o) (List.mem_append_right _ (List.mem_append_left _ (mem_ownOf hc (hce0 c hc) e)))
      · rcases List.mem_cons.mp hp with rfl | hp
        · exact N₅ _ (List.mem_append_right _ inD)
        · rcases List.mem_append.mp hp with hp | hp
          · exact N₅ _ (List.mem_append_left _ hp)
          · exact N₅ _ (List.mem_append_right _ (by simp [hp]))
      · rcases List.mem_append.mp hp with hp | hp
        · refine ⟨fun hb => ?_, fun hb => ?_, fun e => ?_⟩
          · obtain ⟨o, ho⟩ := live _ (.inl hb); exact hadd p hp _ ho rfl
          · obtain ⟨o, ho⟩ := live _ (.inr hb); exact hadd p hp _ ho rfl
          · exact hadd p hp _ inD e
        · exact hoff' p hp
    have T := turn i ys led _ h₃ tk₃ bl hlt hJ hsub (fun q hq => List.mem_append_right _ (List.mem_append_right _ (List.mem_cons_of_mem _ hq)))
      (fun q hq => List.mem_append_right _ (List.mem_append_left _ (mem_ownOf (hbl q hq).1 (hce0 _ (hbl q hq).1) (hbl q hq).2))) hB F₃ Nall
    have next : ∀ (y : Value) (s₄ : Shared), CEnd h₀ L m { s with heap := h₃, toks := tk₃ } (PyProof.Rows.ownOf h₀ fp h₃ ++ (PyProof.Rows.ownOf h₀ ce h₃ ++ ((D, lst ys) :: led))) led (J (i + 1) (ys ++ [y])) s₄ →
        wpAny (model prog w) A (call (.builtin "list.append") [.ref D, y]) (fun _ s₅ => ∃ m_1, m_1 < n + 1 - i ∧ ∃ h' tk i ys led, s₅ = { s with heap := h', toks := tk } ∧ i ≤ n ∧ m_1 = n + 1 - i ∧ St i h' ∧ En h' ∧ Fr h₀ L h' m ∧ News h₀ L h' ((D, lst ys) :: led) ∧ (∀ q ∈ news, q ∈ led) ∧ (∀ p ∈ led, p.1 ∉ wr ∧ p.1 ∉ ce ∧ p.1 ≠ D) ∧ J i ys led) (fun _ _ => False) s₄ := by
      intro y s₄ h₄
      obtain ⟨h₅, tk₅, led₅, rfl, hst₅, hen₅, F₅, N₅, hsub₅, hoff₅, hJ₅⟩ := close _ _ h₄
      refine append_at (hsz := by show ys.toArray.size ≤ sizeLine; rw [List.size_toArray]; omega) (N₅ _ List.mem_cons_self).1 fun h₆ hs₆ hD₆ => ?_
      refine ⟨n + 1 - (i + 1), by omega, h₆, tk₅, i + 1, ys ++ [y], led₅, rfl, hlt, rfl, W.frame _ _ _ hst₅ fun b hb o e => hs₆.extBut b o (fun q => hDf (q ▸ hb)) e,
        hEn _ _ hen₅ fun c hc o e => hs₆.extBut c o (fun q => hceD (q ▸ hc)) e, F₅.change hs₆ hDL hD0, fun q hq => ?_, hsub₅, hoff₅, hJ₅⟩
      rcases List.mem_cons.mp hq with rfl | hq
      · exact ⟨hD₆.trans (congrArg some (lst_snoc ys y)), hDL, hD0⟩
      · exact ⟨hs₆.extBut _ _ (hoff₅ q hq).2.2 (N₅ q (List.mem_cons_of_mem _ hq)).1, (N₅ q (List.mem_cons_of_mem _ hq)).2⟩
    have skip : ∀ (s₄ : Shared), CEnd h₀ L m { s with heap := h₃, toks := tk₃ } (PyProof.Rows.ownOf h₀ fp h₃ ++ (PyProof.Rows.ownOf h₀ ce h₃ ++ ((D, lst ys) :: led))) led (J (i + 1) ys) s₄ →
        ∃ m_1, m_1 < n + 1 - i ∧ ∃ h' tk i ys led, s₄ = { s with heap := h', toks := tk } ∧ i ≤ n ∧ m_1 = n + 1 - i ∧ St i h' ∧ En h' ∧ Fr h₀ L h' m ∧ News h₀ L h' ((D, lst ys) :: led) ∧ (∀ q ∈ news, q ∈ led) ∧ (∀ p ∈ led, p.1 ∉ wr ∧ p.1 ∉ ce ∧ p.1 ≠ D) ∧ J i ys led := by
      intro s₄ h₄
      obtain ⟨h₅, tk₅, led₅, rfl, hst₅, hen₅, F₅, N₅, hsub₅, hoff₅, hJ₅⟩ := close _ _ h₄
      exact ⟨n + 1 - (i + 1), by omega, h₅, tk₅, i + 1, ys, led₅, rfl, hlt, rfl, hst₅, hen₅, F₅, N₅, hsub₅, hoff₅, hJ₅⟩
    match ifs, hifs, T with
    | [], _, T => exact wpAny_mono T (fun y s₄ h₄ => next y s₄ h₄) fun _ _ x => x
    | [c], _, T =>
      refine wpAny_mono T (fun ok s₃ h₃ => ?_) fun _ _ x => x
      cases ok with
      | false => simp only [Bool.false_eq_true, if_false] at h₃ ⊢; exact skip _ h₃
      | true => simp only [if_true] at h₃ ⊢; exact wpAny_mono h₃ (fun y s₄ h₄ => next y s₄ h₄) fun _ _ x => x
    | c :: d :: r, hifs, _ => exact absurd hifs (by simp)
  · have hin : i = n := by omega
    subst hin
    refine W.done _ _ _ hst' fun h₁ tk₁ hk₁ => ?_
    have F₁ : Fr h₀ L h₁ m := ⟨F'.ns.at' fun o e => hk₁ _ o hLw e, fun b o e => hk₁ b o (old b o e) (F'.keep b o e), F'.above⟩
    refine hfin h₁ tk₁ ys led (hEn _ _ hen' fun c hc o e => hk₁ c o (hcw c hc) e) F₁ (fun p hp => ⟨hk₁ _ _ ?_ (N' p hp).1, (N' p hp).2⟩) hsub (fun p hp => (hoff' p hp).2) hJ
    rcases List.mem_cons.mp hp with rfl | hp
    · exact hDw
    · exact (hoff' p hp).1
end
end Mine
end PartL4
section PartL5
open PySem PySem.W PyProof.Rows PySem.Calls PySem.Spec PyProof.Rows.LCg
set_option maxRecDepth 100000
set_option maxHeartbeats 4000000
namespace Mine
section
variable {prog : Program} {w : World} {A : Around} {E : Value → Shared → Prop} {s : Shared} {env : Env} {h₀ : Heap} {L : Addr} {m : Str → Option Value} {elt target iter : Expr} {ifs : List Expr} {scope : Scope} {cl : List (Str × Addr)} {pos : Pos} {Q : Value → Shared → Prop}
/-- what a comprehension without cells asks once its iterator stands -/
structure CSrc (prog : Program) (w : World) (A : Around) (h₀ : Heap) (L : Addr) (m : Str → Option Value) (env : Env) (elt target : Expr) (ifs : List Expr) (scope : Scope) (cl : List (Str × Addr)) (Q : Value → Shared → Prop) (it : Value) (s : Shared)
    (I : Addr) (fp wr : List Addr) (n : Nat) (P Md : Nat → Value → Heap → Prop) (St : Nat → Heap → Prop) (Bv : Nat → (Str → Option Value) → Prop) (news : List (Addr × Obj)) (J : Nat → List Value → List (Addr × Obj) → Prop) : Prop where
  eq : it = .ref I
  turns : KTurns prog w A target I fp wr n P Md St
  self : ∀ (s : Shared) (Q : Value → Shared → Prop) (E : Value → Shared → Prop), St 0 s.heap → Q (.ref I) s → wpAny (model prog w) A (pyIter (.ref I)) Q E s
  Lf : L ∉ fp
  wr0 : ∀ b ∈ wr, h₀.get? b = none
  live : ∀ i h, St i h → ∀ b ∈ wr, ∃ o, h.get? b = some o
  below : ∀ b ∈ fp, b < s.heap.objs.size
  nle : n ≤ sizeLine
  Jl : ∀ i ys led, J i ys led → ys.length ≤ i
  st : St 0 s.heap
  F : Fr h₀ L s.heap m
  N : News h₀ L s.heap news
  off : ∀ p ∈ news, p.1 ∉ wr
  J0 : J 0 [] news
  asg : ∀ C i v (s₀ : Shared) m' (Q : Unit → Shared → Prop), i < n → P i v s₀.heap → (∀ q ∈ news, s₀.heap.get? q.1 = some q.2) → s₀.heap.Ns C m' →
    (∀ h' tk m₂, h'.Ns C m₂ → Bv i m₂ → (∀ c o, c ≠ C → s₀.heap.get? c = some o → h'.get? c = some o) → Q () { s₀ with heap := h', toks := tk }) →
    wpAny (model prog w) A (assign target (compEnvC scope cl C env) v) Q (fun _ _ => False) s₀
  turn : ∀ C oC m₂ i ys led full h tk, i < n → J i ys led → (∀ q ∈ news, q ∈ led) → (∀ q ∈ led, q ∈ full) → (C, oC) ∈ full → NsObj oC m₂ → Bv i m₂ → Fr h₀ L h m → News h₀ L h full →
    TestsK prog w A (compEnvC scope cl C env) ifs (fun s₃ => wpAny (model prog w) A (eval elt (compEnvC scope cl C env)) (fun y s₄ => CEnd h₀ L m { s with heap := h, toks := tk } full led (J (i + 1) (ys ++ [y])) s₄) (fun _ _ => False) s₃)
      (fun s₃ => CEnd h₀ L m { s with heap := h, toks := tk } full led (J (i + 1) ys) s₃) { s with heap := h, toks := tk }
  fin : ∀ D h tk ys led, Fr h₀ L h m → News h₀ L h ((D, lst ys) :: led) → (∀ q ∈ news, q ∈ led) → (∀ p ∈ led, p.1 ≠ D) → J n ys led → Q (.ref D) { s with heap := h, toks := tk }
def CGo (prog : Program) (w : World) (A : Around) (h₀ : Heap) (L : Addr) (m : Str → Option Value) (env : Env) (elt target : Expr) (ifs : List Expr) (scope : Scope) (cl : List (Str × Addr)) (Q : Value → Shared → Prop) (xv : Value) (s : Shared) : Prop :=
  wpAny (model prog w) A (pyIter xv) (fun it s₂ => ∃ I fp wr n P Md St Bv news J, CSrc prog w A h₀ L m env elt target ifs scope cl Q it s₂ I fp wr n P Md St Bv news J) (fun _ _ => False) s

theorem comp_eval (hifs : ifs.length ≤ 1) (hclos : closureFor scope env = pure cl) (hcell : ∀ y ∈ scope.names, y.2 ≠ .cell) (hkind : scope.kind = .function)
    (hnames : ∀ y ∈ scope.names, y.2 = .local → scope.names.lookup y.1 = some .local)
    (h : wpAny (model prog w) A (eval iter env) (CGo prog w A h₀ L m env elt target ifs scope cl Q) (fun _ _ => False) s)
    (hs : ∀ x, foldedSetIterable iter env x = pure x) :
    wpAny (model prog w) A (eval (.ListComp elt [⟨target, iter, ifs, 0⟩] scope pos) env) Q E s := by
  refine wpAny_noRaise ?_
  rw [eval_ListComp]
  refine wpAny_comprehension_free (use := none) rfl hs hclos hkind hnames (wpAny_mono h (fun xv s₁ h₁ => wpAny_mono h₁ (fun it s₂ h₂ => ?_) fun _ _ e => e) fun _ _ e => e)
  obtain ⟨I, fp, wr, n, P, Md, St, Bv, news, J, c⟩ := h₂
  obtain rfl := c.eq
  refine wpAny_newObj_type (wpAny_newFunctionEnv hcell (by intro y hy; simp at hy) (fun h₁ hns₁ hsb₁ => ?_) hkind)
  dsimp only at hns₁ hsb₁ ⊢
  generalize hH2 : s₂.heap.push { cls := .type "list", dict := none, data := .seq ([] : List Value).toArray } = H2 at hns₁ hsb₁ ⊢
  have hC : H2.objs.size = s₂.heap.objs.size + 1 := by rw [← hH2, Heap.size_push]
  have hDC : s₂.heap.objs.size ≠ H2.objs.size := by rw [hC]; exact Nat.ne_of_lt (Nat.lt_succ_self _)
  have below : ∀ b, b < s₂.heap.objs.size → b ≠ H2.objs.size ∧ b ≠ s₂.heap.objs.size := fun b hb => ⟨by rw [hC]; exact Nat.ne_of_lt (Nat.lt_succ_of_lt hb), Nat.ne_of_lt hb⟩
  have old : ∀ b o, s₂.heap.get? b = some o → h₁.get? b = some o := fun b o e => hsb₁.extBut b o (below b (Heap.lt_size e)).1 (Heap.get?_push_of_some _ (hH2 ▸ Heap.get?_push_of_some _ e))
  have hacc : h₁.get? s₂.heap.objs.size = some (lst []) := hsb₁.extBut _ _ hDC (Heap.get?_push_of_some _ (hH2 ▸ Heap.get?_push_size _ rfl))
  have fresh₀ : ∀ a, s₂.heap.objs.size ≤ a → h₀.get? a = none := fun a ha => by
    cases e : h₀.get? a with
    | none => rfl
    | some o' => exact absurd (Heap.lt_size (c.F.keep a o' e)) (Nat.not_lt.mpr ha)
  have hD₀ : h₀.get? s₂.heap.objs.size = none := fresh₀ _ (Nat.le_refl _)
  have hC₀ : h₀.get? H2.objs.size = none := fresh₀ _ (by rw [hC]; exact Nat.le_succ _)
  have hLlt : L < s₂.heap.objs.size := c.F.ns.lt
  have hDL : s₂.heap.objs.size ≠ L := Ne.symm (below L hLlt).2
  have hCL : H2.objs.size ≠ L := Ne.symm (below L hLlt).1
  have hDf : s₂.heap.objs.size ∉ fp := fun hm => Nat.lt_irrefl _ (c.below _ hm)
  have hCf : H2.objs.size ∉ fp := fun hm => by have := c.below _ hm; rw [hC] at this; exact Nat.lt_irrefl _ (Nat.lt_of_succ_lt this)
  have st₁ : St 0 h₁ := c.turns.frame _ _ _ c.st fun b _ o e => old b o e
  have loop : ∀ s₃ : Shared, s₃ = { s₂ with heap := h₁, toks := s₂.toks + ([] : List (Str × Value)).length } →
      codeAny (model prog w) A (.compLoop (.ListComp elt [⟨target, iter, ifs, 0⟩] scope pos) 0 (.ref I) (.ref s₂.heap.objs.size) (compEnvC scope cl H2.objs.size env))
        (compPost (model prog w) A (fun _ _ => False) none Q (.ref s₂.heap.objs.size) H2.objs.size) s₃ := by
    rintro s₃ rfl
    refine comp_block (ce := [H2.objs.size]) (En := fun h => ∃ m', h.Ns H2.objs.size m') (Bd := fun i bl => ∃ oC m₂, (H2.objs.size, oC) ∈ bl ∧ NsObj oC m₂ ∧ Bv i m₂) (news := news)
      hifs c.turns c.Lf c.wr0 c.live (by simpa using hC₀) (by simpa using Ne.symm hCL) (by simpa using hDC) (by simpa using hCf) hDf hD₀ hDL
      (fun h h' ⟨m', hn⟩ hk => ⟨m', hn.at' fun o e => hk _ (by simp) o e⟩) (fun h ⟨m', hn⟩ b hb => ?_) ?_ c.nle J c.Jl st₁ ⟨_, hns₁⟩ (c.F.keeps old) (fun p hp => ?_) (fun p hp => ?_) c.J0 ?_ ?_
    · rw [List.mem_singleton.mp hb]; obtain ⟨o, e, _⟩ := ns_obj hn; exact ⟨o, e⟩
    · rintro i v s₀ Q' hi hP hnews ⟨m', hn⟩ k
      refine c.asg _ i v s₀ m' Q' hi hP hnews hn fun h' tk m₂ hn₂ hB hk => ?_
      obtain ⟨oC, heC, hoC⟩ := ns_obj hn₂
      exact k h' tk [(H2.objs.size, oC)] ⟨m₂, hn₂⟩ (by simpa using heC) ⟨oC, m₂, by simp, hoC, hB⟩ fun c o hc e => hk c o (by simpa using hc) e
    · rcases List.mem_cons.mp hp with rfl | hp
      · exact ⟨hacc, hDL, hD₀⟩
      · exact ⟨old _ _ (c.N p hp).1, (c.N p hp).2⟩
    · have := below p.1 (Heap.lt_size (c.N p hp).1)
      exact ⟨c.off p hp, by simpa using this.1, this.2⟩
    · rintro i ys led full h tk bl hi hJ hsub hsubf hbl ⟨oC, m₂, hm, hoC, hB⟩ F N
      exact c.turn _ oC m₂ i ys led full h tk hi hJ hsub hsubf (hbl _ hm) hoC hB F N
    · rintro h tk ys led ⟨m', hn⟩ F N hsub hoff hJ
      refine ⟨m', hn, fun h'' hs'' => c.fin _ h'' tk ys led (F.change hs'' hCL hC₀) (fun p hp => ?_) hsub (fun p hp => (hoff p hp).2) hJ⟩
      refine ⟨hs''.extBut _ _ ?_ (N p hp).1, (N p hp).2⟩
      rcases List.mem_cons.mp hp with rfl | hp
      · exact hDC
      · exact fun e => (hoff p hp).1 (by simpa using e)
  exact codeAny_compStart_list (loop _ rfl) (c.self _ _ _ st₁ (loop _ rfl))

theorem asg_name {C : Addr} {x : Str} {px : Pos} {v : Value} {m' : Str → Option Value} {Q' : Unit → Shared → Prop} (hkind : scope.kind = .function) (hx : scope.names.lookup x = some .local) (hn : s.heap.Ns C m')
    (k : ∀ (h' : Heap) tk m₂, h'.Ns C m₂ → m₂ x = some v → (∀ c o, c ≠ C → s.heap.get? c = some o → h'.get? c = some o) → Q' () { s with heap := h', toks := tk }) :
    wpAny (model prog w) A (assign (.Name x px) (compEnvC scope cl C env) v) Q' E s := by
  refine wpAny_assign_Name (wpAny_storeName_local (lookup_relabel_local hx) hn (fun h₁ hn₁ hs₁ => ?_) (by simp [compEnvC, relabel, hkind]))
  exact k h₁ _ _ hn₁ (by simp) fun c o hc e => hs₁.extBut c o hc e
theorem CGo.list {l : Addr} {lo : Obj} {vs : List Value} {k : Nat} {news : List (Addr × Obj)} {x : Str} {px : Pos} (hh : A.handled = none) (F : Fr h₀ L s.heap m) (N : News h₀ L s.heap news) (hm : (l, lo) ∈ news) (hc : lo.cls = .type "list") (hd : lo.data = .seq vs.toArray k)
    (hlen : vs.length ≤ sizeLine) (hkind : scope.kind = .function) (hx : scope.names.lookup x = some .local) (J : Nat → List Value → List (Addr × Obj) → Prop) (Jl : ∀ i ys led, J i ys led → ys.length ≤ i) (J0 : J 0 [] news)
    (turn : ∀ C oC m₂ i v ys led full h tk, vs[i]? = some v → J i ys led → (∀ q ∈ news, q ∈ led) → (∀ q ∈ led, q ∈ full) → (C, oC) ∈ full → NsObj oC m₂ → m₂ x = some v → Fr h₀ L h m → News h₀ L h full →
      TestsK prog w A (compEnvC scope cl C env) ifs (fun s₃ => wpAny (model prog w) A (eval elt (compEnvC scope cl C env)) (fun y s₄ => CEnd h₀ L m { s with heap := h, toks := tk } full led (J (i + 1) (ys ++ [y])) s₄) (fun _ _ => False) s₃)
        (fun s₃ => CEnd h₀ L m { s with heap := h, toks := tk } full led (J (i + 1) ys) s₃) { s with heap := h, toks := tk })
    (fin : ∀ D h tk ys led, Fr h₀ L h m → News h₀ L h ((D, lst ys) :: led) → (∀ q ∈ news, q ∈ led) → (∀ p ∈ led, p.1 ≠ D) → J vs.length ys led → Q (.ref D) { s with heap := h, toks := tk }) :
    CGo prog w A h₀ L m env elt (.Name x px) ifs scope cl Q (.ref l) s := by
  have hl : s.heap.IsList l vs.toArray := ⟨lo, N.get hm, hc, k, hd⟩
  have hlt : l < s.heap.objs.size := Heap.lt_size (N.get hm)
  have W := Walks.list (prog := prog) (w := w) hh s.heap.objs.size l (Nat.ne_of_lt hlt) vs.toArray
  refine wpAny_pyIter_list hl ⟨_, _, _, vs.toArray.size, _, _, _, fun i m₂ => ∃ v, vs[i]? = some v ∧ m₂ x = some v, news, J, { eq := rfl, turns := KTurns.ofWalks W (fun i v s Q E st q => letGo_listiter st.1 q), self := fun s Q E st q => W.self 0 s Q E st q, Lf := ?_, wr0 := ?_, live := ?_, below := ?_, nle := by simpa using hlen, Jl := Jl, st := ⟨⟨_, Heap.get?_push_size _ rfl, rfl, rfl⟩, hl.at fun o e => Heap.get?_push_of_some _ e⟩, F := F.push _, N := fun p hp => ⟨Heap.get?_push_of_some _ (N p hp).1, (N p hp).2⟩, off := ?_, J0 := J0, asg := ?_, turn := ?_, fin := ?_ }⟩
  · intro hI
    rcases List.mem_cons.mp hI with e | hI
    · exact absurd F.ns.lt (e ▸ Nat.lt_irrefl _)
    · exact (N _ hm).2.1 (List.mem_singleton.mp hI).symm
  · intro b hb; rw [List.mem_singleton.mp hb]; exact next_is_new F
  · intro i h st b hb; rw [List.mem_singleton.mp hb]; obtain ⟨o, e, _⟩ := st.1; exact ⟨o, e⟩
  · intro b hb
    show b < (s.heap.push _).objs.size
    rw [Heap.size_push]
    rcases List.mem_cons.mp hb with rfl | hb
    · exact Nat.lt_succ_self _
    · rw [List.mem_singleton.mp hb]; exact Nat.lt_succ_of_lt hlt
  · intro p hp hI; exact absurd (Heap.lt_size (N p hp).1) ((List.mem_singleton.mp hI) ▸ Nat.lt_irrefl _)
  · intro C i v s₀ m' Q' hi hP hnews hn kk
    exact asg_name hkind hx hn fun h' tk m₂ a b c => kk h' tk m₂ a ⟨v, by simpa using hP, b⟩ c
  · intro C oC m₂ i ys led full h tk hi hJ a b c d ⟨v, hv, hb⟩ F' N'
    exact turn C oC m₂ i v ys led full h tk hv hJ a b c d hb F' N'
  · intro D h tk ys led F' N' a b hJ
    exact fin D h tk ys led F' N' a b (by simpa using hJ)
theorem CGo.range {r : Addr} {a b : Int} {t u v₀ : Tok} {n : Nat} {news : List (Addr × Obj)} {x : Str} {px : Pos} (hh : A.handled = none) (F : Fr h₀ L s.heap m) (N : News h₀ L s.heap news)
    (hr : IsRange s.heap r a b 1 t u v₀) (hsm : Builtin.Range.small a b 1 = true) (hn : Builtin.Range.rangeSize a b 1 = ((n : Nat) : Int))
    (hlen : n ≤ sizeLine) (hkind : scope.kind = .function) (hx : scope.names.lookup x = some .local) (J : Nat → List Value → List (Addr × Obj) → Prop) (Jl : ∀ i ys led, J i ys led → ys.length ≤ i) (J0 : J 0 [] news)
    (turn : ∀ C oC m₂ i t ys led full h tk, i < n → J i ys led → (∀ q ∈ news, q ∈ led) → (∀ q ∈ led, q ∈ full) → (C, oC) ∈ full → NsObj oC m₂ → m₂ x = some (.int (a + (i : Int)) t) → Fr h₀ L h m → News h₀ L h full →
      TestsK prog w A (compEnvC scope cl C env) ifs (fun s₃ => wpAny (model prog w) A (eval elt (compEnvC scope cl C env)) (fun y s₄ => CEnd h₀ L m { s with heap := h, toks := tk } full led (J (i + 1) (ys ++ [y])) s₄) (fun _ _ => False) s₃)
        (fun s₃ => CEnd h₀ L m { s with heap := h, toks := tk } full led (J (i + 1) ys) s₃) { s with heap := h, toks := tk })
    (fin : ∀ D h tk ys led, Fr h₀ L h m → News h₀ L h ((D, lst ys) :: led) → (∀ q ∈ news, q ∈ led) → (∀ p ∈ led, p.1 ≠ D) → J n ys led → Q (.ref D) { s with heap := h, toks := tk }) :
    CGo prog w A h₀ L m env elt (.Name x px) ifs scope cl Q (.ref r) s := by
  have W := range_walks (prog := prog) (w := w) (I := s.heap.objs.size) hh a n
  refine wpAny_pyIter_range hr hsm ⟨_, _, _, n, _, _, _, fun i m₂ => ∃ t, m₂ x = some (.int (a + (i : Int)) t), news, J, { eq := rfl, turns := KTurns.ofWalks W (fun i v s Q E st q => by unfold letOwnedTupleGo; exact wpAny_pure q), self := fun s Q E st q => W.self 0 s Q E st q, Lf := ?_, wr0 := ?_, live := ?_, below := ?_, nle := hlen, Jl := Jl, st := by show IsRangeIter _ _ _ _ _; rw [hn]; simpa using Heap.get?_push_size _ rfl, F := F.push _, N := fun p hp => ⟨Heap.get?_push_of_some _ (N p hp).1, (N p hp).2⟩, off := ?_, J0 := J0, asg := ?_, turn := ?_, fin := ?_ }⟩
  · intro hI; exact absurd F.ns.lt ((List.mem_singleton.mp hI) ▸ Nat.lt_irrefl _)
  · intro b hb; rw [List.mem_singleton.mp hb]; exact next_is_new F
  · intro i h st b hb; rw [List.mem_singleton.mp hb]; exact ⟨_, st⟩
  · intro b hb
    show b < (s.heap.push _).objs.size
    rw [Heap.size_push, List.mem_singleton.mp hb]; exact Nat.lt_succ_self _
  · intro p hp hI; exact absurd (Heap.lt_size (N p hp).1) ((List.mem_singleton.mp hI) ▸ Nat.lt_irrefl _)
  · intro C i v s₀ m' Q' hi hP hnews hn kk
    obtain ⟨t', rfl⟩ := hP
    exact asg_name hkind hx hn fun h' tk m₂ a b c => kk h' tk m₂ a ⟨t', b⟩ c
  · intro C oC m₂ i ys led full h tk hi hJ a b c d ⟨t', hb⟩ F' N'
    exact turn C oC m₂ i t' ys led full h tk hi hJ a b c d hb F' N'
  · intro D h tk ys led F' N' a b hJ
    exact fin D h tk ys led F' N' a b hJ
/-- over a list of pairs, unpacked -/
theorem CGo.pairs {l : Addr} {lo : Obj} {vs : List Value} {ps : List (Int × Int)} {k : Nat} {news : List (Addr × Obj)} {xa xb : Str} {pa pb tp : Pos} {kk : Nat} (hh : A.handled = none) (F : Fr h₀ L s.heap m) (N : News h₀ L s.heap news) (hm : (l, lo) ∈ news) (hc : lo.cls = .type "list") (hd : lo.data = .seq vs.toArray k)
    (hps : PsAt news vs ps)
    (hlen : vs.length ≤ sizeLine) (hkind : scope.kind = .function) (hxa : scope.names.lookup xa = some .local) (hxb : scope.names.lookup xb = some .local) (hab : ¬ xa = xb) (J : Nat → List Value → List (Addr × Obj) → Prop) (Jl : ∀ i ys led, J i ys led → ys.length ≤ i) (J0 : J 0 [] news)
    (turn : ∀ C oC m₂ i ta tb ys led full h tk, i < ps.length → J i ys led → (∀ q ∈ news, q ∈ led) → (∀ q ∈ led, q ∈ full) → (C, oC) ∈ full → NsObj oC m₂ → m₂ xa = some (.int (ps.getD i (0, 0)).1 ta) → m₂ xb = some (.int (ps.getD i (0, 0)).2 tb) → Fr h₀ L h m → News h₀ L h full →
      TestsK prog w A (compEnvC scope cl C env) ifs (fun s₃ => wpAny (model prog w) A (eval elt (compEnvC scope cl C env)) (fun y s₄ => CEnd h₀ L m { s with heap := h, toks := tk } full led (J (i + 1) (ys ++ [y])) s₄) (fun _ _ => False) s₃)
        (fun s₃ => CEnd h₀ L m { s with heap := h, toks := tk } full led (J (i + 1) ys) s₃) { s with heap := h, toks := tk })
    (fin : ∀ D h tk ys led, Fr h₀ L h m → News h₀ L h ((D, lst ys) :: led) → (∀ q ∈ news, q ∈ led) → (∀ p ∈ led, p.1 ≠ D) → J ps.length ys led → Q (.ref D) { s with heap := h, toks := tk }) :
    CGo prog w A h₀ L m env elt (.Tuple [.Name xa pa, .Name xb pb] kk tp) ifs scope cl Q (.ref l) s := by
  have hl : s.heap.IsList l vs.toArray := ⟨lo, N.get hm, hc, k, hd⟩
  have hlt : l < s.heap.objs.size := Heap.lt_size (N.get hm)
  have hvl := hps.length
  have W := Walks.list (prog := prog) (w := w) hh s.heap.objs.size l (Nat.ne_of_lt hlt) vs.toArray
  refine wpAny_pyIter_list hl ⟨_, _, _, vs.toArray.size, _, _, _, fun i m₂ => ∃ ta tb, m₂ xa = some (.int (ps.getD i (0, 0)).1 ta) ∧ m₂ xb = some (.int (ps.getD i (0, 0)).2 tb), news, J, { eq := rfl, turns := KTurns.ofWalks W (fun i v s Q E st q => letGo_listiter st.1 q), self := fun s Q E st q => W.self 0 s Q E st q, Lf := ?_, wr0 := ?_, live := ?_, below := ?_, nle := by simpa using hlen, Jl := Jl, st := ⟨⟨_, Heap.get?_push_size _ rfl, rfl, rfl⟩, hl.at fun o e => Heap.get?_push_of_some _ e⟩, F := F.push _, N := fun p hp => ⟨Heap.get?_push_of_some _ (N p hp).1, (N p hp).2⟩, off := ?_, J0 := J0, asg := ?_, turn := ?_, fin := ?_ }⟩
  · intro hI
    rcases List.mem_cons.mp hI with e | hI
    · exact absurd F.ns.lt (e ▸ Nat.lt_irrefl _)
    · exact (N _ hm).2.1 (List.mem_singleton.mp hI).symm
  · intro b hb; rw [List.mem_singleton.mp hb]; exact next_is_new F
  · intro i h st b hb; rw [List.mem_singleton.mp hb]; obtain ⟨o, e, _⟩ := st.1; exact ⟨o, e⟩
  · intro b hb
    show b < (s.heap.push _).objs.size
    rw [Heap.size_push]
    rcases List.mem_cons.mp hb with rfl | hb
    · exact Nat.lt_succ_self _
    · rw [List.mem_singleton.mp hb]; exact Nat.lt_succ_of_lt hlt
  · intro p hp hI; exact absurd (Heap.lt_size (N p hp).1) ((List.mem_singleton.mp hI) ▸ Nat.lt_irrefl _)
  · intro C i v s₀ m' Q' hi hP hnews hn kk
    have hi' : i < ps.length := by rw [← hvl]; simpa using hi
    obtain ⟨v', hv', a, t1, t2, n, rfl, hpm⟩ := hps.get i hi'
    have hP' : vs[i]? = some v := by simpa using hP
    rw [hv'] at hP'
    obtain rfl := Option.some.inj hP'
    have hT : s₀.heap.IsTuple a #[.int (ps.getD i (0, 0)).1 t1, .int (ps.getD i (0, 0)).2 t2] := ⟨_, hnews _ hpm, rfl, _, rfl⟩
    exact kcp_assign (env := compEnvC scope cl C env) hh hT (lookup_relabel_local hxa) (lookup_relabel_local hxb) (by simp [compEnvC, relabel, hkind]) hn fun h' tk hn' hk => kk h' tk _ hn' ⟨t1, t2, by simp [hab], by simp⟩ hk
  · intro C oC m₂ i ys led full h tk hi hJ a b c d ⟨ta, tb, h1, h2⟩ F' N'
    exact turn C oC m₂ i ta tb ys led full h tk (by rw [← hvl]; simpa using hi) hJ a b c d h1 h2 F' N'
  · intro D h tk ys led F' N' a b hJ
    exact fin D h tk ys led F' N' a b (by rw [← hvl]; simpa using hJ)
/-- over enumerate(list), unpacked -/
theorem CGo.enum {l : Addr} {lo : Obj} {vs : List Value} {k : Nat} {news : List (Addr × Obj)} {xa xb : Str} {pa pb tp : Pos} {kk : Nat} (hh : A.handled = none) (F : Fr h₀ L s.heap m) (N : News h₀ L s.heap news) (hm : (l, lo) ∈ news) (hc : lo.cls = .type "list") (hd : lo.data = .seq vs.toArray k)
    (hlen : vs.length ≤ sizeLine) (hkind : scope.kind = .function) (hxa : scope.names.lookup xa = some .local) (hxb : scope.names.lookup xb = some .local) (hab : ¬ xa = xb) (J : Nat → List Value → List (Addr × Obj) → Prop) (Jl : ∀ i ys led, J i ys led → ys.length ≤ i) (J0 : J 0 [] news)
    (turn : ∀ C oC m₂ i ta v ys led full h tk, vs[i]? = some v → J i ys led → (∀ q ∈ news, q ∈ led) → (∀ q ∈ led, q ∈ full) → (C, oC) ∈ full → NsObj oC m₂ → m₂ xa = some (.int (i : Nat) ta) → m₂ xb = some v → Fr h₀ L h m → News h₀ L h full →
      TestsK prog w A (compEnvC scope cl C env) ifs (fun s₃ => wpAny (model prog w) A (eval elt (compEnvC scope cl C env)) (fun y s₄ => CEnd h₀ L m { s with heap := h, toks := tk } full led (J (i + 1) (ys ++ [y])) s₄) (fun _ _ => False) s₃)
        (fun s₃ => CEnd h₀ L m { s with heap := h, toks := tk } full led (J (i + 1) ys) s₃) { s with heap := h, toks := tk })
    (fin : ∀ D h tk ys led, Fr h₀ L h m → News h₀ L h ((D, lst ys) :: led) → (∀ q ∈ news, q ∈ led) → (∀ p ∈ led, p.1 ≠ D) → J vs.length ys led → Q (.ref D) { s with heap := h, toks := tk }) :
    wpAny (model prog w) A (call (.type "enumerate") [.ref l]) (CGo prog w A h₀ L m env elt (.Tuple [.Name xa pa, .Name xb pb] kk tp) ifs scope cl Q) E s := by
  have hl : s.heap.IsList l vs.toArray := ⟨lo, N.get hm, hc, k, hd⟩
  have hlt : l < s.heap.objs.size := Heap.lt_size (N.get hm)
  have hLs : L < s.heap.objs.size := F.ns.lt
  refine call_enumerate_list hl fun h' hE hI hsz hk => ?_
  have W := WalksT.enumerate (prog := prog) (w := w) hh (s.heap.objs.size + 1) s.heap.objs.size l (Nat.succ_ne_self _) (ktu_ne 1 hlt) (Nat.ne_of_lt hlt) vs.toArray
  refine wpAny_pyIter_enum hE ⟨_, _, _, vs.toArray.size, _, _, _, fun i m₂ => ∃ ta v, vs[i]? = some v ∧ m₂ xa = some (.int (i : Nat) ta) ∧ m₂ xb = some v, news, J, { eq := rfl, turns := KTurns.ofWalksU W.toU, self := fun s Q E st q => W.self 0 s Q E st q, Lf := ?_, wr0 := ?_, live := ?_, below := ?_, nle := by simpa using hlen, Jl := Jl, st := ⟨⟨.none, hE⟩, hI, hl.at fun o e => hk l o e⟩, F := F.keeps hk, N := N.grown hk, off := ?_, J0 := J0, asg := ?_, turn := ?_, fin := ?_ }⟩
  · intro hI'
    have hb' : L = s.heap.objs.size + 1 ∨ L = s.heap.objs.size ∨ L = l := by simpa using hI'
    rcases hb' with e | e | e
    · exact ktu_ne 1 hLs e
    · exact Nat.ne_of_lt hLs e
    · exact (N _ hm).2.1 e.symm
  · intro b hb
    have hb' : b = s.heap.objs.size + 1 ∨ b = s.heap.objs.size := by simpa using hb
    rcases hb' with rfl | rfl
    · exact ktu_new F (Nat.le_add_right _ _)
    · exact ktu_new F (Nat.le_refl _)
  · rintro i h ⟨⟨old, he⟩, ⟨oi, hoi, _⟩, _⟩ b hb
    have hb' : b = s.heap.objs.size + 1 ∨ b = s.heap.objs.size := by simpa using hb
    rcases hb' with rfl | rfl
    · exact ⟨_, he⟩
    · exact ⟨oi, hoi⟩
  · intro b hb
    have hb' : b = s.heap.objs.size + 1 ∨ b = s.heap.objs.size ∨ b = l := by simpa using hb
    show b < h'.objs.size
    rw [hsz]
    rcases hb' with rfl | rfl | rfl
    · exact Nat.lt_succ_self _
    · exact Nat.lt_succ_of_lt (Nat.lt_succ_self _)
    · exact Nat.lt_succ_of_lt (Nat.lt_succ_of_lt hlt)
  · intro p hp hI'
    have hb' : p.1 = s.heap.objs.size + 1 ∨ p.1 = s.heap.objs.size := by simpa using hI'
    have hlp := Heap.lt_size (N p hp).1
    rcases hb' with e | e
    · exact ktu_ne 1 hlp e
    · exact Nat.ne_of_lt hlp e
  · rintro C i v s₀ m' Q' hi ⟨T, vals, rfl, ⟨t, x, hx, rfl⟩, hT⟩ hnews hn kk
    exact kcp_assign (env := compEnvC scope cl C env) hh hT (lookup_relabel_local hxa) (lookup_relabel_local hxb) (by simp [compEnvC, relabel, hkind]) hn fun h' tk hn' hk => kk h' tk _ hn' ⟨t, x, by simpa using hx, by simp [hab], by simp⟩ hk
  · intro C oC m₂ i ys led full h tk hi hJ a b c d ⟨ta, v, hv, h1, h2⟩ F' N'
    exact turn C oC m₂ i ta v ys led full h tk hv hJ a b c d h1 h2 F' N'
  · intro D h tk ys led F' N' a b hJ
    exact fin D h tk ys led F' N' a b (by simpa using hJ)
theorem CEnd.same {full led : List (Addr × Obj)} {K : List (Addr × Obj) → Prop} {h' : Heap} {tk : Nat} (F : Fr h₀ L h' m) (N : News h₀ L h' full) (hK : K led) : CEnd h₀ L m s full led K { s with heap := h', toks := tk } :=
  ⟨h', tk, [], rfl, F, N, (fun p hp => nomatch hp), hK⟩
end
end Mine
end PartL5
section PartM1
namespace Mine
open PySem PySem.W PyProof.Rows PySem.Calls PySem.Spec
set_option maxRecDepth 100000
/-- the ints with their places -/
def enumI (l : List Int) : List (Int × Int) := l.zipIdx.map fun x => (x.1, (x.2 : Int))
/-- the model's sort asks by two places; this runs its tree over a table of answers -/
noncomputable def kRun {α : Type} (f : Nat → Nat → Bool) : KasT α → α
  | .ret a => a
  | .ask i j k => kRun f (k (f i j))
noncomputable def sortBy (ps : List (Int × Int)) : List (Int × Int) :=
  if ps.length < 2 then ps else (kRun (fun i j => plt (ps.getD i (0, 0)) (ps.getD j (0, 0))) (kas_sort ps.length)).toList.map fun i => ps.getD i (0, 0)
noncomputable def kLen (n : Nat) : KasT (Array Nat) → Bool
  | .ret a => decide (a.toList.length = n)
  | .ask _ _ k => kLen n (k true) && kLen n (k false)
theorem kLen_run {f : Nat → Nat → Bool} {n : Nat} : ∀ t : KasT (Array Nat), kLen n t = true → (kRun f t).toList.length = n
  | .ret a, h => of_decide_eq_true h
  | .ask i j k, h => by
    unfold kLen at h
    obtain ⟨h1, h2⟩ := Bool.and_eq_true_iff.mp h
    show (kRun f (k (f i j))).toList.length = n
    cases f i j
    · exact kLen_run _ h2
    · exact kLen_run _ h1
theorem sortBy_length4 (ps : List (Int × Int)) (h : ps.length ≤ 4) : (sortBy ps).length = ps.length := by
  unfold sortBy
  by_cases h2 : ps.length < 2
  · rw [if_pos h2]
  · rw [if_neg h2, List.length_map]
    refine kLen_run _ ?_
    rcases (by omega : ps.length = 2 ∨ ps.length = 3 ∨ ps.length = 4) with e | e | e <;> rw [e] <;> decide +kernel
noncomputable def kIn0 (n : Nat) : KasT (Array Nat) → Bool
  | .ret a => a.toList.all fun i => decide (i < n)
  | .ask _ _ k => kIn0 n (k true) && kIn0 n (k false)
noncomputable def goTaken (j : Int) : List (Int × Int) → List (Int × Int) → List (Int × Int) → Option (List (Int × Int) × List (Int × Int))
  | [], o, sp => some (o, sp)
  | p :: r, o, sp => if p.1 = 0 then none else goTaken j r (ins o (p.1 - 1, p.2)) (sp ++ [(j, p.2)])
noncomputable def goRows : List (Int × Int) → List (Int × Int) → List (Int × Int) → Option (List (Int × Int) × List (Int × Int))
  | [], o, sp => some (o, sp)
  | p :: r, o, sp => if (o.length : Int) < p.1 then none else
    match goTaken p.2 (o.drop (o.length - p.1.toNat)) (o.take (o.length - p.1.toNat)) sp with
    | none => none
    | some q => goRows r q.1 q.2
theorem goRows_step {p : Int × Int} {r o sp : List (Int × Int)} {cut : Nat} (h : ¬ (o.length : Int) < p.1) (hc : cut = o.length - p.1.toNat) :
    goRows (p :: r) o sp = match goTaken p.2 (o.drop cut) (o.take cut) sp with | none => none | some q => goRows r q.1 q.2 := by
  subst hc
  rw [goRows, if_neg h]
noncomputable def ord0 (cols : List Int) : List (Int × Int) := (enumI cols).foldl ins []
noncomputable def laid (rs cols : List Int) : Option (List (Int × Int)) :=
  match goRows (sortBy (enumI rs)).reverse (ord0 cols) [] with
  | none => none
  | some q => if (q.1.filter fun p => decide (0 < p.1)) = [] then some q.2 else none
theorem PsAt.insAt {news : List (Addr × Obj)} {vs : List Value} {ps : List (Int × Int)} {x : Value} {p : Int × Int} (h : PsAt news vs ps) (hp : PAt news x p) :
    PsAt news (vs.take (bis ps p) ++ x :: vs.drop (bis ps p)) (ins ps p) := (h.take _).app (.cons hp (h.drop _))
theorem cls_lt : ¬ (Value.type "list" = Value.type "tuple") := by decide
theorem not_nonIt {o : Obj} {n : String} (h : o.cls = .type n) (hn : n ∈ (["list_iterator", "enumerate", "range_iterator", "dict_itemiterator", "dict_valueiterator"] : List String)) : ¬ nonIt o := by
  unfold nonIt
  rw [h]
  rintro ⟨h1, h2, h3, h4, h5⟩
  simp at h1 h2 h3 h4 h5
  simp at hn
  rcases hn with e | e | e | e | e <;> first | exact h1 e | exact h2 e | exact h3 e | exact h4 e | exact h5 e
theorem slice_from (vs : List Value) (x : Int) (c : Nat) (h : x = (c : Int)) : (slicePick vs.toArray (some x) none none).toList = vs.drop c := by
  rw [h, slicePick_from']
theorem slice_upto (vs : List Value) (x : Int) (c : Nat) (h : x = (c : Int)) : (slicePick vs.toArray none (some x) none).toList = vs.take c := by
  rw [h, slicePick_upto']
theorem head_pair {g h : Heap} {L T : Addr} {a b : Int} {t1 t2 : Tok} {n : Nat} {led : List (Addr × Obj)} (_N : News g L h ((T, tupOf #[.int a t1, .int b t2] n) :: led)) : PAt ((T, tupOf #[.int a t1, .int b t2] n) :: led) (.ref T) (a, b) :=
  ⟨T, t1, t2, n, rfl, List.mem_cons_self⟩
theorem nonIt_tuple {o : Obj} (h : o.cls = .type "tuple") : nonIt o := by unfold nonIt; rw [h]; decide
theorem nonIt_list {o : Obj} (h : o.cls = .type "list") : nonIt o := by unfold nonIt; rw [h]; decide
theorem nonIt_dict {o : Obj} (h : o.cls = .type "dict") : nonIt o := by unfold nonIt; rw [h]; decide
theorem PAt.nonIt {news news' : List (Addr × Obj)} {v : Value} {p : Int × Int} (x : PAt news v p) (hs : ∀ q ∈ news, nonIt q.2 → q ∈ news') : PAt news' v p := x.mono fun q hq hc => hs q hq (nonIt_tuple hc)
theorem PsAt.nonIt {news news' : List (Addr × Obj)} {vs : List Value} {ps : List (Int × Int)} (x : PsAt news vs ps) (hs : ∀ q ∈ news, nonIt q.2 → q ∈ news') : PsAt news' vs ps := x.mono fun q hq hc => hs q hq (nonIt_tuple hc)
theorem enumItems_cons {vs : List Value} {i : Nat} {a : Itm} {r : List Itm} (h : a :: r = enumItems i (vs.drop i)) : ∃ x, vs[i]? = some x ∧ i < vs.length ∧ a = .pair (fun t => .int (i : Int) t) x ∧ r = enumItems (i + 1) (vs.drop (i + 1)) := by
  by_cases hi : i < vs.length
  · rw [List.drop_eq_getElem_cons hi] at h
    unfold enumItems at h
    injection h with h1 h2
    exact ⟨vs[i], List.getElem?_eq_getElem hi, hi, h1, h2⟩
  · rw [List.drop_eq_nil_of_le (Nat.not_lt.mp hi)] at h
    cases h
theorem enumItems_nil {vs : List Value} {i : Nat} (h : [] = enumItems i (vs.drop i)) (hi : i ≤ vs.length) : i = vs.length := by
  by_cases hlt : i < vs.length
  · rw [List.drop_eq_getElem_cons hlt] at h
    cases h
  · omega
theorem ints_at {vs : List Value} {ns : List Int} (h : IntsAre vs ns) {i : Nat} {v : Value} (e : vs[i]? = some v) : ∃ n t, ns[i]? = some n ∧ v = .int n t := by
  have hi : i < ns.length := by rw [← h.length]; exact (List.getElem?_eq_some_iff.mp e).1
  obtain ⟨t, ht⟩ := h.get i ns[i] (List.getElem?_eq_getElem hi)
  rw [e] at ht
  exact ⟨ns[i], t, List.getElem?_eq_getElem hi, Option.some.inj ht⟩
theorem enumI_succ (l : List Int) (i : Nat) (c : Int) (h : l[i]? = some c) : (enumI l).take (i + 1) = (enumI l).take i ++ [(c, (i : Int))] := by
  have e : (enumI l)[i]? = some (c, (i : Int)) := by
    unfold enumI
    rw [List.getElem?_map, List.getElem?_zipIdx, h]
    simp
  rw [List.take_add_one, e]; rfl
/-- one more insert -/
theorem ord_succ (cols : List Int) (i : Nat) (c : Int) (h : cols[i]? = some c) : ((enumI cols).take (i + 1)).foldl ins [] = ins (((enumI cols).take i).foldl ins []) (c, (i : Int)) := by
  have e : (enumI cols)[i]? = some (c, (i : Int)) := by
    unfold enumI
    rw [List.getElem?_map, List.getElem?_zipIdx, h]
    simp
  rw [List.take_add_one, e]
  simp
theorem foldl_ins_length (l : List (Int × Int)) : ∀ o : List (Int × Int), (l.foldl ins o).length = o.length + l.length := by
  induction l with
  | nil => intro o; rfl
  | cons p r ih => intro o; rw [List.foldl_cons, ih, ins_length, List.length_cons]; omega
theorem enumI_length (l : List Int) : (enumI l).length = l.length := by simp [enumI]
theorem sortBy_mem4 (ps : List (Int × Int)) (h : ps.length ≤ 4) : ∀ p ∈ sortBy ps, p ∈ ps := by
  intro p hp
  unfold sortBy at hp
  by_cases h2 : ps.length < 2
  · rw [if_pos h2] at hp; exact hp
  · rw [if_neg h2] at hp
    obtain ⟨i, hi, rfl⟩ := List.mem_map.mp hp
    have hlt : i < ps.length := by
      have : ∀ t : KasT (Array Nat), kIn0 ps.length t = true → ∀ i ∈ (kRun (fun i j => plt (ps.getD i (0, 0)) (ps.getD j (0, 0))) t).toList, i < ps.length := by
        intro t
        induction t with
        | ret a => intro hk i hi; exact of_decide_eq_true (List.all_eq_true.mp hk i hi)
        | ask i j k ih =>
          intro hk x hx
          obtain ⟨h1, h2⟩ := Bool.and_eq_true_iff.mp (show (kIn0 ps.length (k true) && kIn0 ps.length (k false)) = true from hk)
          have hx' : x ∈ (kRun (fun i j => plt (ps.getD i (0, 0)) (ps.getD j (0, 0))) (k (plt (ps.getD i (0, 0)) (ps.getD j (0, 0))))).toList := hx
          cases hb : plt (ps.getD i (0, 0)) (ps.getD j (0, 0)) with
          | false => rw [hb] at hx'; exact ih false h2 x hx'
          | true => rw [hb] at hx'; exact ih true h1 x hx'
      refine this (kas_sort ps.length) ?_ i hi
      rcases (by omega : ps.length = 2 ∨ ps.length = 3 ∨ ps.length = 4) with e | e | e <;> rw [e] <;> decide +kernel
    rw [List.getD_eq_getElem?_getD, List.getElem?_eq_getElem hlt]
    exact List.getElem_mem hlt
theorem enumI_mem {l : List Int} {p : Int × Int} (h : p ∈ enumI l) : p.1 ∈ l := by
  unfold enumI at h
  obtain ⟨x, hx, rfl⟩ := List.mem_map.mp h
  obtain ⟨a, b⟩ := x
  exact (List.mem_zipIdx hx).2.2 ▸ List.getElem_mem _
end Mine
end PartM1
section PartM2
namespace Mine
open PySem PySem.W PyProof.Rows PySem.Calls PySem.Spec
set_option maxRecDepth 100000
noncomputable def insI (x : Int) : List Int → List Int
  | [] => [x]
  | y :: r => if x ≤ y then x :: y :: r else y :: insI x r
noncomputable def isort : List Int → List Int
  | [] => []
  | x :: r => insI x (isort r)
noncomputable def tops (rs cols : List Int) (k : Nat) : Bool := decide ((cols.map fun c => if (k : Int) < c then (k : Int) else c).sum < ((isort rs).reverse.take k).sum)
noncomputable def canbe (rs cols : List Int) : Bool := decide (rs.sum = cols.sum) && ((List.range (rs.length + 1)).filter fun k => tops rs cols k).isEmpty
theorem insI_perm (x : Int) : ∀ l : List Int, (insI x l).Perm (x :: l)
  | [] => .refl _
  | y :: r => by
    unfold insI
    by_cases h : x ≤ y
    · rw [if_pos h]
    · rw [if_neg h]
      exact ((insI_perm x r).cons y).trans (.swap x y r)
theorem isort_perm : ∀ l : List Int, (isort l).Perm l
  | [] => .refl _
  | x :: r => (insI_perm x _).trans ((isort_perm r).cons x)
theorem insI_sorted (x : Int) : ∀ l : List Int, l.Pairwise (· ≤ ·) → (insI x l).Pairwise (· ≤ ·)
  | [], _ => by simp [insI]
  | y :: r, h => by
    obtain ⟨h1, h2⟩ := List.pairwise_cons.mp h
    unfold insI
    by_cases hxy : x ≤ y
    · rw [if_pos hxy]
      refine List.pairwise_cons.mpr ⟨fun z hz => ?_, h⟩
      rcases List.mem_cons.mp hz with rfl | hz
      · exact hxy
      · exact Int.le_trans hxy (h1 z hz)
    · rw [if_neg hxy]
      refine List.pairwise_cons.mpr ⟨fun z hz => ?_, insI_sorted x r h2⟩
      rcases List.mem_cons.mp ((insI_perm x r).mem_iff.mp hz) with rfl | hz
      · omega
      · exact h1 z hz
theorem isort_sorted : ∀ l : List Int, (isort l).Pairwise (· ≤ ·)
  | [] => .nil
  | x :: r => insI_sorted x _ (isort_sorted r)
theorem isort_uniq {a l : List Int} (p : a.Perm l) (o : a.Pairwise (· ≤ ·)) : a = isort l := PySem.W.lks_uniq (p.trans (isort_perm l).symm) o (isort_sorted l)
end Mine
end PartM2
section PartL6
open PySem PySem.W PyProof.Rows PySem.Calls PySem.Spec PyProof.Rows.LCg
set_option maxRecDepth 100000
set_option maxHeartbeats 4000000
namespace Mine
noncomputable def kIn (n : Nat) : KasT (Array Nat) → Bool
  | .ret a => a.toList.all fun i => decide (i < n)
  | .ask i j k => decide (i < n) && decide (j < n) && kIn n (k true) && kIn n (k false)
theorem kIn_sort (n : Nat) (h2 : 2 ≤ n) (h4 : n ≤ 4) : kIn n (kas_sort n) = true := by
  rcases (by omega : n = 2 ∨ n = 3 ∨ n = 4) with rfl | rfl | rfl <;> decide +kernel
theorem kas_run {cmp : Nat → Nat → (Bool → Shared → Prop) → Shared → Prop} {f : Nat → Nat → Bool} {n : Nat} {s : Shared} {Q : Array Nat → Shared → Prop}
    (hc : ∀ i j (C : Bool → Shared → Prop), i < n → j < n → C (f i j) s → cmp i j C s) : ∀ t : KasT (Array Nat), kIn n t = true → Q (kRun f t) s → t.kasWp cmp Q s
  | .ret a, _, h => h
  | .ask i j k, hk, h => by
    unfold kIn at hk
    simp only [Bool.and_eq_true, decide_eq_true_eq] at hk
    obtain ⟨⟨⟨hi, hj⟩, ht⟩, hf⟩ := hk
    refine hc i j _ hi hj ?_
    refine kas_run hc _ ?_ h
    cases f i j
    · exact hf
    · exact ht
theorem kRun_lt {f : Nat → Nat → Bool} {n : Nat} : ∀ t : KasT (Array Nat), kIn n t = true → ∀ i ∈ (kRun f t).toList, i < n
  | .ret a, hk, i, hi => by
    unfold kIn at hk
    exact of_decide_eq_true (List.all_eq_true.mp hk i hi)
  | .ask i j k, hk, x, hx => by
    unfold kIn at hk
    simp only [Bool.and_eq_true, decide_eq_true_eq] at hk
    obtain ⟨⟨⟨_, _⟩, ht⟩, hf⟩ := hk
    have hx' : x ∈ (kRun f (k (f i j))).toList := hx
    cases hb : f i j with
    | false => rw [hb] at hx'; exact kRun_lt _ hf x hx'
    | true => rw [hb] at hx'; exact kRun_lt _ ht x hx'
theorem pat_picks {news : List (Addr × Obj)} {vs : List Value} {ps : List (Int × Int)} (h : PsAt news vs ps) : ∀ l : List Nat, (∀ i ∈ l, i < ps.length) → PsAt news (l.map fun i => vs.getD i Value.none) (l.map fun i => ps.getD i (0, 0))
  | [], _ => .nil
  | i :: r, hi => by
    obtain ⟨v, hv, hp⟩ := h.get i (hi i List.mem_cons_self)
    refine .cons ?_ (pat_picks h r fun j hj => hi j (List.mem_cons_of_mem _ hj))
    show PAt news (vs.getD i Value.none) (ps.getD i (0, 0))
    have e : vs.getD i Value.none = v := by rw [List.getD_eq_getElem?_getD, hv]; rfl
    rw [e]
    exact hp
theorem kat_tups {h : Heap} {h₀ : Heap} {L : Addr} {news : List (Addr × Obj)} (N : News h₀ L h news) : ∀ {vs : List Value} {ps : List (Int × Int)}, PsAt news vs ps → ∃ fs : List Value, fs.length = ps.length ∧ KatTups h vs fs ∧ ∀ v ∈ fs, ∃ i t, v = .int i t
  | _, _, .nil => ⟨[], rfl, .nil, fun _ hv => nomatch hv⟩
  | _, _, .cons (p := p) ⟨a, t1, t2, n, e, hm⟩ r => by
    obtain ⟨fs, h1, h2, h3⟩ := kat_tups N r
    refine ⟨.int p.1 t1 :: fs, by simp [h1], ?_, fun v hv => ?_⟩
    · subst e
      exact KatTups.cons (N.get hm) rfl rfl rfl h2
    · rcases List.mem_cons.mp hv with rfl | hv
      · exact ⟨_, _, rfl⟩
      · exact h3 v hv
section
variable {prog : Program} {w : World} {A : Around} {E : Value → Shared → Prop} {s : Shared} {h₀ : Heap} {L : Addr} {m : Str → Option Value} {news : List (Addr × Obj)} {vs : List Value} {ps : List (Int × Int)}
theorem key_lt {x y : Value} {p q : Int × Int} {C : Bool → Shared → Prop} (hx : TupI s.heap x p) (hy : TupI s.heap y q) (h : C (plt p q) s) :
    wpAny (model prog w) A (keyLt' (tuples' true) x y) C (fun _ _ => False) s := by
  obtain ⟨a, t1, t2, n, rfl, ha⟩ := hx
  obtain ⟨b, u1, u2, k, rfl, hb⟩ := hy
  refine kat_lt ha rfl hb rfl ?_
  refine kat_cons (wpAny_eqBool_int ?_)
  by_cases h1 : p.1 = q.1
  · have e1 : (p.1 == q.1) = true := by simpa using h1
    rw [e1]
    refine kat_yes (kat_cons (wpAny_eqBool_int ?_))
    by_cases h2 : p.2 = q.2
    · have e2 : (p.2 == q.2) = true := by simpa using h2
      rw [e2]
      refine kat_yes (kat_nil ?_)
      have : plt p q = false := by unfold plt; rw [if_pos h1]; simp; omega
      rw [this] at h
      exact h
    · have e2 : (p.2 == q.2) = false := by simpa using h2
      rw [e2]
      refine kat_no ?_
      show wpAny _ _ (oneLt' false _ _) _ _ _
      refine kat_one _ _ (lt_int ?_)
      have : plt p q = decide (p.2 < q.2) := by unfold plt; rw [if_pos h1]
      rw [this] at h
      exact h
  · have e1 : (p.1 == q.1) = false := by simpa using h1
    rw [e1]
    refine kat_no ?_
    show wpAny _ _ (oneLt' true _ _) _ _ _
    refine oneLt_int ?_
    have : plt p q = decide (p.1 < q.1) := by unfold plt; rw [if_neg h1]
    rw [this] at h
    exact h
theorem sorted_two {l : Addr} {Q : Value → Shared → Prop} (F : Fr h₀ L s.heap m) (N : News h₀ L s.heap news) (hl : s.heap.IsList l vs.toArray) (hps : PsAt news vs ps) (h2 : 2 ≤ ps.length) (h4 : ps.length ≤ 4)
    (h : ∀ D n h' out, Fr h₀ L h' m → News h₀ L h' ((D, listOf (List.toArray out) n) :: news) → (∀ q ∈ news, q.1 < D) → PsAt news out (sortBy ps) → Q (.ref D) { s with heap := h' }) :
    wpAny (model prog w) A (call (.builtin "sorted") [.ref l]) Q E s := by
  have hlen := hps.length
  refine kat_sorted F N hl (by omega) (by omega) fun D e1 h' F' N' hlt => ?_
  have N'' : News h₀ L h' news := fun p hp => N' p (List.mem_cons_of_mem _ hp)
  obtain ⟨fs, hf1, hf2, hf3⟩ := kat_tups N'' hps
  refine kat_kind (T := .type "int") hf2 (by omega) (fun v hv => by obtain ⟨i, t, rfl⟩ := hf3 v hv; exact Looks.of_pure rfl) (by decide) ?_
  show (kas_sort vs.length).kasWp (kas_ask prog w A.in1.in1 (tuples' true) vs) _ _
  rw [hlen]
  refine kas_run (f := fun i j => plt (ps.getD i (0, 0)) (ps.getD j (0, 0))) (n := ps.length) (fun i j C hi hj hC => ?_) _ (kIn_sort _ h2 h4) ?_
  · obtain ⟨v, hv, hp⟩ := hps.get i hi
    obtain ⟨u, hu, hq⟩ := hps.get j hj
    show wpAny _ _ (keyLt' _ (vs.getD i _) (vs.getD j _)) _ _ _
    rw [List.getD_eq_getElem?_getD, hv, List.getD_eq_getElem?_getD, hu]
    exact key_lt (hp.tup N'') (hq.tup N'') hC
  · refine KasFin.intro F' N' (.head fun p hp => Nat.ne_of_lt (hlt p hp)) fun h2' c F2 N2 => ?_
    refine h D c h2' _ F2 N2 hlt ?_
    have e : sortBy ps = (kRun (fun i j => plt (ps.getD i (0, 0)) (ps.getD j (0, 0))) (kas_sort ps.length)).toList.map fun i => ps.getD i (0, 0) := by
      unfold sortBy; rw [if_neg (by omega)]
    rw [e]
    exact pat_picks hps _ (kRun_lt _ (kIn_sort _ h2 h4))

theorem short_sort {a : Addr} {n : Nat} {P : PySem.Fin → Shared → Prop} (F : Fr h₀ L s.heap m) (N : News h₀ L s.heap news) (ho : s.heap.get? a = some (seqObj "list" vs.toArray n)) (haL : a ≠ L) (ha0 : h₀.get? a = none) (hna : ∀ p ∈ news, p.1 ≠ a)
    (h2 : vs.length < 2) (h : ∀ c h', Fr h₀ L h' m → News h₀ L h' ((a, listOf vs.toArray c) :: news) → P (.done (.ret .none)) { s with heap := h' }) :
    wpAny (model prog w) A (Builtin.«list.sort» ⟨[.ref a], []⟩) P E s := by
  have ha : a < s.heap.objs.size := Heap.lt_size ho
  have s1 := Heap.SameBut.update s.heap a (Obj.mapSeq fun _ => (#[] : Array Value))
  obtain ⟨e1, ho1⟩ : ∃ e1, (s.heap.update a (Obj.mapSeq fun _ => (#[] : Array Value))).get? a = some (seqObj "list" #[] e1) := ⟨_, get?_update_seq ho fun _ => #[]⟩
  have F3 : Fr h₀ L (((s.heap.update a (Obj.mapSeq fun _ => (#[] : Array Value))).push (seqObj "tuple" vs.toArray 0)).push (seqObj "list" #[] 0)) m := ((kas_fr F s1 haL ha0).push _).push _
  have N2 : News h₀ L (((s.heap.update a (Obj.mapSeq fun _ => (#[] : Array Value))).push (seqObj "tuple" vs.toArray 0)).push (seqObj "list" #[] 0)) news :=
    (kas_news N s1 hna).grown fun b x e => Heap.get?_push_of_some _ (Heap.get?_push_of_some _ e)
  have ho3 : (((s.heap.update a (Obj.mapSeq fun _ => (#[] : Array Value))).push (seqObj "tuple" vs.toArray 0)).push (seqObj "list" #[] 0)).get? a = some (seqObj "list" #[] e1) := Heap.get?_push_of_some _ (Heap.get?_push_of_some _ ho1)
  rw [list_sort_plain]
  refine wpAny_bind (listItems_at ho rfl ?_)
  refine wpAny_bind (listUpdate_at ho rfl ?_ (by rw [List.size_toArray, sizeLine_eq]; omega) (Nat.zero_le _))
  refine wpAny_bind (seqEpoch_at ho1 rfl ?_)
  refine wpAny_bind (wpAny_newTuple ?_ (by show vs.length ≤ _; rw [sizeLine_eq]; omega))
  refine wpAny_bind (wpAny_newList ?_ (Nat.zero_le _))
  refine wpAny_holding ?_
  show wpAny (model prog w) A _ P E { s with heap := ((s.heap.update a (Obj.mapSeq fun _ => (#[] : Array Value))).push (seqObj "tuple" vs.toArray 0)).push (seqObj "list" #[] 0) }
  dsimp only
  have hn2 : vs.toArray.size < 2 := by rw [List.size_toArray]; omega
  rw [if_pos hn2, if_pos hn2]
  refine wpAny_bind (wpAny_pure (wpAny_bind (wpAny_pure ?_)))
  have hsnd : (arrOf (SortSt.mk' general' (vs.toArray.zip vs.toArray) #[] 7 none)).map (·.2) = vs.toArray := by
    show (vs.toArray.zip vs.toArray).map (·.2) = vs.toArray
    apply Array.toList_inj.mp
    simp
    exact List.map_snd_zip (Nat.le_refl _)
  dsimp only
  rw [hsnd]
  refine wpAny_bind (seqEpoch_at ho3 rfl ?_)
  refine wpAny_bind (listUpdate_at ho3 rfl ?_ (Nat.zero_le _) (by rw [List.size_toArray, sizeLine_eq]; omega))
  have s2 := Heap.SameBut.update (((s.heap.update a (Obj.mapSeq fun _ => (#[] : Array Value))).push (seqObj "tuple" vs.toArray 0)).push (seqObj "list" #[] 0)) a (Obj.mapSeq fun _ => vs.toArray)
  obtain ⟨c2, hc2⟩ : ∃ c2, ((((s.heap.update a (Obj.mapSeq fun _ => (#[] : Array Value))).push (seqObj "tuple" vs.toArray 0)).push (seqObj "list" #[] 0)).update a (Obj.mapSeq fun _ => vs.toArray)).get? a = some (seqObj "list" vs.toArray c2) := ⟨_, get?_update_seq ho3 fun _ => vs.toArray⟩
  simp only [bne_self_eq_false, Bool.false_eq_true, if_false]
  refine wpAny_pure (h c2 _ (kas_fr F3 s2 haL ha0) fun p hp => ?_)
  rcases List.mem_cons.mp hp with rfl | hp
  · exact ⟨hc2, haL, ha0⟩
  · exact kas_news N2 s2 hna p hp
theorem sorted_few {l : Addr} {Q : Value → Shared → Prop} (F : Fr h₀ L s.heap m) (N : News h₀ L s.heap news) (hl : s.heap.IsList l vs.toArray) (h2 : vs.length < 2)
    (h : ∀ D n h', Fr h₀ L h' m → News h₀ L h' ((D, listOf vs.toArray n) :: news) → (∀ q ∈ news, q.1 < D) → Q (.ref D) { s with heap := h' }) :
    wpAny (model prog w) A (call (.builtin "sorted") [.ref l]) Q E s := by
  refine Calls.call_function_entry kind_sorted plain_sorted entry_sorted (args_sorted1 _) ?_
  unfold Builtin.«sorted»
  refine wpAny_bind (m := checkCount "sorted" 1 1 _) (wpAny_pure ?_)
  refine wpAny_bind (collect_list hl ?_ (by rw [sizeLine_eq]; omega))
  refine wpAny_bind (wpAny_newList ?_ (by rw [sizeLine_eq]; omega))
  have hsz : ((s.heap.push (seqObj "list" #[] 0)).update s.heap.objs.size (Obj.mapSeq (· ++ vs.toArray))).objs.size = s.heap.objs.size + 1 := by
    rw [Heap.size_update, size_push']
  have hoL : (((s.heap.push (seqObj "list" #[] 0)).update s.heap.objs.size (Obj.mapSeq (· ++ vs.toArray))).push (seqObj "list" vs.toArray 0)).get? (s.heap.objs.size + 1) = some (seqObj "list" vs.toArray 0) := by
    rw [← hsz]; exact Heap.get?_push_size _ rfl
  have keep : ∀ b o, s.heap.get? b = some o → (((s.heap.push (seqObj "list" #[] 0)).update s.heap.objs.size (Obj.mapSeq (· ++ vs.toArray))).push (seqObj "list" vs.toArray 0)).get? b = some o := fun b o q => by
    have hlt : b < s.heap.objs.size := Heap.lt_size q
    rw [Heap.get?_push_ne _ _ _ (by rw [hsz]; exact Nat.ne_of_lt (Nat.lt_succ_of_lt hlt)), Heap.get?_update_ne _ _ _ _ (Nat.ne_of_lt hlt), Heap.get?_push_ne _ _ _ (Nat.ne_of_lt hlt)]
    exact q
  have hL : L < s.heap.objs.size := F.ns.lt
  show wpAny _ _ _ _ _ { s with heap := ((s.heap.push (seqObj "list" #[] 0)).update s.heap.objs.size (Obj.mapSeq (· ++ vs.toArray))).push (seqObj "list" vs.toArray 0) }
  rw [hsz]
  refine wpAny_bind (wpAny_holding (wpAny_call_entry slot_list_sort ⟨_, hoL, rfl⟩ entry_list_sort ?body (args_list_sort _)))
  case body =>
    refine short_sort (s := { s with heap := ((s.heap.push (seqObj "list" #[] 0)).update s.heap.objs.size (Obj.mapSeq (· ++ vs.toArray))).push (seqObj "list" vs.toArray 0) })
      (F.kept keep) (N.grown keep) hoL (Nat.ne_of_gt (Nat.lt_succ_of_lt hL)) (Heap.get?_none_of_le (Nat.le_trans F.above (Nat.le_succ_of_le (Nat.le_of_lt hL))))
      (fun p hp => Nat.ne_of_lt (Nat.lt_succ_of_lt (Heap.lt_size (N p hp).1))) h2 fun c h' F' N' => ?_
    exact ⟨_, rfl, wpAny_pure ⟨_, rfl, h _ c h' F' N' fun q hq => Nat.lt_succ_of_lt (Heap.lt_size (N q hq).1)⟩⟩
theorem sorted_pairs {l : Addr} {Q : Value → Shared → Prop} (F : Fr h₀ L s.heap m) (N : News h₀ L s.heap news) (hl : s.heap.IsList l vs.toArray) (hps : PsAt news vs ps) (h4 : ps.length ≤ 4)
    (h : ∀ D n h' out, Fr h₀ L h' m → News h₀ L h' ((D, listOf (List.toArray out) n) :: news) → (∀ q ∈ news, q.1 < D) → PsAt news out (sortBy ps) → Q (.ref D) { s with heap := h' }) :
    wpAny (model prog w) A (call (.builtin "sorted") [.ref l]) Q E s := by
  by_cases h2 : ps.length < 2
  · refine sorted_few F N hl (by rw [hps.length]; exact h2) fun D n h' F' N' hlt => h D n h' vs F' N' hlt ?_
    unfold sortBy; rw [if_pos h2]; exact hps
  · exact sorted_two F N hl hps (by omega) h4 h
end
end Mine
end PartL6
section PartL7
open PySem PySem.W PyProof.Rows PySem.Calls PySem.Spec PyProof.Rows.LCg
set_option maxRecDepth 100000
set_option maxHeartbeats 4000000
namespace Mine
section
variable {prog : Program} {w : World} {A : Around} {E : Value → Shared → Prop} {s : Shared} {env : Env} {h₀ : Heap} {L : Addr} {m : Str → Option Value} {elt iter : Expr} {ifs : List Expr} {scope : Scope} {cl : List (Str × Addr)} {pos : Pos} {Q : Value → Shared → Prop}
/-- the environment of a comprehension whose target is a cell -/
theorem newEnv_cell {n0 n2 n3 n4 x : Str} {k2 : NameKind} {Q : Env → Shared → Prop} (hn : scope.names = [(n0, .local), (x, .cell), (n2, k2), (n3, .free), (n4, .free)]) (hk2 : (k2 == .cell) = false)
    (hQ : Q { scope, locals := s.heap.objs.size, globals := env.globals, cells := (x, s.heap.objs.size + 1) :: cl, qual := env.qual, func := none, code := env.code, frame := env.frame, builtins := env.builtins }
      { s with heap := (s.heap.push { cls := .type "dict", data := .dict #[] }).push { cls := .type "cell", data := .cell none } }) :
    wpAny (model prog w) A (newFunctionEnv scope env.globals cl [] env.qual none .none (some env)) Q E s := by
  simp only [newFunctionEnv, Option.isSome_some, if_true]
  refine wpAny_bind (wpAny_alloc ?_)
  refine wpAny_bind (wpAny_layCells _ (fun name kind cells => by cases hkc : kind == NameKind.cell <;> simp [hkc]) _ _ _ _ ?_)
  have h0 : (NameKind.local == NameKind.cell) = false := rfl
  have h3 : (NameKind.free == NameKind.cell) = false := rfl
  have hz : (s.heap.push { cls := .type "dict", data := .dict #[] }).objs.size = s.heap.objs.size + 1 := Heap.size_push ..
  rw [hn]
  simp only [cellsFrom, pushCells, h0, h3, hk2, beq_self_eq_true, Bool.false_eq_true, if_false, if_true, List.forIn_nil, hz]
  exact wpAny_bind (wpAny_pure (wpAny_pure hQ))

/-- what such a comprehension over a range asks -/
def CGoC (prog : Program) (w : World) (A : Around) (h₀ : Heap) (L : Addr) (m : Str → Option Value) (env : Env) (elt : Expr) (x : Str) (ifs : List Expr) (scope : Scope) (cl : List (Str × Addr)) (Q : Value → Shared → Prop) (xv : Value) (s : Shared) : Prop :=
  ∃ r a b t u v₀ n news, ∃ J : Nat → List Value → List (Addr × Obj) → Prop, xv = .ref r ∧ A.handled = none ∧ Fr h₀ L s.heap m ∧ News h₀ L s.heap news ∧ IsRange s.heap r a b 1 t u v₀ ∧ Builtin.Range.small a b 1 = true ∧ Builtin.Range.rangeSize a b 1 = ((n : Nat) : Int) ∧ n ≤ sizeLine ∧
    (∀ i ys led, J i ys led → ys.length ≤ i) ∧ J 0 [] news ∧
    (∀ C kc ko i t ys led full h tk, i < n → J i ys led → (∀ q ∈ news, q ∈ led) → (∀ q ∈ led, q ∈ full) → (kc, ko) ∈ full → ko.data = .cell (some (.int (a + (i : Int)) t)) → Fr h₀ L h m → News h₀ L h full →
      TestsK prog w A (compEnvC scope ((x, kc) :: cl) C env) ifs (fun s₃ => wpAny (model prog w) A (eval elt (compEnvC scope ((x, kc) :: cl) C env)) (fun y s₄ => CEnd h₀ L m { s with heap := h, toks := tk } full led (J (i + 1) (ys ++ [y])) s₄) (fun _ _ => False) s₃)
        (fun s₃ => CEnd h₀ L m { s with heap := h, toks := tk } full led (J (i + 1) ys) s₃) { s with heap := h, toks := tk }) ∧
    (∀ D h tk ys led, Fr h₀ L h m → News h₀ L h ((D, lst ys) :: led) → (∀ q ∈ news, q ∈ led) → (∀ p ∈ led, p.1 ≠ D) → J n ys led → Q (.ref D) { s with heap := h, toks := tk })
theorem relabel_cell {n0 n2 n3 n4 x : Str} {k2 : NameKind} (hn : scope.names = [(n0, .local), (x, .cell), (n2, k2), (n3, .free), (n4, .free)]) (hx0 : (x == n0) = false) (C : Addr) : (compEnvC scope cl C env).kindOf x = some .cell := by
  show List.lookup x (relabel scope env).names = _
  unfold relabel
  rw [hn]
  simp [List.lookup_cons, hx0]
theorem comp_eval_cell {n0 n2 n3 n4 x : Str} {px : Pos} {k2 : NameKind} (hn : scope.names = [(n0, .local), (x, .cell), (n2, k2), (n3, .free), (n4, .free)]) (hk2 : (k2 == .cell) = false) (hx0 : (x == n0) = false)
    (hifs : ifs.length ≤ 1) (hclos : closureFor scope env = pure cl) (hkind : scope.kind = .function)
    (hnames : ∀ y ∈ scope.names, y.2 = .local → scope.names.lookup y.1 = some .local)
    (h : wpAny (model prog w) A (eval iter env) (CGoC prog w A h₀ L m env elt x ifs scope cl Q) (fun _ _ => False) s)
    (hs : ∀ x, foldedSetIterable iter env x = pure x) :
    wpAny (model prog w) A (eval (.ListComp elt [⟨.Name x px, iter, ifs, 0⟩] scope pos) env) Q E s := by
  refine wpAny_noRaise ?_
  rw [eval_ListComp]
  refine wpAny_comprehension_free (use := none) rfl hs hclos hkind hnames (wpAny_mono h (fun xv s₁ h₁ => ?_) fun _ _ e => e)
  obtain ⟨r, a, b, t, u, v₀, n, news, J, rfl, hh, F, N, hr, hsm, hrn, hnl, Jl, J0, turn, fin⟩ := h₁
  refine wpAny_pyIter_range hr hsm ?_
  have W := range_walks (prog := prog) (w := w) (I := s₁.heap.objs.size) hh a n
  have KT : KTurns prog w A (.Name x px) s₁.heap.objs.size _ _ n _ _ _ := KTurns.ofWalks W (fun i v s Q E st q => by unfold letOwnedTupleGo; exact wpAny_pure q)
  refine wpAny_newObj_type (newEnv_cell hn hk2 ?_)
  have hI0 : h₀.get? s₁.heap.objs.size = none := next_is_new F
  generalize hoI : ({ cls := .type "range_iterator", data := .fields #[rawInt a, rawInt (Builtin.Range.rangeSize a b 1), rawInt 1] } : Obj) = oI
  have hfI : oI.isFreed = false := by rw [← hoI]; rfl
  generalize hH1 : s₁.heap.push oI = H1
  have hz1 : H1.objs.size = s₁.heap.objs.size + 1 := by rw [← hH1, Heap.size_push]
  have hgI : H1.get? s₁.heap.objs.size = some oI := by rw [← hH1]; exact Heap.get?_push_size _ hfI
  have F1 : Fr h₀ L H1 m := by rw [← hH1]; exact F.push _
  have N1 : News h₀ L H1 news := by rw [← hH1]; exact fun p hp => ⟨Heap.get?_push_of_some _ (N p hp).1, (N p hp).2⟩
  dsimp only
  have up2 : ∀ c o, H1.get? c = some o → (((H1.push { cls := .type "list", dict := none, data := .seq ([] : List Value).toArray }).push { cls := .type "dict", data := .dict #[] }).push { cls := .type "cell", data := .cell none }).get? c = some o :=
    fun c o e => Heap.get?_push_of_some _ (Heap.get?_push_of_some _ (Heap.get?_push_of_some _ e))
  have hz2 : (H1.push { cls := .type "list", dict := none, data := .seq ([] : List Value).toArray }).objs.size = H1.objs.size + 1 := Heap.size_push ..
  have hz3 : ((H1.push { cls := .type "list", dict := none, data := .seq ([] : List Value).toArray }).push { cls := .type "dict", data := .dict #[] }).objs.size = H1.objs.size + 1 + 1 := by rw [Heap.size_push, hz2]
  have hD : (((H1.push { cls := .type "list", dict := none, data := .seq ([] : List Value).toArray }).push { cls := .type "dict", data := .dict #[] }).push { cls := .type "cell", data := .cell none }).get? H1.objs.size = some (lst []) :=
    Heap.get?_push_of_some _ (Heap.get?_push_of_some _ (Heap.get?_push_size _ rfl))
  have hCns : (((H1.push { cls := .type "list", dict := none, data := .seq ([] : List Value).toArray }).push { cls := .type "dict", data := .dict #[] }).push { cls := .type "cell", data := .cell none }).Ns (H1.objs.size + 1) (fun _ => none) := by
    have := (Heap.Ns.new (H1.push { cls := .type "list", dict := none, data := .seq ([] : List Value).toArray }) (.type "dict")).push { cls := .type "cell", data := .cell none }
    rw [hz2] at this
    exact this
  have hK : (((H1.push { cls := .type "list", dict := none, data := .seq ([] : List Value).toArray }).push { cls := .type "dict", data := .dict #[] }).push { cls := .type "cell", data := .cell none }).get? (H1.objs.size + 1 + 1) = some { cls := .type "cell", data := .cell none } := by
    have := Heap.get?_push_size ((H1.push { cls := .type "list", dict := none, data := .seq ([] : List Value).toArray }).push { cls := .type "dict", data := .dict #[] }) (o := { cls := .type "cell", data := .cell none }) rfl
    rw [hz3] at this
    exact this
  rw [hz2]
  generalize ((H1.push { cls := .type "list", dict := none, data := .seq ([] : List Value).toArray }).push { cls := .type "dict", data := .dict #[] }).push { cls := .type "cell", data := .cell none } = H4 at up2 hD hCns hK ⊢
  have fresh₀ : ∀ a, H1.objs.size ≤ a → h₀.get? a = none := fun a ha => by
    cases e : h₀.get? a with
    | none => rfl
    | some o' => exact absurd (Heap.lt_size (F1.keep a o' e)) (Nat.not_lt.mpr ha)
  have hLlt : L < H1.objs.size := F1.ns.lt
  have hD₀ := fresh₀ H1.objs.size (Nat.le_refl _)
  have hC₀ := fresh₀ (H1.objs.size + 1) (Nat.le_succ _)
  have hK₀ := fresh₀ (H1.objs.size + 1 + 1) (Nat.le_trans (Nat.le_succ _) (Nat.le_succ _))
  have nlt : ∀ b, b < H1.objs.size → b ≠ H1.objs.size ∧ b ≠ H1.objs.size + 1 ∧ b ≠ H1.objs.size + 1 + 1 := fun b hb => ⟨Nat.ne_of_lt hb, Nat.ne_of_lt (Nat.lt_succ_of_lt hb), Nat.ne_of_lt (Nat.lt_succ_of_lt (Nat.lt_succ_of_lt hb))⟩
  have hIlt : s₁.heap.objs.size < H1.objs.size := by rw [hz1]; exact Nat.lt_succ_self _
  have loop : ∀ s₃ : Shared, s₃ = { s₁ with heap := H4 } →
      codeAny (model prog w) A (.compLoop (.ListComp elt [⟨.Name x px, iter, ifs, 0⟩] scope pos) 0 (.ref s₁.heap.objs.size) (.ref H1.objs.size) (compEnvC scope ((x, H1.objs.size + 1 + 1) :: cl) (H1.objs.size + 1) env))
        (compPost (model prog w) A (fun _ _ => False) none Q (.ref H1.objs.size) (H1.objs.size + 1)) s₃ := by
    rintro s₃ rfl
    refine comp_block (ce := [H1.objs.size + 1, H1.objs.size + 1 + 1]) (En := fun h => (∃ m', h.Ns (H1.objs.size + 1) m') ∧ ∃ v, h.IsCell (H1.objs.size + 1 + 1) v)
      (Bd := fun i bl => ∃ ko t, (H1.objs.size + 1 + 1, ko) ∈ bl ∧ ko.data = .cell (some (.int (a + (i : Int)) t))) (news := news) (St := fun i h => IsRangeIter h s₁.heap.objs.size (a + (i : Nat) * 1) ((n : Int) - (i : Nat)) 1)
      hifs KT ?_ ?_ (fun i h st b hb => ?_) ?_ ?_ ?_ ?_ ?_ hD₀ (Ne.symm (nlt L hLlt).1) (fun h h' ⟨⟨m', e1⟩, v, e2⟩ hk => ⟨⟨m', e1.at' fun o e => hk _ (by simp) o e⟩, v, ?_⟩) (fun h ⟨⟨m', e1⟩, v, e2⟩ c hc => ?_) ?_ hnl J Jl ?_ ⟨⟨_, hCns⟩, _, _, hK, rfl⟩ (F1.keeps up2) (fun p hp => ?_) (fun p hp => ?_) J0 ?_ ?_
    · intro hm; exact absurd F.ns.lt ((List.mem_singleton.mp hm) ▸ Nat.lt_irrefl _)
    · intro b hb; rw [List.mem_singleton.mp hb]; exact hI0
    · rw [List.mem_singleton.mp hb]; exact ⟨_, st⟩
    · intro c hc
      rcases List.mem_cons.mp hc with rfl | hc
      · exact hC₀
      · rw [List.mem_singleton.mp hc]; exact hK₀
    · simp only [List.mem_cons, List.not_mem_nil, or_false, not_or]; exact ⟨(nlt L hLlt).2.1, (nlt L hLlt).2.2⟩
    · simp only [List.mem_cons, List.not_mem_nil, or_false, not_or]; exact ⟨Nat.ne_of_lt (Nat.lt_succ_self _), Nat.ne_of_lt (Nat.lt_succ_of_lt (Nat.lt_succ_self _))⟩
    · intro c hc hf
      rw [List.mem_singleton.mp hf] at hc
      rcases List.mem_cons.mp hc with e | hc
      · exact (nlt _ hIlt).2.1 e
      · exact (nlt _ hIlt).2.2 (List.mem_singleton.mp hc)
    · intro hf; exact (nlt _ hIlt).1 (List.mem_singleton.mp hf).symm
    · obtain ⟨o, e, d⟩ := e2; exact ⟨o, hk _ (by simp) o e, d⟩
    · rcases List.mem_cons.mp hc with rfl | hc
      · obtain ⟨o, e, _⟩ := ns_obj e1; exact ⟨o, e⟩
      · rw [List.mem_singleton.mp hc]; obtain ⟨o, e, _⟩ := e2; exact ⟨o, e⟩
    · rintro i v s₀ Q' hi ⟨t', rfl⟩ hnews ⟨⟨m', e1⟩, v', e2⟩ k
      refine wpAny_assign_Name (wpAny_storeName_cell (by simp [compEnvC, relabel, hkind]) (relabel_cell hn hx0 _) (by simp [compEnvC]) e2 fun h' hv hs' => ?_)
      obtain ⟨ko, hko, hkd⟩ := hv
      refine k h' _ [(H1.objs.size + 1 + 1, ko)] ⟨⟨m', e1.sameBut hs' (Nat.ne_of_lt (Nat.lt_succ_self _))⟩, _, ko, hko, hkd⟩ (by simpa using hko) ⟨ko, t', by simp, hkd⟩ fun c o hc e => hs'.extBut c o (fun q => hc (by simp [q])) e
    · show H4.get? s₁.heap.objs.size = some _
      rw [up2 _ _ hgI, ← hoI, hrn]
      simp
    · rcases List.mem_cons.mp hp with rfl | hp
      · exact ⟨hD, Ne.symm (nlt L hLlt).1, hD₀⟩
      · exact ⟨up2 _ _ (N1 p hp).1, (N1 p hp).2⟩
    · have h1 := nlt p.1 (Heap.lt_size (N1 p hp).1)
      refine ⟨fun hI => ?_, ?_, h1.1⟩
      · exact absurd (Heap.lt_size (N p hp).1) ((List.mem_singleton.mp hI) ▸ Nat.lt_irrefl _)
      · simp only [List.mem_cons, List.not_mem_nil, or_false, not_or]; exact h1.2
    · rintro i ys led full h tk bl hi hJ hsub hsubf hbl ⟨ko, t', hm, hd⟩ F' N'
      exact turn _ _ ko i t' ys led full h tk hi hJ hsub hsubf (hbl _ hm) hd F' N'
    · rintro h tk ys led ⟨⟨m', hn'⟩, _⟩ F' N' hsub hoff hJ
      refine ⟨m', hn', fun h'' hs'' => fin _ h'' tk ys led (F'.change hs'' (Ne.symm (nlt L hLlt).2.1) hC₀) (fun p hp => ?_) hsub (fun p hp => (hoff p hp).2) hJ⟩
      refine ⟨hs''.extBut _ _ ?_ (N' p hp).1, (N' p hp).2⟩
      rcases List.mem_cons.mp hp with rfl | hp
      · exact Nat.ne_of_lt (Nat.lt_succ_self _)
      · exact fun e => (hoff p hp).1 (by simp [e])
  have st₁ : IsRangeIter H4 s₁.heap.objs.size (a + ((0 : Nat) : Int) * 1) ((n : Int) - ((0 : Nat) : Int)) 1 := by
    show H4.get? s₁.heap.objs.size = some _
    rw [up2 _ _ hgI, ← hoI, hrn]
    simp
  exact codeAny_compStart_list (loop _ rfl) (W.self 0 _ _ _ st₁ (loop _ rfl))
end
end Mine
end PartL7
section PartC1
open PySem PySem.W PyProof.Rows PySem.Calls PySem.Spec
set_option maxRecDepth 100000
set_option maxHeartbeats 8000000
namespace Mine
noncomputable abbrev PR : Program := PySem.Challenge.rw_hu0002_01.row.prog
noncomputable abbrev LO : List Str := looseW hd.view_39 [Str.ofString "insort_left", Str.ofString "bisect_left"]
theorem fill0 : PySem.Challenge.rw_hu0002_01 = PySem.Challenge.rw_hu0002_01 ∧ hd.heap_39 = hd.heap_39 := by k_fill; exact ⟨rfl, rfl⟩
local macro_rules | `(tactic| k_enter) => `(tactic| (refine' code_def ?k1 ?k2 ?k3 ?k4 ?k5 ?kA ?kF ?kK ?k6 ?k7 ?k8 ?k9 ?kB ?_ ?c2 ?c3 ?c4 ?c5; (case kA => exact rfl); (case kF => exact rfl); (case kK => first | exact rfl | assumption); (case k1 => k_asm); (case k2 => k_asm); (case k3 => k_asm); (case k4 => k_asm); (case k5 => k_asm); (case k6 => k_is); (case k7 => k_is); (case k8 => ktr_room); (case k9 => (first | exact BindsTo.of_eq rfl | (refine' kp_binds ?kx ?ke; (case kx => k_in); (case ke => exact fun _ => rfl)))); (case c5 => decide); (case kB => exact locs rfl); (case c2 => exact rfl); (case c3 => exact rfl); (case c4 => exact rfl); k_whole; intro g' L' h' FG' F' N' B' X' T'; (try dsimp only); (refine wpAny_noRaise ?_); (try k_fold)))
local macro_rules | `(tactic| walk_at "eval Name") => `(tactic| (k_here; k_dflt (refine' nameX_L ?F ?v ?_ ?a ?b; (case F => k_asm); (case a => rfl); (case b => rfl); (case v => first | exact rfl | assumption); k_whole)))

local macro_rules | `(tactic| walk_at "exec While Compare cons nil") => `(tactic| refine stop_ ?_)
local macro_rules | `(tactic| k_steps) => `(tactic| repeat' (first | (k_unfold; (try dsimp only)) | walk1 | (dsimp only; walk1) | fail "no step"))
theorem bis_ct {w : World} {mean : ExcName → Option Value} {mg mb : Str → Option Value}
   (dp un : Nat) (gd : Option (List Code)) (cn : Str) (cs : Scope) (a : Addr) (ccd : Value) (cl : List (Str × Addr)) (outer : List Env) (A₀ : Around) (base h₀ : Heap) (L : Addr) (m : Str → Option Value) (s : Shared) (Q E : Value → Shared → Prop)
   (news : List (Addr × Obj))
   (B : Below A₀ base outer h₀) (F : Fr h₀ L s.heap m) (X : (hd.heap_39 w.params).In h₀) (N : News h₀ L s.heap news) (T : Top hd.view_39 LO mean mg mb h₀) (hk : cs.kind = .function)
   (l : Addr) (x : Value) (its : List Value) (n : Nat) (ps : List (Int × Int)) (p : Int × Int) (t0 : Tok)
   (hl : (l, listOf its.toArray n) ∈ news) (hps : PsAt news its ps) (hp : PAt news x p) (hlen : ps.length ≤ 100)
   (hdp : dp + 5 < recursionLimit) (hun : un + 20 < cLine)
   (hret : ∀ t h' tk', Fr h₀ L h' m → News h₀ L h' news → Q (.int (bis ps p : Nat) t) {s with heap := h', toks := tk'}) :
   wpAny (model PR w) (ktrTop dp un gd cn cs L a ccd cl outer) (call (.ref 32) [.ref l, x, .int 0 t0, .none]) Q E s := by
  refine wpAny_call ?_
  k_dflt k_enter
  rename Fr _ _ _ _ => F1
  rename News _ _ _ _ => N1
  replace F1 := fr_re (m' := mp [("key", .none), ("hi", .none), ("lo", .int 0 t0), ("x", x), ("a", .ref l)]) F1 rfl
  k_steps
  have hl1 := N1.isList hl
  have hilen := hps.length
  refine call_len_list hl1 (by rw [List.size_toArray]; omega) ?_
  k_steps
  refine Stop.go ?_
  rename Fr _ _ _ _ => F2
  rename News _ _ _ _ => N2
  refine while_rule (fun n => At s _ _ fun m₁ news₁ => news₁ = news ∧ ∃ tl th, ∃ lo hi : Nat, 
    m₁ "a" = some (.ref l) ∧ m₁ "x" = some x ∧ m₁ "lo" = some (.int lo tl) ∧ m₁ "hi" = some (.int hi th) ∧ hi ≤ ps.length ∧ hi - lo ≤ n ∧
    bisF (fun i => plt (ps.getD i (0, 0)) p) n lo hi = bis ps p) ?_ ps.length ⟨_, _, _, _, rfl, F2, N2, rfl, _, _, 0, ps.length, rfl, rfl, rfl, by rw [← hilen]; rfl, Nat.le_refl _, by omega, rfl⟩
  rintro n s' ⟨h, tk, m₁, _, rfl, F3, N3, rfl, tl, th, lo, hi, ma, mx, mlo, mhi, hhi, hn, hb⟩
  clear F2 N2 hl1
  k_steps
  all_goals (try dsimp only)
  · rename (lo : Int) < hi => hlt
    have hlt' : lo < hi := by omega
    have hmid : ((lo : Int) + hi).fdiv 2 = (((lo + hi) / 2 : Nat) : Int) := by
      rw [Int.fdiv_eq_ediv_of_nonneg _ (by decide)]; omega
    have hm2 : (lo + hi) / 2 < ps.length := by omega
    rename Fr _ _ _ _ => F4
    rename News _ _ _ _ => N4
    dsimp only at F4
    rw [hmid] at F4 ⊢
    obtain ⟨v, hv, hpv⟩ := hps.get _ hm2
    refine getItem_led (N4.isList hl) (by omega) (by omega) (by rw [Int.toNat_natCast]; exact hv) ?_
    k_steps
    (try dsimp only)
    refine lt_tup (by ktr_units) (hpv.tup N4) (hp.tup N4) ?_
    k_steps
    · rename plt _ _ = true => hc
      rename Fr _ _ _ _ => F5
      rename News _ _ _ _ => N5
      cases n with
      | zero => omega
      | succ n =>
        refine WEnd.intro n (Nat.lt_succ_self n) ⟨_, _, _, _, rfl, F5, N5, rfl, _, _, (lo + hi) / 2 + 1, hi, ma, mx, rfl, mhi, hhi, by omega, ?_⟩
        rw [← hb]
        show _ = bisF _ (n + 1) lo hi
        rw [bisF, if_pos hlt', if_pos hc]
    · rename plt _ _ = false => hc
      rename Fr _ _ _ _ => F5
      rename News _ _ _ _ => N5
      cases n with
      | zero => omega
      | succ n =>
        refine WEnd.intro n (Nat.lt_succ_self n) ⟨_, _, _, _, rfl, F5, N5, rfl, _, _, lo, (lo + hi) / 2, ma, mx, mlo, rfl, by omega, by omega, ?_⟩
        rw [← hb]
        show _ = bisF _ (n + 1) lo hi
        rw [bisF, if_pos hlt', if_neg (by rw [hc]; decide)]
  · have : bis ps p = lo := by
      rw [← hb]
      cases n with
      | zero => rfl
      | succ n => unfold bisF; rw [if_neg (by omega)]
    rw [this] at hret
    exact hret _ _ _ (by assumption) (by assumption)
end Mine
end PartC1
section PartC2
open PySem PySem.W PyProof.Rows PySem.Calls PySem.Spec
set_option maxRecDepth 100000
set_option maxHeartbeats 8000000
namespace Mine
theorem fill1 : PySem.Challenge.rw_hu0002_01 = PySem.Challenge.rw_hu0002_01 ∧ hd.heap_39 = hd.heap_39 := by k_fill; exact ⟨rfl, rfl⟩
local macro_rules | `(tactic| k_enter) => `(tactic| (refine' code_def ?k1 ?k2 ?k3 ?k4 ?k5 ?kA ?kF ?kK ?k6 ?k7 ?k8 ?k9 ?kB ?_ ?c2 ?c3 ?c4 ?c5; (case kA => exact rfl); (case kF => exact rfl); (case kK => first | exact rfl | assumption); (case k1 => k_asm); (case k2 => k_asm); (case k3 => k_asm); (case k4 => k_asm); (case k5 => k_asm); (case k6 => k_is); (case k7 => k_is); (case k8 => ktr_room); (case k9 => (first | exact BindsTo.of_eq rfl | (refine' kp_binds ?kx ?ke; (case kx => k_in); (case ke => exact fun _ => rfl)))); (case c5 => decide); (case kB => exact locs rfl); (case c2 => exact rfl); (case c3 => exact rfl); (case c4 => exact rfl); k_whole; intro g' L' h' FG' F' N' B' X' T'; (try dsimp only); (refine wpAny_noRaise ?_); (try k_fold)))
local macro_rules | `(tactic| walk_at "eval Name") => `(tactic| (k_here; k_dflt (refine' nameX_L ?F ?v ?_ ?a ?b; (case F => k_asm); (case a => rfl); (case b => rfl); (case v => first | exact rfl | assumption); k_whole)))
local macro_rules | `(tactic| walk_at "exec While Compare cons nil") => `(tactic| refine stop_ ?_)
local macro_rules | `(tactic| walk_at "call ref") => `(tactic| refine stop_ ?_)
local macro_rules | `(tactic| k_steps) => `(tactic| repeat' (first | (k_unfold; (try dsimp only)) | walk1 | (dsimp only; walk1) | fail "no step"))

theorem ins_ct {w : World} {mean : ExcName → Option Value} {mg mb : Str → Option Value}
   (dp un : Nat) (gd : Option (List Code)) (cn : Str) (cs : Scope) (a : Addr) (ccd : Value) (cl : List (Str × Addr)) (outer : List Env) (A₀ : Around) (base h₀ : Heap) (L : Addr) (m : Str → Option Value) (s : Shared) (Q E : Value → Shared → Prop)
   (news : List (Addr × Obj))
   (B : Below A₀ base outer h₀) (F : Fr h₀ L s.heap m) (X : (hd.heap_39 w.params).In h₀) (N : News h₀ L s.heap news) (T : Top hd.view_39 LO mean mg mb h₀) (hk : cs.kind = .function)
   (l : Addr) (x : Value) (its : List Value) (n : Nat) (ps : List (Int × Int)) (p : Int × Int)
   (hl : (l, listOf its.toArray n) ∈ news) (hps : PsAt news its ps) (hp : PAt news x p) (hlen : ps.length ≤ 100)
   (hdp : dp + 10 < recursionLimit) (hun : un + 40 < cLine)
   (hret : ∀ h' tk' news' n', Fr h₀ L h' m → News h₀ L h' news' → (∀ q ∈ news, q.1 ≠ l → q ∈ news') →
      (l, listOf (its.take (bis ps p) ++ x :: its.drop (bis ps p)).toArray n') ∈ news' → Q .none {s with heap := h', toks := tk'}) :
   wpAny (model PR w) (ktrTop dp un gd cn cs L a ccd cl outer) (call (.ref 23) [.ref l, x]) Q E s := by
  refine wpAny_call ?_
  k_dflt k_enter
  rename Fr _ _ _ _ => F1
  rename News _ _ _ _ => N1
  replace F1 := fr_re (m' := mp [("key", .none), ("hi", .none), ("lo", .int 0 189), ("x", x), ("a", .ref l)]) F1 rfl
  k_steps
  refine Stop.go ?_
  refine' bis_ct _ _ _ _ _ _ _ _ _ _ _ _ _ _ _ _ _ _ ?B ?F ?X ?N ?T rfl l x its n ps p _ hl hps hp hlen ?hd ?hu ?_
  case B => assumption
  case F => assumption
  case X => assumption
  case N => assumption
  case T => assumption
  case hd => ktr_room
  case hu => ktr_units
  intro t h' tk' F2 N2
  clear N1
  k_steps
  have hle := bis_le ps p
  have hlen2 := hps.length
  refine insert_led (by assumption) (by assumption) hl (by omega) (by omega) ?_
  intro h3 n3 F3 N3
  k_steps
  exact hret _ _ _ _ (by assumption) (by assumption) (fun q hq hne => mem_upd hq hne) mem_upd_self
end Mine
end PartC2
section PartC3
open PySem PySem.W PyProof.Rows PySem.Calls PySem.Spec PyProof.Rows.LCg
set_option maxRecDepth 100000
set_option maxHeartbeats 8000000
namespace Mine
theorem fill2 : PySem.Challenge.rw_hu0002_01 = PySem.Challenge.rw_hu0002_01 ∧ hd.heap_39 = hd.heap_39 := by k_fill; exact ⟨rfl, rfl⟩
local macro_rules | `(tactic| k_enter) => `(tactic| (refine' code_def ?k1 ?k2 ?k3 ?k4 ?k5 ?kA ?kF ?kK ?k6 ?k7 ?k8 ?k9 ?kB ?_ ?c2 ?c3 ?c4 ?c5; (case kA => exact rfl); (case kF => exact rfl); (case kK => first | exact rfl | assumption); (case k1 => k_asm); (case k2 => k_asm); (case k3 => k_asm); (case k4 => k_asm); (case k5 => k_asm); (case k6 => k_is); (case k7 => k_is); (case k8 => ktr_room); (case k9 => (first | exact BindsTo.of_eq rfl | (refine' kp_binds ?kx ?ke; (case kx => k_in); (case ke => exact fun _ => rfl)))); (case c5 => decide); (case kB => exact locs rfl); (case c2 => exact rfl); (case c3 => exact rfl); (case c4 => exact rfl); k_whole; intro g' L' h' FG' F' N' B' X' T'; (try dsimp only); (refine wpAny_noRaise ?_); (try k_fold)))
local macro_rules | `(tactic| walk_at "eval Name") => `(tactic| (k_here; k_dflt (refine' nameX_L ?F ?v ?_ ?a ?b; (case F => k_asm); (case a => rfl); (case b => rfl); (case v => first | exact rfl | assumption); k_whole)))
local macro_rules | `(tactic| walk_at "exec While Compare cons nil") => `(tactic| refine stop_ ?_)
local macro_rules | `(tactic| walk_at "call ref") => `(tactic| refine stop_ ?_)
local macro_rules | `(tactic| walk_at "exec For Tuple Call") => `(tactic| refine stop_ ?_)
local macro_rules | `(tactic| walk_at "exec For Tuple Subscript") => `(tactic| refine stop_ ?_)
local macro_rules | `(tactic| walk_at "exec For Tuple Name") => `(tactic| refine stop_ ?_)
local macro_rules | `(tactic| walk_at "subscriptTail Call Name cons nil Slice ref ref") => `(tactic| (refine kba_turn (value' := PySem.Expr.Name (PySem.Str.ofString "_") ⟨0, 0, 0, 0⟩) (fun _ => rfl) ?_; refine stop_ ?_))
local macro_rules | `(tactic| walk_at "subscriptTail Name Slice ref ref") => `(tactic| refine stop_ ?_)
local macro_rules | `(tactic| walk_at "call builtin:sorted") => `(tactic| refine stop_ ?_)
local macro_rules | `(tactic| walk_at "eval ListComp") => `(tactic| refine stop_ ?_)
local macro_rules | `(tactic| walk_at "call builtin:len") => `(tactic| refine stop_ ?_)
local macro_rules | `(tactic| walk_at "call builtin:list.append") => `(tactic| refine stop_ ?_)
local macro_rules | `(tactic| walk_at "compareOp Eq ref ref") => `(tactic| refine stop_ ?_)
local macro_rules | `(tactic| walk_at "TPost") => `(tactic| dsimp only [TPost])
local macro_rules | `(tactic| k_steps) => `(tactic| repeat' (first | (k_unfold; (try dsimp only)) | walk1 | (dsimp only; walk1) | fail "no step"))

def LaidOut (v : Value) (news : List (Addr × Obj)) : Option (List (Int × Int)) → Prop
  | none => v = .none
  | some sp => ∃ D its n, v = .ref D ∧ (D, listOf (List.toArray its) n) ∈ news ∧ PsAt news its sp

theorem laid_ct {w : World} {mean : ExcName → Option Value} {mg mb : Str → Option Value}
   (dp un : Nat) (gd : Option (List Code)) (cn : Str) (cs : Scope) (a : Addr) (ccd : Value) (cl : List (Str × Addr)) (outer : List Env) (A₀ : Around) (base h₀ : Heap) (L : Addr) (m : Str → Option Value) (s : Shared) (Q E : Value → Shared → Prop)
   (news : List (Addr × Obj))
   (B : Below A₀ base outer h₀) (F : Fr h₀ L s.heap m) (X : (hd.heap_39 w.params).In h₀) (N : News h₀ L s.heap news) (T : Top hd.view_39 LO mean mg mb h₀) (hk : cs.kind = .function)
   (lr lc : Addr) (rvs cvs : List Value) (rs cols : List Int) (nr nc : Nat)
   (hlr : (lr, listOf rvs.toArray nr) ∈ news) (hrs : IntsAre rvs rs) (hlc : (lc, listOf cvs.toArray nc) ∈ news) (hcs : IntsAre cvs cols)
   (hlenr : rs.length ≤ 4) (hlenc : cols.length ≤ 8) (hr0 : ∀ r ∈ rs, 0 ≤ r)
   (hdp : dp + 20 < recursionLimit) (hun : un + 80 < cLine)
   (hret : ∀ v h' tk' news', Fr h₀ L h' m → News h₀ L h' news' → (∀ q ∈ news, q ∈ news') → LaidOut v news' (laid rs cols) → Q v {s with heap := h', toks := tk'}) :
   wpAny (model PR w) (ktrTop dp un gd cn cs L a ccd cl outer) (call (.ref 51) [.ref lr, .ref lc]) Q E s := by
  refine wpAny_call ?_
  k_dflt k_enter
  rename_i gg LL hx0 FG F1 N1 B1 X1 T1
  replace F1 := fr_re (m' := mp [("columns", .ref lc), ("rows", .ref lr)]) F1 rfl
  k_steps
  rename_i O hq1 l1 S hq2 l2 D hq3 l3 hq4 hq5 h1 F1 N1
  have hOn : ∀ q ∈ news, q.1 ≠ O := fun q hq => Nat.ne_of_lt (l1 q hq)
  have hSn : ∀ q ∈ news, q.1 ≠ S := fun q hq => Nat.ne_of_lt (AllLt.mem l2.2 q hq)
  have hOS : O ≠ S := Nat.ne_of_lt l2.1
  have hcl := hcs.length
  refine Stop.go ?_
  refine For_turns F1 ?_
  k_steps
  refine ktu_enum rfl F1 N1 (List.Mem.tail _ (List.Mem.tail _ (List.Mem.tail _ hlc))) rfl rfl rfl (fun I hI => ?_)
  refine items_invO news (fun q hq x hx => ?_) (fun p hp o ho => ?_)
    (fun xs m₁ led => ∃ i its n, xs = enumItems i (cvs.drop i) ∧ i ≤ cvs.length ∧ m₁ "order" = some (.ref O) ∧ m₁ "spots" = some (.ref S) ∧ m₁ "rows" = some (.ref lr) ∧
      (O, listOf (List.toArray its) n) ∈ led ∧ PsAt led its (((enumI cols).take i).foldl ins []) ∧ (S, listOf #[] 0) ∈ led ∧ ∀ q ∈ news, q ∈ led)
    ?_ ?_ ?_ ?_ _ _ _ ?_ ?_
  · have hlt := hI q (List.Mem.tail _ (List.Mem.tail _ (List.Mem.tail _ hq)))
    simp only [List.mem_cons, List.not_mem_nil, or_false] at hx
    rcases hx with rfl | rfl
    · exact Nat.ne_of_lt (Nat.lt_succ_of_lt hlt)
    · exact Nat.ne_of_lt hlt
  · rcases List.mem_cons.mp hp with rfl | hp
    · exact not_nonIt ho (by simp)
    · rw [List.mem_singleton.mp hp] at ho; exact not_nonIt ho (by simp)
  · rintro xs m₁ led led' ⟨i, its, n, h1, h2, h3, h4, h5, h6, h7, h8, h9⟩ hs
    exact ⟨i, its, n, h1, h2, h3, h4, h5, hs _ h6 (.inl (nonIt_list rfl)), h7.nonIt fun q hq hn => hs q hq (.inl hn), hs _ h8 (.inl (nonIt_list rfl)), fun q hq => hs q (h9 q hq) (.inr hq)⟩
  · intro p hp; rw [List.mem_singleton.mp hp]; exact nonIt_list rfl
  · rintro a r m₁ led v h tk its ⟨i, its', n', hxs, hi, mo, ms, mr, hO, hP, hS, hN⟩ hkeep hits hv F2 N2
    clear F1 N1 hI
    obtain ⟨x, hx, hlt, rfl, rfl⟩ := enumItems_cons hxs
    obtain ⟨T, t, rfl, hT⟩ := hv
    obtain ⟨c, tc, hc, rfl⟩ := ints_at hcs hx
    k_steps
    rename Fr _ _ _ _ => F3
    rename_i Tn h3 N3 l4
    have hp3 : PAt ((Tn, tupOf #[.int c tc, .int (i : Int) t] 0) :: led) (.ref Tn) (c, (i : Int)) := ⟨_, tc, t, 0, rfl, List.Mem.head _⟩
    have hP3 := hP.nonIt (news' := (Tn, tupOf #[.int c tc, .int (i : Int) t] 0) :: led) fun q hq _ => List.Mem.tail _ hq
    have hOne : ∀ p ∈ its, p.1 ≠ O := fun p hp => News.off (fun o => ¬ nonIt o) N3 (List.Mem.tail _ hO) (List.Mem.tail _ (hits p hp).1) (hits p hp).2 (fun h => h (nonIt_list rfl))
    have hOt : ∀ q ∈ (Tn, tupOf #[.int c tc, .int (i : Int) t] 0) :: led, q.2.cls = .type "tuple" → q.1 ≠ O := fun q hq hc => News.off (fun o => o.cls = .type "tuple") N3 (List.Mem.tail _ hO) hq hc cls_lt
    refine Stop.go ?_
    refine' ins_ct _ _ _ _ _ _ _ _ _ _ _ _ _ _ _ _ _ _ ?B ?F ?X ?N ?T rfl O _ its' n' _ _ (List.Mem.tail _ hO) hP3 hp3 ?hlen ?hd ?hu ?_
    case B => assumption
    case F => assumption
    case X => assumption
    case N => assumption
    case T => assumption
    case hlen => rw [foldl_ins_length]; simp [enumI_length]; omega
    case hd => ktr_room
    case hu => ktr_units
    intro h4 tk4 news4 n4 F4 N4 hst4 hO4
    k_steps
    refine (show TEnd _ _ _ _ _ _ from ⟨_, _, _, _, rfl, F4, N4, fun p hp => ?_, i + 1, _, n4, rfl, hlt, mo, ms, mr, hO4, ?_, hst4 _ (List.Mem.tail _ hS) (Ne.symm hOS), fun q hq => hst4 _ (List.Mem.tail _ (hN q hq)) (hOn q hq)⟩)
    · rcases List.mem_cons.mp hp with rfl | hp
      · exact hst4 _ (List.Mem.tail _ (hkeep _ List.mem_cons_self)) (hOn _ hlc)
      · exact hst4 _ (List.Mem.tail _ (hits p hp).1) (hOne p hp)
    · rw [ord_succ cols i c hc]
      exact PsAt.insAt (hP3.mono fun q hq hc => hst4 q hq (hOt q hq hc)) (hp3.mono fun q hq hc => hst4 q hq (hOt q hq hc))
  · rintro m₁ led h tk ⟨i, its, n, hxs, hi, mo, ms, mr, hO, hP, hS, hN⟩ F2 N2
    clear F1 N1 hI
    have hi' := enumItems_nil hxs hi
    rw [hi', hcl, ← enumI_length cols, List.take_length] at hP
    clear hxs hi hi'
    dsimp only
    k_steps
    refine Stop.go ?_
    refine For_turns F2 ?_
    k_steps
    refine Stop.go ?_
    refine comp_eval (h₀ := gg) (L := LL) (m := m₁) (by simp) rfl (by decide) rfl (by decide) ?_ (fun _ => rfl)
    k_steps
    refine CGo.enum rfl F2 N2 (hN _ hlr) rfl rfl (by have := hrs.length; rw [sizeLine_eq]; omega) rfl rfl rfl (by decide)
      (fun i ys led => ys.length = i ∧ PsAt led ys ((enumI rs).take i)) (fun i ys led h => Nat.le_of_eq h.1) ⟨rfl, .nil⟩ ?_ ?_
    · rintro C oC m₂ i ta v ys led full h tk hv ⟨hyl, hys⟩ hs1 hs2 hC hoC hma hmb F3 N3
      obtain ⟨c, tc, hc, rfl⟩ := ints_at hrs hv
      show wpAny _ _ _ _ _ _
      k_steps
      rename_i Tn h4 F4 N4 l4
      refine ⟨_, _, [(Tn, tupOf #[.int c tc, .int (i : Int) ta] 0)], rfl, F4, N4, fun p hp q hq => ?_, by simp [hyl], ?_⟩
      · rw [List.mem_singleton.mp hp]; exact Nat.ne_of_gt (l4 q hq)
      · rw [enumI_succ rs i c hc]
        exact PsAt.app (hys.mono fun q hq _ => List.mem_append_right _ hq) (.cons ⟨Tn, tc, ta, 0, rfl, List.mem_append_left _ List.mem_cons_self⟩ .nil)
    intro Dc h5 tk5 ys led5 F5 N5 hled5 hoff5 ⟨hyl, hys⟩
    have hrl := hrs.length
    rw [hrl, ← enumI_length rs, List.take_length] at hys
    dsimp only
    k_steps
    refine Stop.go ?_
    refine sorted_pairs F5 (fun p hp => N5 p (List.mem_cons_of_mem _ hp)) (N5.isList List.mem_cons_self) hys (by rw [enumI_length]; omega) ?_
    intro D6 n6 h6 out F6 N6 l6 hout
    k_steps
    refine Stop.go ?_
    have hol := hout.length
    have hsl : (sortBy (enumI rs)).length ≤ 4 := by rw [sortBy_length4 _ (by rw [enumI_length]; exact hlenr), enumI_length]; exact hlenr
    refine krv_lit F6 N6 (N6.isList List.mem_cons_self) (IsPart.int _ _) rfl ?_ (by with_unfolding_all rfl) (by intro _; with_unfolding_all rfl) (by rw [List.size_toArray, sizeLine_eq]; omega)
    intro D7 h7 F7 N7 l7
    have hsm := sortBy_mem4 (enumI rs) (by rw [enumI_length]; exact hlenr)
    have hr7 : ∀ p ∈ (sortBy (enumI rs)).reverse, 0 ≤ p.1 := fun p hp => hr0 _ (enumI_mem (hsm p (List.mem_reverse.mp hp)))
    have hO7 : O ≠ D7 := Nat.ne_of_lt (l7 (O, _) (List.Mem.tail _ (hled5 _ hO)))
    have hS7 : S ≠ D7 := Nat.ne_of_lt (l7 (S, _) (List.Mem.tail _ (hled5 _ hS)))
    have hn7 : ∀ q ∈ news, q.1 ≠ D7 := fun q hq => Nat.ne_of_lt (l7 q (List.Mem.tail _ (hled5 _ (hN q hq))))
    refine iter_listTurns rfl F7 N7 List.mem_cons_self rfl rfl (fun I hI => ?_)
    refine items_invO news (fun q hq x hx => by rw [List.mem_singleton.mp hx]; exact Nat.ne_of_lt (hI q (List.Mem.tail _ (List.Mem.tail _ (hled5 _ (hN q hq)))))) (fun p hp o ho => ?_)
      (fun xs m₁ led => ∃ vs' rest o os n od spits k sp, xs = vs'.map .val ∧ PsAt led vs' rest ∧ (∀ p ∈ rest, 0 ≤ p.1) ∧ m₁ "order" = some (.ref o) ∧ m₁ "spots" = some (.ref S) ∧
        (o, listOf (List.toArray os) n) ∈ led ∧ PsAt led os od ∧ (S, listOf (List.toArray spits) k) ∈ led ∧ PsAt led spits sp ∧ o ≠ S ∧ o ≠ D7 ∧ (∀ q ∈ news, q.1 ≠ o) ∧ (∀ q ∈ news, q ∈ led) ∧
        od.length = cols.length ∧ sp.length + 8 * rest.length ≤ 32 ∧ goRows rest od sp = goRows (sortBy (enumI rs)).reverse (ord0 cols) [])
      ?_ ?_ ?_ ?_ _ _ _ ?_ ?_
    · rw [List.mem_singleton.mp hp] at ho; exact not_nonIt ho (by simp)
    · rintro xs m₁ led led' ⟨vs', rest, o, os, n, od, spits, k, sp, h1, h2, h3, h4, h5, h6, h7, h8, h9, h10, h11, h12, h13, h14, h15, h16⟩ hs
      have hs' : ∀ q ∈ led, nonIt q.2 → q ∈ led' := fun q hq hn => hs q hq (.inl hn)
      exact ⟨vs', rest, o, os, n, od, spits, k, sp, h1, h2.nonIt hs', h3, h4, h5, hs' _ h6 (nonIt_list rfl), h7.nonIt hs', hs' _ h8 (nonIt_list rfl), h9.nonIt hs', h10, h11, h12, fun q hq => hs q (h13 q hq) (.inr hq), h14, h15, h16⟩
    · intro p hp; rw [List.mem_singleton.mp hp]; exact nonIt_list rfl
    · rintro a r m₂ led v h tk its ⟨vs', rest, o, os, no, od, spits, ks, sp, hxs, hvs, hrest, mo2, ms2, ho, hos, hS2, hsp, hoS, ho7, hon, hN2, hodl, hspl, hgo⟩ hkeep hits hv F2 N2
      cases hvs with
      | nil => cases hxs
      | @cons v' p vs'' rest' hpv hvs' =>
        simp only [List.map_cons, List.cons.injEq] at hxs
        obtain ⟨rfl, rfl⟩ := hxs
        obtain rfl : v = v' := hv
        obtain ⟨Ta, t1, t2, nt, rfl, hTm⟩ := hpv
        have hT : IsTup h Ta #[.int p.1 t1, .int p.2 t2] := N2.isTup hTm
        have hp0 : 0 ≤ p.1 := hrest p List.mem_cons_self
        have hl8 := hos.length
        k_steps
        refine Stop.go ?_
        rename Fr _ _ _ _ => F3
        rename News _ _ _ _ => N3
        refine call_len_list (N3.isList ho) (by rw [List.size_toArray]; omega) ?_
        k_steps
        · have hgt : (os.length : Int) < p.1 := by assumption
          refine hret _ _ _ _ (by assumption) (by assumption) hN2 ?_
          have e : laid rs cols = none := by
            unfold laid
            rw [← hgo]
            unfold goRows
            rw [if_pos (by rw [← hl8]; exact hgt)]
          rw [e]; rfl
        have hle : ¬ (os.length : Int) < p.1 := by assumption
        refine Stop.go ?_
        rename Fr _ _ _ _ => F4
        rename News _ _ _ _ => N4
        refine call_len_list (N4.isList ho) (by rw [List.size_toArray]; omega) ?_
        k_steps
        refine Stop.go ?_
        obtain ⟨cut, hcut⟩ : ∃ cut, cut = os.length - p.1.toNat := ⟨_, rfl⟩
        have hcz : ((os.toArray.size : Nat) : Int) - p.1 = (cut : Int) := by rw [List.size_toArray]; omega
        refine kmk_slice_lit F4 N4 (N4.isList ho) (IsPart.int _ _) .none (slice_from os _ cut hcz) ?_ (by with_unfolding_all rfl) (by intro _; with_unfolding_all rfl) (by rw [List.size_toArray, sizeLine_eq]; omega)
        intro Dt h8 F8 N8 l8
        dsimp only
        k_steps
        refine Stop.go ?_
        rename Fr _ _ _ _ => F9
        rename News _ _ _ _ => N9
        refine call_len_list (N9.isList (List.Mem.tail _ ho)) (by rw [List.size_toArray]; omega) ?_
        k_steps
        refine Stop.go ?_
        refine kmk_slice_lit F9 N9 (N9.isList (List.Mem.tail _ ho)) .none (IsPart.int _ _) (slice_upto os _ cut hcz) ?_ (by with_unfolding_all rfl) (by intro _; with_unfolding_all rfl) (by rw [List.size_toArray, sizeLine_eq]; omega)
        intro Do h10 F10 N10 l10
        dsimp only
        k_steps
        refine Stop.go ?_
        rename Fr _ _ _ _ => F11
        rename News _ _ _ _ => N11
        refine For_turns F11 ?_
        k_steps
        have hDoS : S ≠ Do := Nat.ne_of_lt (l10 (S, _) (List.Mem.tail _ hS2))
        have hDoT : Dt ≠ Do := Nat.ne_of_lt (l10 (Dt, _) List.mem_cons_self)
        have hDtS : S ≠ Dt := Nat.ne_of_lt (l8 (S, _) hS2)
        have hDo7 : D7 ≠ Do := Nat.ne_of_lt (l10 (D7, _) (List.Mem.tail _ (hkeep _ List.mem_cons_self)))
        have hnDo : ∀ q ∈ news, q.1 ≠ Do := fun q hq => Nat.ne_of_lt (l10 q (List.Mem.tail _ (hN2 q hq)))
        have hits11 : ∀ q ∈ its, q ∈ (Do, listOf (List.take cut os).toArray 0) :: (Dt, listOf (List.drop cut os).toArray 0) :: led := fun q hq => List.Mem.tail _ (List.Mem.tail _ (hits q hq).1)
        have hgs := goRows_step (p := p) (r := rest') (o := od) (sp := sp) (cut := cut) (by rw [← hl8]; exact hle) (by rw [← hl8]; exact hcut)
        refine iter_listTurns rfl F11 N11 (List.Mem.tail _ List.mem_cons_self) rfl rfl (fun I2 hI2 => ?_)
        refine items_invO (its ++ news) (fun q hq x hx => ?_) (fun p hp o ho => ?_)
          (fun xs m₃ led₃ => ∃ vs2 rest2 os2 n2 od2 spits2 k2 sp2, xs = vs2.map .val ∧ PsAt led₃ vs2 rest2 ∧ m₃ "order" = some (.ref Do) ∧ m₃ "spots" = some (.ref S) ∧ m₃ "j" = some (.int p.2 t2) ∧
            (Do, listOf (List.toArray os2) n2) ∈ led₃ ∧ PsAt led₃ os2 od2 ∧ (S, listOf (List.toArray spits2) k2) ∈ led₃ ∧ PsAt led₃ spits2 sp2 ∧ PsAt led₃ vs'' rest' ∧ (∀ q ∈ its, q ∈ led₃) ∧
            (D7, listOf out.toArray.toList.reverse.toArray 0) ∈ led₃ ∧ (∀ q ∈ news, q ∈ led₃) ∧ od2.length + rest2.length = cols.length ∧ sp2.length + rest2.length ≤ sp.length + 8 ∧
            goTaken p.2 rest2 od2 sp2 = goTaken p.2 (od.drop cut) (od.take cut) sp)
          ?_ ?_ ?_ ?_ _ _ _ ?_ ?_
        · exact fun e => by
            rw [List.mem_singleton.mp hx] at e
            have hq' : q ∈ (Do, listOf (List.take cut os).toArray 0) :: (Dt, listOf (List.drop cut os).toArray 0) :: led := by
              rcases List.mem_append.mp hq with hq | hq
              · exact hits11 q hq
              · exact List.Mem.tail _ (List.Mem.tail _ (hN2 q hq))
            exact absurd (e ▸ hI2 q hq') (Nat.lt_irrefl _)
        · rw [List.mem_singleton.mp hp] at ho; exact not_nonIt ho (by simp)
        · rintro xs m₃ led₃ led₃' ⟨vs2, rest2, os2, n2, od2, spits2, k2, sp2, h1, h2, h3, h4, h5, h6, h7, h8, h9, h10, h11, h12, h13, h14, h15, h16⟩ hs
          have hs' : ∀ q ∈ led₃, nonIt q.2 → q ∈ led₃' := fun q hq hn => hs q hq (.inl hn)
          exact ⟨vs2, rest2, os2, n2, od2, spits2, k2, sp2, h1, h2.nonIt hs', h3, h4, h5, hs' _ h6 (nonIt_list rfl), h7.nonIt hs', hs' _ h8 (nonIt_list rfl), h9.nonIt hs', h10.nonIt hs', fun q hq => hs q (h11 q hq) (.inr (List.mem_append_left _ hq)),
            hs' _ h12 (nonIt_list rfl), fun q hq => hs q (h13 q hq) (.inr (List.mem_append_right _ hq)), h14, h15, h16⟩
        · intro p hp; rw [List.mem_singleton.mp hp]; exact nonIt_list rfl
        · rintro a2 r2 m₃ led₃ v2 h3' tk3 its3 ⟨vs2, rest2, os2, n2, od2, spits2, k2, sp2, hxs2, hvs2, mo3, ms3, mj3, ho3, hos3, hS3, hsp3, hvs3, hits3, hD73, hN3, hod3, hsp3l, hgo3⟩ hkeep3 hitsI hv2 F3 N3
          clear F11 N11
          cases hvs2 with
          | nil => cases hxs2
          | @cons u2 p2 us2 ps2 hpu hus2 =>
            simp only [List.map_cons, List.cons.injEq] at hxs2
            obtain ⟨rfl, rfl⟩ := hxs2
            obtain rfl : v2 = u2 := hv2
            obtain ⟨Tb, tb1, tb2, nb, rfl, hTb⟩ := hpu
            have hT3 : IsTup h3' Tb #[.int p2.1 tb1, .int p2.2 tb2] := N3.isTup hTb
            k_steps
            · have hz : p2.1 = 0 := by assumption
              refine hret _ _ _ _ (by assumption) (by assumption) hN3 ?_
              have e : laid rs cols = none := by
                unfold laid
                rw [← hgo, hgs, ← hgo3, goTaken, if_pos hz]
              rw [e]; rfl
            have hz : ¬ p2.1 = 0 := by assumption
            refine Stop.go ?_
            rename Fr _ _ _ _ => F5a
            rename_i T5 h5a N5a l5a
            have hsl2 := hsp3.length
            have hol2 := hos3.length
            have hp5 : PAt _ (.ref T5) (p.2, p2.2) := head_pair N5a
            refine append_led F5a N5a (List.Mem.tail _ hS3) (by omega) ?_
            intro h6a n6a F6a N6a
            have hst6 : ∀ q ∈ (T5, tupOf #[.int p.2 t2, .int p2.2 tb2] 0) :: led₃, q.1 ≠ S → q ∈ upd S (listOf (spits2 ++ [Value.ref T5]).toArray n6a) ((T5, tupOf #[.int p.2 t2, .int p2.2 tb2] 0) :: led₃) := fun q hq hne => mem_upd hq hne
            have hS6 : (S, listOf (spits2 ++ [Value.ref T5]).toArray n6a) ∈ upd S (listOf (spits2 ++ [Value.ref T5]).toArray n6a) ((T5, tupOf #[.int p.2 t2, .int p2.2 tb2] 0) :: led₃) := mem_upd_self
            generalize upd S (listOf (spits2 ++ [Value.ref T5]).toArray n6a) ((T5, tupOf #[.int p.2 t2, .int p2.2 tb2] 0) :: led₃) = led6 at N6a hst6 hS6
            have ht6 : ∀ q ∈ (T5, tupOf #[.int p.2 t2, .int p2.2 tb2] 0) :: led₃, q.2.cls = .type "tuple" → q ∈ led6 := fun q hq hc => hst6 q hq (News.off (fun o => o.cls = .type "tuple") N5a (List.Mem.tail _ hS3) hq hc cls_lt)
            have hx6 : ∀ q ∈ led₃, ¬ nonIt q.2 → q ∈ led6 ∧ q.1 ≠ Do := fun q hq hc => ⟨hst6 q (List.Mem.tail _ hq) (News.off (fun o => ¬ nonIt o) N5a (List.Mem.tail _ hS3) (List.Mem.tail _ hq) hc (fun h => h (nonIt_list rfl))),
              News.off (fun o => ¬ nonIt o) N5a (List.Mem.tail _ ho3) (List.Mem.tail _ hq) hc (fun h => h (nonIt_list rfl))⟩
            have ho6 := hst6 _ (List.Mem.tail _ ho3) (Ne.symm hDoS)
            have hos6 := (hos3.mono fun q hq hc => ht6 q (List.Mem.tail _ hq) hc)
            have hus6 := (hus2.mono fun q hq hc => ht6 q (List.Mem.tail _ hq) hc)
            have hvs6 := (hvs3.mono fun q hq hc => ht6 q (List.Mem.tail _ hq) hc)
            have hsp6 := PsAt.app (hsp3.mono fun q hq hc => ht6 q (List.Mem.tail _ hq) hc) (.cons (hp5.mono ht6) .nil)
            clear N5a F5a
            k_steps
            rename Fr _ _ _ _ => F7a
            rename_i T7 h7a N7a l7a
            have hp7 : PAt _ (.ref T7) (p2.1 - 1, p2.2) := head_pair N7a
            refine Stop.go ?_
            refine' ins_ct _ _ _ _ _ _ _ _ _ _ _ _ _ _ _ _ _ _ ?B ?F ?X ?N ?T rfl Do _ os2 n2 od2 _ (List.Mem.tail _ ho6) (hos6.mono fun q hq _ => List.Mem.tail _ hq) hp7 ?hlen ?hd ?hu ?_
            case B => assumption
            case F => assumption
            case X => assumption
            case N => assumption
            case T => assumption
            case hlen => omega
            case hd => ktr_room
            case hu => ktr_units
            intro h8a tk8a news8 n8a F8a N8a hst8 hO8
            have ht8 : ∀ q ∈ led6, q.2.cls = .type "tuple" → q ∈ news8 := fun q hq hc => hst8 q (List.Mem.tail _ hq) (News.off (fun o => o.cls = .type "tuple") N7a (List.Mem.tail _ ho6) (List.Mem.tail _ hq) hc cls_lt)
            have hp8 := hst8 _ List.mem_cons_self (Nat.ne_of_gt (l7a _ ho6))
            k_steps
            refine (show TEnd _ _ _ _ _ _ from ⟨_, _, _, _, rfl, F8a, N8a, fun q hq => ?_, us2, ps2, _, n8a, ins od2 (p2.1 - 1, p2.2), spits2 ++ [Value.ref T5], n6a, sp2 ++ [(p.2, p2.2)], rfl, hus6.mono ht8, mo3, ms3, mj3, hO8, ?_, hst8 _ (List.Mem.tail _ hS6) hDoS, hsp6.mono ht8, hvs6.mono ht8,
              fun q hq => hst8 q (List.Mem.tail _ (hx6 q (hits3 q hq) (hits q hq).2).1) (hx6 q (hits3 q hq) (hits q hq).2).2, hst8 _ (List.Mem.tail _ (hst6 _ (List.Mem.tail _ hD73) (Ne.symm hS7))) hDo7,
              fun q hq => hst8 q (List.Mem.tail _ (hst6 q (List.Mem.tail _ (hN3 q hq)) (hSn q hq))) (hnDo q hq), ?_, ?_, ?_⟩)
            · rcases List.mem_cons.mp hq with rfl | hq
              · exact hst8 _ (List.Mem.tail _ (hst6 _ (List.Mem.tail _ (hkeep3 _ List.mem_cons_self)) (Ne.symm hDtS))) hDoT
              · exact hst8 q (List.Mem.tail _ (hx6 q (hitsI q hq).1 (hitsI q hq).2).1) (hx6 q (hitsI q hq).1 (hitsI q hq).2).2
            · exact PsAt.insAt (hos6.mono ht8) ⟨T7, _, tb2, 0, rfl, hp8⟩
            · rw [ins_length]; simp only [List.length_cons] at hod3; omega
            · simp only [List.length_append, List.length_cons, List.length_nil] at hsp3l ⊢; omega
            · rw [← hgo3]
              show _ = goTaken p.2 (p2 :: ps2) od2 sp2
              rw [goTaken, if_neg hz]
        · rintro m₃ led₃ h3' tk3 ⟨vs2, rest2, os2, n2, od2, spits2, k2, sp2, hxs2, hvs2, mo3, ms3, mj3, ho3, hos3, hS3, hsp3, hvs3, hits3, hD73, hN3, hod3, hsp3l, hgo3⟩ F3 N3
          clear F11 N11
          obtain rfl : vs2 = [] := by cases vs2 with | nil => rfl | cons a b => cases hxs2
          cases hvs2
          dsimp only
          k_steps
          refine (show TEnd _ _ _ _ _ _ from ⟨_, _, _, _, rfl, F3, N3, fun q hq => ?_, vs'', rest', Do, os2, n2, od2, spits2, k2, sp2, rfl, hvs3, fun q hq => hrest q (List.mem_cons_of_mem _ hq), mo3, ms3, ho3, hos3, hS3, hsp3, Ne.symm hDoS, Ne.symm hDo7, hnDo, hN3, ?_, ?_, ?_⟩)
          · rcases List.mem_cons.mp hq with rfl | hq
            · exact hD73
            · exact hits3 q hq
          · simpa using hod3
          · simp only [List.length_nil, List.length_cons] at hsp3l hspl; omega
          · rw [← hgo, hgs, ← hgo3, goTaken]
        · refine ⟨os.drop cut, od.drop cut, os.take cut, 0, od.take cut, spits, ks, sp, rfl, (hos.drop cut).mono fun q hq _ => List.Mem.tail _ (List.Mem.tail _ hq), rfl, ms2, rfl, List.mem_cons_self, (hos.take cut).mono fun q hq _ => List.Mem.tail _ (List.Mem.tail _ hq),
            List.Mem.tail _ (List.Mem.tail _ hS2), hsp.mono fun q hq _ => List.Mem.tail _ (List.Mem.tail _ hq), hvs'.mono fun q hq _ => List.Mem.tail _ (List.Mem.tail _ hq), hits11, List.Mem.tail _ (List.Mem.tail _ (hkeep _ List.mem_cons_self)),
            fun q hq => List.Mem.tail _ (List.Mem.tail _ (hN2 q hq)), ?_, ?_, rfl⟩
          · rw [List.length_take, List.length_drop]; omega
          · rw [List.length_drop]; omega
        · intro q hq; rw [List.mem_singleton.mp hq]; exact List.Mem.tail _ List.mem_cons_self
    · rintro m₂ led h tk ⟨vs', rest, o, os, no, od, spits, ks, sp, hxs, hvs, hrest, mo2, ms2, ho, hos, hS2, hsp, hoS, ho7, hon, hN2, hodl, hspl, hgo⟩ F2 N2
      clear F7 N7 N6 F6
      obtain rfl : vs' = [] := by cases vs' with | nil => rfl | cons a b => cases hxs
      cases hvs
      dsimp only
      k_steps
      refine Stop.go ?_
      have hol2 := hos.length
      refine comp_eval (h₀ := gg) (L := LL) (m := m₂) (by simp) rfl (by decide) rfl (by decide) ?_ (fun _ => rfl)
      k_steps
      refine CGo.pairs rfl F2 N2 ho rfl rfl hos (by rw [sizeLine_eq]; omega) rfl rfl rfl (by decide)
        (fun i ys led => ys.length ≤ i ∧ IntsAre ys (((od.take i).filter fun p => decide (0 < p.1)).map (·.1))) (fun i ys led h => h.1) ⟨Nat.le_refl _, .nil⟩ ?_ ?_
      · rintro C oC m₃ i ta tb ys led3 full h3 tk3 hi ⟨hyl, hys⟩ hs1 hs2 hC hoC hma hmb F3 N3
        have et : od.take (i + 1) = od.take i ++ [od.getD i (0, 0)] := by
          rw [List.take_add_one, List.getD_eq_getElem?_getD, List.getElem?_eq_getElem hi]; rfl
        show wpAny _ _ _ _ _ _
        k_steps
        · have hc : 0 < (od.getD i (0, 0)).1 := by assumption
          refine CEnd.same (by assumption) (by assumption) ⟨by rw [List.length_append]; simp; omega, ?_⟩
          rw [et, List.filter_append, List.map_append]
          simp only [List.filter_cons, hc, decide_true, if_true, List.filter_nil, List.map_cons, List.map_nil]
          exact IntsAre.append hys (.cons _ _ .nil)
        · have hc : ¬ 0 < (od.getD i (0, 0)).1 := by assumption
          refine CEnd.same (by assumption) (by assumption) ⟨by omega, ?_⟩
          rw [et, List.filter_append, List.map_append]
          simp only [List.filter_cons, hc, decide_false, List.filter_nil, List.map_nil, List.append_nil]
          simpa using hys
      intro Dc h5 tk5 ys led5 F5 N5 hled5 hoff5 ⟨hyl, hys⟩
      rw [List.take_length] at hys
      dsimp only
      k_steps
      refine Stop.go ?_
      rename Fr _ _ _ _ => F6a
      rename_i N6a l6a
      refine ke_eq_ints (ns := _) (ms := []) (N6a.isList (List.Mem.tail _ List.mem_cons_self)) (N6a.isList List.mem_cons_self) hys .nil (by ktr_units) ?_
      have hl : laid rs cols = if (od.filter fun p => decide (0 < p.1)) = [] then some sp else none := by
        unfold laid
        rw [← hgo, goRows]
      k_steps
      · have hc : (((od.filter fun p => decide (0 < p.1)).map (·.1)) = []) := by first | assumption | exact of_decide_eq_true (by assumption)
        refine hret _ _ _ _ (by assumption) (by assumption) (fun q hq => List.Mem.tail _ (List.Mem.tail _ (hled5 q (hN2 q hq)))) ?_
        rw [hl, if_pos (List.map_eq_nil_iff.mp hc)]
        exact ⟨S, spits, ks, rfl, List.Mem.tail _ (List.Mem.tail _ (hled5 _ hS2)), hsp.mono fun q hq _ => List.Mem.tail _ (List.Mem.tail _ (hled5 q hq))⟩
      · have hc : ¬ (((od.filter fun p => decide (0 < p.1)).map (·.1)) = []) := by first | assumption | exact of_decide_eq_false (by assumption)
        refine hret _ _ _ _ (by assumption) (by assumption) (fun q hq => List.Mem.tail _ (List.Mem.tail _ (hled5 q (hN2 q hq)))) ?_
        rw [hl, if_neg (fun h => hc (List.map_eq_nil_iff.mpr h))]
        rfl
    · exact ⟨_, _, O, _, _, _, [], 0, [], rfl, (hout.mono fun q hq _ => List.Mem.tail _ (List.Mem.tail _ hq)).rev, hr7, mo, ms, List.Mem.tail _ (List.Mem.tail _ (hled5 _ hO)), hP.mono fun q hq _ => List.Mem.tail _ (List.Mem.tail _ (hled5 _ hq)),
        List.Mem.tail _ (List.Mem.tail _ (hled5 _ hS)), .nil, hOS, hO7, fun q hq => hOn q hq, fun q hq => List.Mem.tail _ (List.Mem.tail _ (hled5 _ (hN q hq))), by rw [foldl_ins_length, enumI_length]; simp, by rw [List.length_reverse]; simp; omega, rfl⟩
    · intro p hp; rw [List.mem_singleton.mp hp]; exact List.mem_cons_self
  · exact ⟨0, [], 0, rfl, Nat.zero_le _, rfl, rfl, rfl, List.Mem.tail _ (List.Mem.tail _ List.mem_cons_self), .nil, List.Mem.tail _ List.mem_cons_self, fun q hq => List.Mem.tail _ (List.Mem.tail _ (List.Mem.tail _ hq))⟩
  · intro q hq; rw [List.mem_singleton.mp hq]; exact List.Mem.tail _ (List.Mem.tail _ (List.Mem.tail _ hlc))
end Mine
end PartC3
section PartC4
open PySem PySem.W PyProof.Rows PySem.Calls PySem.Spec PyProof.Rows.LCg
set_option maxRecDepth 100000
set_option maxHeartbeats 8000000
namespace Mine
theorem fill3 : PySem.Challenge.rw_hu0002_01 = PySem.Challenge.rw_hu0002_01 ∧ hd.heap_39 = hd.heap_39 := by k_fill; exact ⟨rfl, rfl⟩
local macro_rules | `(tactic| k_enter) => `(tactic| (refine' code_defC ?k1 ?k2 ?k3 ?k4 ?k5 ?kA ?kF ?kK ?k6 ?k7 ?k8 ?k9 ?kB ?kD ?_ ?c2 ?c3 ?c4; (case kA => exact rfl); (case kF => exact rfl); (case kK => first | exact rfl | assumption); (case k1 => k_asm); (case k2 => k_asm); (case k3 => k_asm); (case k4 => k_asm); (case k5 => k_asm); (case k6 => k_is); (case k7 => k_is); (case k8 => ktr_room); (case k9 => (first | exact BindsTo.of_eq rfl | (refine' kp_binds ?kx ?ke; (case kx => k_in); (case ke => exact fun _ => rfl)))); (case kB => exact rfl); (case kD => decide +kernel); (case c2 => exact rfl); (case c3 => exact rfl); (case c4 => exact rfl); k_whole; intro g' L' h' tk' cells' FG' F' N' Y' B' X' T' l1; k_cells Y'; (try simp only [List.cons_append, List.nil_append] at N'); (try dsimp only); (refine wpAny_noRaise ?_); (try k_fold)))
local macro_rules | `(tactic| walk_at "eval Name") => `(tactic| (k_here; k_dflt (refine' nameX_L ?F ?v ?_ ?a ?b; (case F => k_asm); (case a => rfl); (case b => rfl); (case v => first | exact rfl | assumption); k_whole)))
local macro_rules | `(tactic| walk_at "eval Name") => `(tactic| (k_here; (with_reducible show wpAny _ _ (eval (Expr.Name (Str.ofString "k") _) (compEnvC _ _ _ _)) _ _ _); refine stop_ ?_))
local macro_rules | `(tactic| walk_at "eval Name") => `(tactic| (k_here; (with_reducible show wpAny _ _ (eval (Expr.Name (Str.ofString "columns") _) (compEnvC _ _ _ _)) _ _ _); refine stop_ ?_))
local macro_rules | `(tactic| walk_at "eval Name") => `(tactic| (k_here; (with_reducible show wpAny _ _ (eval (Expr.Name (Str.ofString "down") _) (compEnvC _ _ _ _)) _ _ _); refine stop_ ?_))
local macro_rules | `(tactic| walk_at "call builtin:sum") => `(tactic| refine stop_ ?_)
local macro_rules | `(tactic| walk_at "call builtin:min") => `(tactic| refine stop_ ?_)
local macro_rules | `(tactic| walk_at "subscriptTail Call Name cons nil Slice ref ref") => `(tactic| (refine kba_turn (value' := PySem.Expr.Name (PySem.Str.ofString "_") ⟨0, 0, 0, 0⟩) (fun _ => rfl) ?_; refine stop_ ?_))
local macro_rules | `(tactic| walk_at "subscriptTail Name Slice ref ref") => `(tactic| refine stop_ ?_)
local macro_rules | `(tactic| walk_at "call builtin:sorted") => `(tactic| refine stop_ ?_)
local macro_rules | `(tactic| walk_at "eval ListComp") => `(tactic| refine stop_ ?_)
local macro_rules | `(tactic| walk_at "call builtin:len") => `(tactic| refine stop_ ?_)
local macro_rules | `(tactic| walk_at "compareOp Eq ref ref") => `(tactic| refine stop_ ?_)
local macro_rules | `(tactic| k_steps) => `(tactic| repeat' (first | (k_unfold; (try dsimp only)) | walk1 | (dsimp only; walk1) | fail "no step"))

theorem canbe_ct {w : World} {mean : ExcName → Option Value} {mg mb : Str → Option Value}
   (dp un : Nat) (gd : Option (List Code)) (cn : Str) (cs : Scope) (a : Addr) (ccd : Value) (cl : List (Str × Addr)) (outer : List Env) (A₀ : Around) (base h₀ : Heap) (L : Addr) (m : Str → Option Value) (s : Shared) (Q E : Value → Shared → Prop)
   (news : List (Addr × Obj))
   (B : Below A₀ base outer h₀) (F : Fr h₀ L s.heap m) (X : (hd.heap_39 w.params).In h₀) (N : News h₀ L s.heap news) (T : Top hd.view_39 LO mean mg mb h₀) (hk : cs.kind = .function)
   (lr lc : Addr) (rvs cvs : List Value) (rs cols : List Int) (nr nc : Nat)
   (hlr : (lr, listOf rvs.toArray nr) ∈ news) (hrs : IntsAre rvs rs) (hlc : (lc, listOf cvs.toArray nc) ∈ news) (hcs : IntsAre cvs cols)
   (hlenr : rs.length ≤ 8) (hlenc : cols.length ≤ 8)
   (hdp : dp + 20 < recursionLimit) (hun : un + 80 < cLine)
   (hret : ∀ h' tk' news', Fr h₀ L h' m → News h₀ L h' news' → (∀ q ∈ news, q ∈ news') → Q (.bool (canbe rs cols)) {s with heap := h', toks := tk'}) :
   wpAny (model PR w) (ktrTop dp un gd cn cs L a ccd cl outer) (call (.ref 56) [.ref lr, .ref lc]) Q E s := by
  refine wpAny_call ?_
  k_dflt k_enter
  rename_i gg LL hx0 tk0 FG F1 B1 X1 T1 l1 oD oC d1 d2 N1
  replace d1 : oD.data = .cell none := d1
  replace d2 : oC.data = .cell (some (.ref lc)) := d2
  replace F1 := fr_re (m' := fun y => if y = "rows" then some (.ref lr) else none) F1 rfl
  k_steps
  refine Stop.go ?_
  have hrl := hrs.length
  have hcl := hcs.length
  refine kso_sorted F1 N1 (N1.isList (List.Mem.tail _ (List.Mem.tail _ hlr))) hrs (by omega) ?_
  intro D2 vs2 ns2 c2 h2 F2 N2 l2 hi2 hl2 hp2 ho2 _
  obtain rfl := isort_uniq hp2 ho2
  clear hp2 ho2
  k_steps
  refine Stop.go ?_
  refine krv_ints F2 N2 (N2.isList List.mem_cons_self) (IsPart.int _ _) hi2 ?_ (by with_unfolding_all rfl) (by intro _; with_unfolding_all rfl) (by rw [List.size_toArray, hi2.length, sizeLine_eq]; omega)
  intro D3 ws3 h3 F3 N3 l3 hi3 hl3
  have hD2 := AllLt.mem (allLt_of l2)
  have hD3 := AllLt.mem (allLt_of l3)
  have h32 : D3 ≠ LL + 1 + 1 := Nat.ne_of_gt (l3 _ (List.Mem.tail _ List.mem_cons_self))
  have h22 : D2 ≠ LL + 1 + 1 := Nat.ne_of_gt (l2 _ List.mem_cons_self)
  k_steps
  refine' storeX_C F3 N3 rfl (UpdF.tail h32 (UpdF.tail h22 (UpdF.head (fun p hp => ?_)))) d1 ?_ rfl rfl
  · rcases List.mem_cons.mp hp with rfl | hp
    · exact Nat.ne_of_lt (Nat.lt_succ_self _)
    · exact Nat.ne_of_lt (Nat.lt_trans (l1 p hp) (Nat.lt_trans (Nat.lt_succ_self _) (Nat.lt_succ_self _)))
  intro h4 oD' F4 N4 d4
  clear d1 N3 F3 N2 F2 N1 F1
  k_steps
  refine Stop.go ?_
  refine LSm.sum_ints F4 N4 rfl (N4.isList (List.Mem.tail _ (List.Mem.tail _ (List.Mem.tail _ (List.Mem.tail _ hlr))))) hrs ?_
  intro h5 tk5 t5 F5 N5
  k_steps
  refine Stop.go ?_
  refine LSm.sum_ints F5 N5 rfl (N5.isList (List.Mem.tail _ (List.Mem.tail _ (List.Mem.tail _ (List.Mem.tail _ hlc))))) hcs ?_
  intro h6 tk6 t6 F6 N6
  clear F4 N4 F5 N5
  k_steps
  · have hs : ¬ rs.sum = cols.sum := by first | assumption | exact of_decide_eq_false (by assumption)
    have e : canbe rs cols = false := by unfold canbe; simp [hs]
    rw [e] at hret
    exact hret _ _ _ (by assumption) (by assumption) (fun q hq => List.Mem.tail _ (List.Mem.tail _ (List.Mem.tail _ (List.Mem.tail _ hq))))
  have hs : rs.sum = cols.sum := by first | assumption | exact Decidable.of_not_not (by assumption) | exact Decidable.of_not_not (of_decide_eq_false (by assumption))
  refine Stop.go ?_
  have hw3 := hi3.length
  rw [List.length_reverse, hl2] at hw3
  refine comp_eval_cell (h₀ := gg) (L := LL) (m := fun y => if y = "rows" then some (.ref lr) else none) rfl rfl (by decide) (by simp) rfl rfl (by decide) ?_ (fun _ => rfl)
  k_steps
  refine Stop.go ?_
  refine call_len_list (N6.isList List.mem_cons_self) (by rw [List.size_toArray]; omega) ?_
  k_steps
  rename_i h7 tk7 t7 u7 v7 hR7 F7 N7 hk7
  clear hk7
  have hmc : ∀ led : List (Addr × Obj), (∀ q ∈ (D3, listOf ws3.toArray 0) :: (D2, listOf vs2.toArray c2) :: (LL + 1 + 1, oD') :: (LL + 1, oC) :: news, q ∈ led) →
      (D3, listOf ws3.toArray 0) ∈ led ∧ (LL + 1 + 1, oD') ∈ led ∧ (LL + 1, oC) ∈ led ∧ (lc, listOf cvs.toArray nc) ∈ led ∧ ∀ q ∈ news, q ∈ led := fun led h =>
    ⟨h _ (by simp), h _ (by simp), h _ (by simp), h _ (by simp [hlc]), fun q hq => h _ (by simp [hq])⟩
  have hlr3 : (isort rs).reverse.length = rs.length := by rw [List.length_reverse, hl2]
  rw [hlr3] at hR7
  refine ⟨_, _, _, _, _, _, rs.length + 1, _, fun i ys led => ys.length ≤ i ∧ IntsAre ys (((List.range i).filter fun k => tops rs cols k).map Int.ofNat), rfl, rfl, F7, N7, hR7, ?_, ?_, ?_, fun i ys led h => h.1, ⟨Nat.le_refl _, .nil⟩, ?_, ?_⟩
  · exact small_one (by omega) (by omega) (by omega) (by omega)
  · rw [rangeSize_one, if_pos (by omega)]; omega
  · rw [sizeLine_eq]; omega
  · rintro C kc ko i ti ys led full h tk hi ⟨hyl, hys⟩ hs1 hs2 hkc hko F8 N8
    obtain ⟨hm3, hmd, hmo, hml, hmn⟩ := hmc full (fun q hq => hs2 q (hs1 q hq))
    clear F7 N7 hR7
    have hi3 : IntsAre ws3 (isort rs).reverse := by assumption
    have hcs : IntsAre cvs cols := by assumption
    have hi0 : (0 : Int) + (i : Int) = (i : Int) := Int.zero_add _
    rw [hi0] at hko
    show wpAny _ _ _ _ _ _
    k_steps
    refine Stop.go ?_
    refine lcf_cell N8 rfl hmd d4 ?_ rfl rfl
    k_steps
    refine Stop.go ?_
    refine lcf_cell N8 rfl hkc hko ?_ rfl rfl
    k_steps
    refine Stop.go ?_
    refine kmk_slice_lit F8 N8 (N8.isList hm3) .none (IsPart.int _ _) (slice_upto ws3 _ i rfl) ?_ (by with_unfolding_all rfl) (by intro _; with_unfolding_all rfl) (by rw [List.size_toArray, sizeLine_eq]; omega)
    intro D9 h9 F9 N9 l9
    k_steps
    refine Stop.go ?_
    refine LSm.sum_ints F9 N9 rfl (N9.isList List.mem_cons_self) (hi3.take i) ?_
    intro h10 tk10 t10 F10 N10
    clear F9 N9 F8 N8
    k_steps
    refine Stop.go ?_
    refine' comp_eval (h₀ := gg) (L := LL) (m := fun y => if y = "rows" then some (.ref lr) else none) (cl := [("k", kc)]) ?c1 ?c2 ?c3 ?c4 ?c5 ?_ ?c6
    case c1 => simp
    case c2 => with_unfolding_all rfl
    case c3 => decide
    case c4 => rfl
    case c5 => decide
    case c6 => exact fun _ => rfl
    refine lcf_cell N10 rfl (List.Mem.tail _ hmo) d2 ?_ rfl rfl
    refine CGo.list rfl F10 N10 (List.Mem.tail _ hml) rfl rfl (by rw [sizeLine_eq]; omega) rfl rfl
      (fun j zs led' => zs.length = j ∧ IntsAre zs ((cols.take j).map fun c => if (i : Int) < c then (i : Int) else c)) (fun j zs led' h => Nat.le_of_eq h.1) ⟨rfl, .nil⟩ ?_ ?_
    · rintro C2 oC2 m₂ j v zs led3 full3 h11 tk11 hv ⟨hzl, hzs⟩ hs3 hs4 hC hoC hma F11 N11
      obtain ⟨c, tc, hc, rfl⟩ := ints_at hcs hv
      have hkc3 : (kc, ko) ∈ full3 := hs4 _ (hs3 _ (List.Mem.tail _ hkc))
      show wpAny _ _ _ _ _ _
      k_steps
      refine Stop.go ?_
      refine lcf_cell N11 rfl hkc3 hko ?_ rfl rfl
      k_steps
      refine Stop.go ?_
      refine min_two_ints rfl fun h13 tk13 hk13 => ?_
      have e13 : (if (i : Int) < c then Value.int (i : Int) ti else Value.int c tc) = .int (if (i : Int) < c then (i : Int) else c) (if (i : Int) < c then ti else tc) := by split <;> rfl
      rw [e13]
      refine CEnd.same (F11.keeps hk13) (N11.grown hk13) ⟨by rw [List.length_append, hzl]; rfl, ?_⟩
      have et : cols.take (j + 1) = cols.take j ++ [c] := by rw [List.take_add_one, hc]; rfl
      rw [et, List.map_append]
      exact IntsAre.append hzs (.cons _ _ .nil)
    intro D12 h12 tk12 zs led12 F12 N12 hled12 hoff12 ⟨hzl, hzs⟩
    dsimp only
    k_steps
    refine Stop.go ?_
    rw [hcl, List.take_length] at hzs
    refine LSm.sum_ints F12 N12 rfl (N12.isList List.mem_cons_self) hzs ?_
    intro h14 tk14 t14 F14 N14
    clear F12 N12
    have et : ((List.range (i + 1)).filter fun k => tops rs cols k) = ((List.range i).filter fun k => tops rs cols k) ++ (if tops rs cols i then [i] else []) := by
      rw [List.range_succ, List.filter_append, List.filter_cons, List.filter_nil]
    k_steps
    · have hc : (((cols.map fun c => if (i : Int) < c then (i : Int) else c)).sum < ((isort rs).reverse.take i).sum) := by first | assumption | exact of_decide_eq_true (by assumption)
      have hm14 := hled12 _ (List.Mem.tail _ hkc)
      have ht : tops rs cols i = true := decide_eq_true hc
      refine Stop.go ?_
      refine lcf_cell N14 rfl (List.Mem.tail _ hm14) hko ?_ rfl rfl
      refine CEnd.same F14 (fun p hp => N14 p (List.Mem.tail _ (hled12 _ (List.Mem.tail _ hp)))) ⟨by rw [List.length_append]; simp; omega, ?_⟩
      rw [et, ht, if_pos rfl, List.map_append]
      exact IntsAre.append hys (.cons _ _ .nil)
    · have hc : ¬ (((cols.map fun c => if (i : Int) < c then (i : Int) else c)).sum < ((isort rs).reverse.take i).sum) := by first | assumption | exact of_decide_eq_false (by assumption)
      have ht : tops rs cols i = false := decide_eq_false hc
      refine CEnd.same F14 (fun p hp => N14 p (List.Mem.tail _ (hled12 _ (List.Mem.tail _ hp)))) ⟨by omega, ?_⟩
      rw [et, ht, if_neg (by decide), List.append_nil]
      exact hys
  · intro Dc h9 tk9 ys led9 F9 N9 hled9 hoff9 ⟨hyl, hys⟩
    dsimp only
    k_steps
    refine Stop.go ?_
    rename Fr _ _ _ _ => F10
    rename_i N10 l10
    refine ke_eq_ints (ns := _) (ms := []) (N10.isList (List.Mem.tail _ List.mem_cons_self)) (N10.isList List.mem_cons_self) hys .nil (by ktr_units) ?_
    have hl : canbe rs cols = decide (((List.range (rs.length + 1)).filter fun k => tops rs cols k).map Int.ofNat = []) := by
      unfold canbe
      rw [decide_eq_true hs, Bool.true_and]
      rw [Bool.eq_iff_iff, decide_eq_true_iff, List.isEmpty_iff, List.map_eq_nil_iff]
    rw [hl] at hret
    obtain ⟨_, _, _, _, hmn⟩ := hmc led9 hled9
    k_steps
    exact hret _ _ _ (by assumption) (by assumption) (fun q hq => List.Mem.tail _ (List.Mem.tail _ (hmn q hq)))
end Mine
end PartC4
section PartD1
open PySem PySem.W PyProof.Rows PySem.Calls PySem.Spec
set_option maxRecDepth 100000
set_option maxHeartbeats 4000000
namespace Mine
/-- a dict of any keys -/
def RawD (h : Heap) (d : Addr) (es : Array DictEntry) (ep : Nat) : Prop := ∃ o, h.get? d = some o ∧ o.data = .dict es ep
section
variable {prog : Program} {w : World} {A : Around} {E : Value → Shared → Prop} {s : Shared}
theorem RawD.keep {h h' : Heap} {d : Addr} {es : Array DictEntry} {ep : Nat} (x : RawD h d es ep) (hk : ∀ o, h.get? d = some o → h'.get? d = some o) : RawD h' d es ep := let ⟨o, ho, r⟩ := x; ⟨o, hk o ho, r⟩
/-- items() -/
theorem raw_items_call {d : Addr} {Q : Value → Shared → Prop} (hT : s.TypeIs (.ref d) "dict") (lo : (d == sysModules) = false)
    (h : Q (.ref s.heap.objs.size) { s with heap := s.heap.push { cls := .type "dict_items", data := .fields #[.ref d] } }) :
    wpAny (model prog w) A (call (.builtin "dict.items") [.ref d]) Q E s := by
  refine call_meetsIn (S := fun _ R s => s.TypeIs (.ref d) "dict" ∧ R (.ok (.ret (.ref s.heap.objs.size))) { s with heap := s.heap.push { cls := .type "dict_items", data := .fields #[.ref d] } }) F.slot_dict_items hT F.entry_dict_items (F.args_dict_items_1 _) ?_ ⟨hT, h⟩
  refine .of_wp fun A R s ⟨hT, h⟩ => ?_
  unfold Builtin.«dict.items»
  refine wpAny_bind ?_
  unfold Builtin.Dict.noArgs
  refine wpAny_bind (wpAny_notOrdered_dict hT ?_)
  refine wpAny_pure ?_
  show wpAny _ _ (Builtin.Dict.showsAll d >>= _) _ _ s
  unfold Builtin.Dict.showsAll
  rw [if_neg (by rw [lo]; exact Bool.false_ne_true)]
  exact wpAny_bind (wpAny_pure (wpAny_bind (wpAny_newObj_type (wpAny_pure ⟨_, rfl, h⟩))))
theorem raw_values_call {d : Addr} {Q : Value → Shared → Prop} (hT : s.TypeIs (.ref d) "dict") (lo : (d == sysModules) = false)
    (h : Q (.ref s.heap.objs.size) { s with heap := s.heap.push { cls := .type "dict_values", data := .fields #[.ref d] } }) :
    wpAny (model prog w) A (call (.builtin "dict.values") [.ref d]) Q E s := by
  refine call_meetsIn (S := fun _ R s => s.TypeIs (.ref d) "dict" ∧ R (.ok (.ret (.ref s.heap.objs.size))) { s with heap := s.heap.push { cls := .type "dict_values", data := .fields #[.ref d] } }) F.slot_dict_values hT F.entry_dict_values (F.args_dict_values_1 _) ?_ ⟨hT, h⟩
  refine .of_wp fun A R s ⟨hT, h⟩ => ?_
  unfold Builtin.«dict.values»
  refine wpAny_bind ?_
  unfold Builtin.Dict.noArgs
  refine wpAny_bind (wpAny_notOrdered_dict hT ?_)
  refine wpAny_pure ?_
  show wpAny _ _ (Builtin.Dict.showsAll d >>= _) _ _ s
  unfold Builtin.Dict.showsAll
  rw [if_neg (by rw [lo]; exact Bool.false_ne_true)]
  exact wpAny_bind (wpAny_pure (wpAny_bind (wpAny_newObj_type (wpAny_pure ⟨_, rfl, h⟩))))
/-- the iterators -/
theorem raw_items_iter {v d : Addr} {es : Array DictEntry} {ep : Nat} {Q : Value → Shared → Prop} (hv : s.heap.IsItemsView v d) (hm : RawD s.heap d es ep)
    (hQ : Q (.ref s.heap.objs.size) { s with heap := s.heap.push { cls := .type "dict_itemiterator", data := .fields #[.none, .bool false, .ref d, .int 0 0, .int es.size 0, .int ep 0, .none, .none] } }) :
    wpAny (model prog w) A (pyIter (.ref v)) Q E s := by
  obtain ⟨ov, hov, _, hdv⟩ := id hv
  obtain ⟨o, ho, hd⟩ := hm
  refine wpAny_pyIter_slot hv.typeIs F.slot_dict_items_iter (wpAny_call_entry F.slot_dict_items_iter hv.typeIs F.entry_dict_items_iter ?_ (F.args_dict_items_iter_1 _))
  unfold Builtin.«dict_items.__iter__» Builtin.Dict_items.dictOf Builtin.Dict_items.newIterator
  refine wpAny_bind (wpAny_pure (wpAny_bind (wpAny_bind (wpAny_field hov hdv (x := .ref d) rfl (wpAny_pure (wpAny_bind (wpAny_bind (wpAny_dictEntries ho hd (wpAny_bind (wpAny_dictEpoch ho hd ?_))))))))))
  simp only [show Builtin.Dict_items.ownsTuple "dict_itemiterator" = true by decide, if_true]
  exact wpAny_newObj_type (wpAny_pure ⟨_, rfl, "dict_itemiterator", _, ⟨_, Heap.get?_push_size _ rfl, rfl⟩, F.slot_dict_itemiterator_next.lookup, hQ⟩)
    (by simp only [sizeOk, Builtin.Dict_items.ownedTupleFields, List.size_toArray, List.length_append, List.length_cons, List.length_nil, sizeLine_eq]; omega)
theorem raw_values_iter {v d : Addr} {es : Array DictEntry} {ep : Nat} {Q : Value → Shared → Prop} (hv : s.heap.IsValuesView v d) (hm : RawD s.heap d es ep)
    (hQ : Q (.ref s.heap.objs.size) { s with heap := s.heap.push { cls := .type "dict_valueiterator", data := .fields #[.ref d, .int 0 0, .int es.size 0, .int ep 0] } }) :
    wpAny (model prog w) A (pyIter (.ref v)) Q E s := by
  obtain ⟨ov, hov, _, hdv⟩ := id hv
  obtain ⟨o, ho, hd⟩ := hm
  refine wpAny_pyIter_slot hv.typeIs F.slot_dict_values_iter (wpAny_call_entry F.slot_dict_values_iter hv.typeIs F.entry_dict_values_iter ?_ (F.args_dict_values_iter_1 _))
  unfold Builtin.«dict_values.__iter__» Builtin.Dict_items.dictOf Builtin.Dict_items.newIterator
  refine wpAny_bind (wpAny_pure (wpAny_bind (wpAny_bind (wpAny_field hov hdv (x := .ref d) rfl (wpAny_pure (wpAny_bind (wpAny_bind (wpAny_dictEntries ho hd (wpAny_bind (wpAny_dictEpoch ho hd ?_))))))))))
  simp only [show Builtin.Dict_items.ownsTuple "dict_valueiterator" = false by decide, Bool.false_eq_true, if_false]
  exact wpAny_newObj_type (wpAny_pure ⟨_, rfl, "dict_valueiterator", _, ⟨_, Heap.get?_push_size _ rfl, rfl⟩, F.slot_dict_valueiterator_next.lookup, hQ⟩) (by size_fits)
/-- the next value -/
theorem raw_value_next {it d : Addr} {i ep : Nat} {es : Array DictEntry} {e : DictEntry} {Q : Option Value → Shared → Prop} (hit : s.heap.IsValIter it d i es.size ep) (hm : RawD s.heap d es ep) (hx : es[i]? = some e)
    (hQ : ∀ h', h'.IsValIter it d (i + 1) es.size ep → Heap.SameBut it s.heap h' → Q (some e.val) { s with heap := h' }) : wpAny (model prog w) A (pyNext (.ref it)) Q E s := by
  obtain ⟨o, ho, hc, hd⟩ := id hit
  obtain ⟨od, hod, hdd⟩ := hm
  have hT := hit.typeIs
  unfold pyNext
  refine wpAny_bind (wpAny_attempt (wpAny_callSpecial?_slot (name := Str.ofString "__next__") hT F.slot_dict_valueiterator_next
    (wpAny_call_entry F.slot_dict_valueiterator_next hT F.entry_dict_valueiterator_next (wpAny_bind (wpAny_pure (wpAny_bind (wpAny_bind (wpAny_bind (wpAny_typeNameOfWhole_valiter hT (wpAny_pure (wpAny_bind (wpAny_fieldsOf ho hd ?_)))))))) ) (F.args_dict_valueiterator_next_1 _))))
  simp only [show Builtin.Dict_items.ownsTuple "dict_valueiterator" = false by decide, Bool.false_eq_true, if_false]
  show wpAny _ _ (if (Value.ref d == Value.none) = true then _ else _) _ _ s
  rw [if_neg (show ¬ ((Value.ref d == Value.none) = true) from Bool.false_ne_true)]
  refine wpAny_bind (wpAny_pure (wpAny_bind (wpAny_dictEntries hod hdd ?_)))
  rw [if_neg (by simp)]
  refine wpAny_bind (wpAny_pure (wpAny_bind (wpAny_dictEpoch hod hdd ?_)))
  rw [if_neg (by simp)]
  refine wpAny_pure ?_
  simp only [show ¬ ((i : Int) < 0) from by omega, if_false, Int.toNat_natCast, hx]
  refine wpAny_bind (wpAny_bind (wpAny_typeNameOfWhole_valiter hT (wpAny_pure (wpAny_bind (wpAny_isOneOf_valiter hT ?_)))))
  show wpAny _ _ (setField (.ref it) 1 (rawInt ((i : Int) + 1)) >>= _) _ _ s
  refine wpAny_bind (wpAny_setField ho hd (by simp) ?_)
  generalize hh : s.heap.update it (Obj.mapFields (·.setIfInBounds 1 (rawInt ((i : Int) + 1)))) = h1
  have hit' : h1.IsValIter it d (i + 1) es.size ep := by
    rw [← hh]
    exact ⟨_, Heap.get?_update_self _ ho (Obj.isFreed_of_fields (Obj.data_mapFields hd _)), (Obj.cls_mapFields ..).trans hc, by rw [Obj.data_mapFields hd]; simp [rawInt]⟩
  have hT' : Shared.TypeIs { s with heap := h1 } (.ref it) "dict_valueiterator" := hit'.typeIs
  refine wpAny_bind (wpAny_holding (wpAny_bind (wpAny_isOneOf_valiter hT' (wpAny_bind (wpAny_isOneOf_valiter hT' ?_)))))
  exact wpAny_pure (wpAny_pure ⟨_, rfl, wpAny_pure (hQ _ hit' (hh ▸ Heap.SameBut.update ..))⟩)
/-- no more values -/
theorem raw_value_end {it d : Addr} {i ep : Nat} {es : Array DictEntry} {Q : Option Value → Shared → Prop} (hh : A.handled = none) (hit : s.heap.IsValIter it d i es.size ep) (hm : RawD s.heap d es ep) (hx : es.size ≤ i)
    (hQ : ∀ h', Heap.ExtBut it s.heap h' → Q none { s with heap := h' }) : wpAny (model prog w) A (pyNext (.ref it)) Q E s := by
  obtain ⟨o, ho, hc, hd⟩ := id hit
  obtain ⟨od, hod, hdd⟩ := hm
  have hT := hit.typeIs
  unfold pyNext
  refine wpAny_bind (wpAny_attempt (wpAny_callSpecial?_slot (name := Str.ofString "__next__") hT F.slot_dict_valueiterator_next
    (wpAny_call_entry F.slot_dict_valueiterator_next hT F.entry_dict_valueiterator_next (wpAny_bind (wpAny_pure (wpAny_bind (wpAny_bind (wpAny_bind (wpAny_typeNameOfWhole_valiter hT (wpAny_pure (wpAny_bind (wpAny_fieldsOf ho hd ?_)))))))) ) (F.args_dict_valueiterator_next_1 _))))
  simp only [show Builtin.Dict_items.ownsTuple "dict_valueiterator" = false by decide, Bool.false_eq_true, if_false]
  show wpAny _ _ (if (Value.ref d == Value.none) = true then _ else _) _ _ s
  rw [if_neg (show ¬ ((Value.ref d == Value.none) = true) from Bool.false_ne_true)]
  refine wpAny_bind (wpAny_pure (wpAny_bind (wpAny_dictEntries hod hdd ?_)))
  rw [if_neg (by simp)]
  refine wpAny_bind (wpAny_pure (wpAny_bind (wpAny_dictEpoch hod hdd ?_)))
  rw [if_neg (by simp)]
  refine wpAny_pure ?_
  simp only [show ¬ ((i : Int) < 0) from by omega, if_false, Int.toNat_natCast, Array.getElem?_eq_none hx]
  refine wpAny_bind (wpAny_bind (wpAny_typeNameOfWhole_valiter hT (wpAny_pure ?_)))
  show wpAny _ _ (setField (.ref it) 0 .none >>= _) _ _ s
  refine wpAny_bind (wpAny_setField ho hd (by simp) ?_)
  show wpAny _ _ (newExc (.type "StopIteration") [] >>= _) _ _ _
  refine wpAny_bind ?_
  simp only [newExc, newTuple]
  refine wpAny_bind (wpAny_newObj_type ?_ (by size_fits))
  refine wpAny_bind (m := firstArgMember _ _) (wpAny_of_eq (a := Value.none) (by first | rfl | (simp only [firstArgMember]; rfl)) ?_)
  refine wpAny_newObj_type ?_ (by size_fits)
  simp only [raiseNew]
  refine wpAny_bind (wpAny_handled ?_)
  rw [show A.in1.handled = none from hh]
  refine wpAny_bind (wpAny_pure (wpAny_throw ?_))
  refine wpAny_bind (wpAny_isInstance (T := "StopIteration") (b := true) ⟨_, Heap.get?_push_size _ rfl, rfl⟩ isSubtype_stop ?_)
  refine wpAny_pure (hQ _ ?_)
  exact ((Heap.SameBut.update ..).extBut.push _).push _
/-- the next pair -/
theorem raw_item_next {it d : Addr} {i ep : Nat} {es : Array DictEntry} {e : DictEntry} {ok ov : Value} {Q : Option Value → Shared → Prop} (hit : IsItemIter s.heap it d i es.size ep ok ov) (hm : RawD s.heap d es ep) (hx : es[i]? = some e)
    (hQ : ∀ h', IsItemIterOut h' it d (i + 1) es.size ep e.key e.val s.heap.objs.size → h'.get? s.heap.objs.size = some { cls := .type "tuple", data := .seq #[e.key, e.val] } → h'.objs.size = s.heap.objs.size + 1 →
      (∀ b o, b ≠ it → s.heap.get? b = some o → h'.get? b = some o) → Q (some (.ref s.heap.objs.size)) { s with heap := h' }) : wpAny (model prog w) A (pyNext (.ref it)) Q E s := by
  obtain ⟨od, hod, hdd⟩ := hm
  have hT : s.TypeIs (.ref it) "dict_itemiterator" := ⟨_, hit, rfl⟩
  unfold pyNext
  refine wpAny_bind (wpAny_attempt (wpAny_callSpecial?_slot (name := Str.ofString "__next__") hT F.slot_dict_itemiterator_next
    (wpAny_call_entry F.slot_dict_itemiterator_next hT F.entry_dict_itemiterator_next (wpAny_bind (wpAny_pure (wpAny_bind (wpAny_bind (wpAny_bind (wpAny_typeNameOfWhole_itemiter hT (wpAny_pure (wpAny_bind (wpAny_fieldsOf hit rfl ?_)))))))) ) (F.args_dict_itemiterator_next_1 _))))
  simp only [show Builtin.Dict_items.ownsTuple "dict_itemiterator" = true by decide, if_true]
  show wpAny _ _ (if (Value.ref d == Value.none) = true then _ else _) _ _ s
  rw [if_neg (show ¬ ((Value.ref d == Value.none) = true) from Bool.false_ne_true)]
  refine wpAny_bind (wpAny_pure (wpAny_bind (wpAny_dictEntries hod hdd ?_)))
  rw [if_neg (by simp)]
  refine wpAny_bind (wpAny_pure (wpAny_bind (wpAny_dictEpoch hod hdd ?_)))
  rw [if_neg (by simp)]
  refine wpAny_pure ?_
  simp only [show ¬ ((i : Int) < 0) from by omega, if_false, Int.toNat_natCast, hx]
  refine wpAny_bind (wpAny_bind (wpAny_typeNameOfWhole_itemiter hT (wpAny_pure (wpAny_bind (wpAny_isOneOf_itemiter hT ?_)))))
  show wpAny _ _ (setField (.ref it) 3 (rawInt ((i : Int) + 1)) >>= _) _ _ s
  refine wpAny_bind (wpAny_setField_rec hit (by simp) fun h1 he1 hs1 => ?_)
  replace he1 : IsItemIter h1 it d (i + 1) es.size ep ok ov := by
    show h1.get? it = some _
    simpa [rawInt] using he1
  have hT1 : Shared.TypeIs { s with heap := h1 } (.ref it) "dict_itemiterator" := ⟨_, he1, rfl⟩
  refine wpAny_bind (wpAny_holding (wpAny_bind (wpAny_isOneOf_itemiter hT1 (wpAny_bind (wpAny_isOneOf_itemiter hT1 ?_)))))
  show wpAny _ _ (Builtin.Dict_items.pairFromOwner (.ref it) 6 e.key e.val) _ _ { s with heap := h1 }
  unfold Builtin.Dict_items.pairFromOwner
  refine wpAny_bind (wpAny_newTuple ?_)
  have hil : it < s.heap.objs.size := Heap.lt_size hit
  have hz1 : h1.objs.size = s.heap.objs.size := hs1.1
  show wpAny _ _ (Builtin.Dict_items.ownedTupleIsFree (.ref it) >>= _) _ _ { s with heap := h1.push _ }
  generalize hH2 : h1.push { cls := .type "tuple", data := .seq (List.toArray [e.key, e.val]) } = h2
  have he2 : IsItemIter h2 it d (i + 1) es.size ep ok ov := hH2 ▸ Heap.get?_push_of_some _ he1
  have ht2 : h2.get? s.heap.objs.size = some { cls := .type "tuple", data := .seq #[e.key, e.val] } := by rw [← hH2, ← hz1]; exact Heap.get?_push_size _ rfl
  have hz2 : h2.objs.size = s.heap.objs.size + 1 := by rw [← hH2, Heap.size_push, hz1]
  have hk2 : ∀ b o, b ≠ it → s.heap.get? b = some o → h2.get? b = some o := fun b o hb e => by rw [← hH2]; exact Heap.get?_push_of_some _ (hs1.extBut b o hb e)
  rw [hz1]
  refine wpAny_bind ?_
  unfold Builtin.Dict_items.ownedTupleIsFree
  refine wpAny_bind (wpAny_field he2 rfl (x := .none) rfl (wpAny_pure ?_))
  simp only [if_true]
  refine wpAny_bind (wpAny_field he2 rfl (x := ok) rfl (wpAny_bind (wpAny_field he2 rfl (x := ov) rfl ?_)))
  refine wpAny_bind (wpAny_setField_rec he2 (by simp) fun h3 he3 hs3 => ?_)
  replace he3 : IsItemIter h3 it d (i + 1) es.size ep e.key ov := he3
  refine wpAny_bind (wpAny_setField_rec he3 (by simp) fun h4 he4 hs4 => ?_)
  replace he4 : IsItemIter h4 it d (i + 1) es.size ep e.key e.val := he4
  refine wpAny_bind (wpAny_setField_rec he4 (by simp) fun h5 he5 hs5 => ?_)
  replace he5 : IsItemIterOut h5 it d (i + 1) es.size ep e.key e.val s.heap.objs.size := he5
  refine wpAny_bind (wpAny_setField_rec he5 (by simp) fun h6 he6 hs6 => ?_)
  replace he6 : IsItemIterOut h6 it d (i + 1) es.size ep e.key e.val s.heap.objs.size := he6
  have up : ∀ b o, b ≠ it → h2.get? b = some o → h6.get? b = some o := fun b o hb e => hs6.extBut b o hb (hs5.extBut b o hb (hs4.extBut b o hb (hs3.extBut b o hb e)))
  have hz6 : h6.objs.size = s.heap.objs.size + 1 := hs6.1.trans (hs5.1.trans (hs4.1.trans (hs3.1.trans hz2)))
  exact wpAny_bind (wpAny_letGo (wpAny_pure (wpAny_pure ⟨_, rfl, wpAny_pure (hQ h6 he6 (up _ _ (Nat.ne_of_gt hil) ht2) hz6 fun b o hb e => up b o hb (hk2 b o hb e))⟩)))
/-- no more pairs -/
theorem raw_item_end {it d : Addr} {i ep : Nat} {es : Array DictEntry} {ok ov : Value} {Q : Option Value → Shared → Prop} (hh : A.handled = none) (hit : IsItemIter s.heap it d i es.size ep ok ov) (hm : RawD s.heap d es ep) (hx : es.size ≤ i)
    (hQ : ∀ h', Heap.ExtBut it s.heap h' → Q none { s with heap := h' }) : wpAny (model prog w) A (pyNext (.ref it)) Q E s := by
  obtain ⟨od, hod, hdd⟩ := hm
  have hT : s.TypeIs (.ref it) "dict_itemiterator" := ⟨_, hit, rfl⟩
  unfold pyNext
  refine wpAny_bind (wpAny_attempt (wpAny_callSpecial?_slot (name := Str.ofString "__next__") hT F.slot_dict_itemiterator_next
    (wpAny_call_entry F.slot_dict_itemiterator_next hT F.entry_dict_itemiterator_next (wpAny_bind (wpAny_pure (wpAny_bind (wpAny_bind (wpAny_bind (wpAny_typeNameOfWhole_itemiter hT (wpAny_pure (wpAny_bind (wpAny_fieldsOf hit rfl ?_)))))))) ) (F.args_dict_itemiterator_next_1 _))))
  simp only [show Builtin.Dict_items.ownsTuple "dict_itemiterator" = true by decide, if_true]
  show wpAny _ _ (if (Value.ref d == Value.none) = true then _ else _) _ _ s
  rw [if_neg (show ¬ ((Value.ref d == Value.none) = true) from Bool.false_ne_true)]
  refine wpAny_bind (wpAny_pure (wpAny_bind (wpAny_dictEntries hod hdd ?_)))
  rw [if_neg (by simp)]
  refine wpAny_bind (wpAny_pure (wpAny_bind (wpAny_dictEpoch hod hdd ?_)))
  rw [if_neg (by simp)]
  refine wpAny_pure ?_
  simp only [show ¬ ((i : Int) < 0) from by omega, if_false, Int.toNat_natCast, Array.getElem?_eq_none hx]
  refine wpAny_bind (wpAny_bind (wpAny_typeNameOfWhole_itemiter hT (wpAny_pure ?_)))
  show wpAny _ _ (setField (.ref it) 2 .none >>= _) _ _ s
  refine wpAny_bind (wpAny_setField hit rfl (by simp) ?_)
  show wpAny _ _ (newExc (.type "StopIteration") [] >>= _) _ _ _
  refine wpAny_bind ?_
  simp only [newExc, newTuple]
  refine wpAny_bind (wpAny_newObj_type ?_ (by size_fits))
  refine wpAny_bind (m := firstArgMember _ _) (wpAny_of_eq (a := Value.none) (by first | rfl | (simp only [firstArgMember]; rfl)) ?_)
  refine wpAny_newObj_type ?_ (by size_fits)
  simp only [raiseNew]
  refine wpAny_bind (wpAny_handled ?_)
  rw [show A.in1.handled = none from hh]
  refine wpAny_bind (wpAny_pure (wpAny_throw ?_))
  refine wpAny_bind (wpAny_isInstance (T := "StopIteration") (b := true) ⟨_, Heap.get?_push_size _ rfl, rfl⟩ isSubtype_stop ?_)
  refine wpAny_pure (hQ _ ?_)
  exact ((Heap.SameBut.update ..).extBut.push _).push _
end
end Mine
end PartD1
section PartD2
open PySem PySem.W PyProof.Rows PySem.Calls PySem.Spec
set_option maxRecDepth 100000
set_option maxHeartbeats 4000000
namespace Mine
section
variable {prog : Program} {w : World} {A : Around} {E : Value → Shared → Prop} {s : Shared} {env : Env} {h₀ : Heap} {target : Expr} {body : List Stmt} {Q : Flow → Shared → Prop}
theorem rawValues_walk (hh : A.handled = none) (I d : Addr) (hne : d ≠ I) (es : Array DictEntry) (ep : Nat) :
    Walks prog w A I [I, d] [I] es.size (fun i v => ∃ e, es[i]? = some e ∧ v = e.val) (fun i h => h.IsValIter I d i es.size ep ∧ RawD h d es ep) where
  sub := fun b hb => by simp at hb; simp [hb]
  frame := fun _ _ _ st hk => ⟨st.1.at fun o e => hk I (by simp) o e, st.2.keep fun o e => hk d (by simp) o e⟩
  item := fun i s Q E hi st hQ => by
    have hx : es[i]? = some es[i] := Array.getElem?_eq_getElem hi
    refine raw_value_next st.1 st.2 hx fun h' hit' hs' => ?_
    exact hQ _ h' s.toks ⟨_, hx, rfl⟩ ⟨hit', st.2.keep fun o e => hs'.extBut d o hne e⟩ fun b o hb e => hs'.extBut b o (fun h => hb (by simp [h])) e
  done := fun s Q E st hQ => raw_value_end hh st.1 st.2 (Nat.le_refl _) fun h' he' => hQ h' s.toks fun b o hb e => he' b o (fun h => hb (by simp [h])) e
  self := fun _ _ _ _ st hQ => wpAny_pyIter_valiter st.1 hQ
theorem rawItems_turns {elts : List Expr} {kk : Nat} {pos : Pos} (hh : A.handled = none) (I d : Addr) (hne : d ≠ I) (es : Array DictEntry) (ep : Nat) :
    KTurns prog w A (.Tuple elts kk pos) I [I, d] [I] es.size
      (fun i v h => ∃ T e, v = .ref T ∧ es[i]? = some e ∧ h.IsTuple T #[e.key, e.val])
      (fun i v h => ∃ T e ok ov, v = .ref T ∧ es[i]? = some e ∧ h.IsTuple T #[e.key, e.val] ∧ IsItemIterOut h I d (i + 1) es.size ep ok ov T ∧ RawD h d es ep ∧ T ≠ I)
      (fun i h => (∃ ok ov, IsItemIter h I d i es.size ep ok ov) ∧ RawD h d es ep) where
  sub := fun b hb => by simp at hb; simp [hb]
  frame := fun i h h' st hk => by
    obtain ⟨⟨ok, ov, he⟩, hm⟩ := st
    exact ⟨⟨ok, ov, hk I (by simp) _ he⟩, hm.keep fun o e => hk d (by simp) o e⟩
  item := fun i s Q E hi st hQ => by
    obtain ⟨⟨ok, ov, he⟩, hm⟩ := st
    have hx : es[i]? = some es[i] := Array.getElem?_eq_getElem hi
    refine raw_item_next he hm hx fun h' ho hT hsz hk => ?_
    exact hQ (.ref s.heap.objs.size) h' s.toks ⟨s.heap.objs.size, _, _, _, rfl, hx, ⟨_, hT, rfl, _, rfl⟩, ho, hm.keep (fun o e => hk d o hne e), Nat.ne_of_gt (Heap.lt_size he)⟩ fun b o hb e => hk b o (fun h => hb (by simp [h])) e
  go := fun i v s Q E hm hQ => by
    obtain ⟨T, e, ok, ov, rfl, hx, hT, ho, hd, hTI⟩ := hm
    refine wpAny_letOwnedTupleGo_items ho fun h' he hs => ?_
    exact hQ h' ⟨T, e, rfl, hx, hT.at fun o e => hs.extBut T o hTI e⟩ ⟨⟨ok, ov, he⟩, hd.keep fun o e => hs.extBut d o hne e⟩ fun b o hb e => hs.extBut b o (fun h => hb (by simp [h])) e
  done := fun s Q E st hQ => by
    obtain ⟨⟨ok, ov, he⟩, hm⟩ := st
    exact raw_item_end hh he hm (Nat.le_refl _) fun h' hx => hQ h' s.toks fun b o hb e => hx b o (fun h => hb (by simp [h])) e
theorem raw_items {elts : List Expr} {kk : Nat} {pos : Pos} {d vw : Addr} {od : Obj} {es : Array DictEntry} {ep : Nat} {xs : List Itm} {m₀ : Str → Option Value} {news : List (Addr × Obj)}
    (hh : A.handled = none) (F : Fr h₀ env.locals s.heap m₀) (N : News h₀ env.locals s.heap news) (hvw : s.heap.IsItemsView vw d) (hm : (d, od) ∈ news) (hod : od.data = .dict es ep)
    (hx : es.toList.map (fun e => Itm.pair (fun _ => e.key) e.val) = xs)
    (rest₀ : ∀ I : Addr, (∀ p ∈ news, p.1 < I) → ItemsRest prog w A E h₀ env (.Tuple elts kk pos) body Q s [(I, "dict_itemiterator")] [(d, od)] xs m₀ news) :
    wpAny (model prog w) A (pyIter (.ref vw)) (fun it s₂ => TurnsAt prog w A h₀ env (.Tuple elts kk pos) body Q E it s₂) E s := by
  subst hx
  have hax := N _ hm
  have hat : RawD s.heap d es ep := ⟨od, hax.1, hod⟩
  have hne : d ≠ s.heap.objs.size := Nat.ne_of_lt (Heap.lt_size hax.1)
  refine raw_items_iter hvw hat ?_
  refine ktu_core (tk0 := s.toks) (keep := [(d, od)]) (rawItems_turns hh s.heap.objs.size d hne es ep) (by rw [List.length_map, Array.length_toList]) ?_ ?_ ?_ ?_ ?_ ?_ ?_ ?_ (F.push _) (fun p hp => ⟨Heap.get?_push_of_some _ (N p hp).1, (N p hp).2⟩) (And.intro hm trivial) (rest₀ _ fun p hp => Heap.lt_size (N p hp).1)
  · rintro i v h ⟨T', e, rfl, hx, hT⟩
    exact ⟨.pair (fun _ => e.key) e.val, by rw [List.getElem?_map, Array.getElem?_toList, hx]; rfl, T', 0, rfl, hT⟩
  · rintro i h ⟨⟨ok, ov, he⟩, _⟩
    have e1 : ∃ o : Obj, h.get? s.heap.objs.size = some o ∧ o.cls = .type "dict_itemiterator" := ⟨_, he, rfl⟩
    obtain ⟨oi, g, c⟩ := e1
    exact ⟨[(s.heap.objs.size, oi)], ⟨⟨rfl, c⟩, trivial⟩, fun p hp => by rw [List.mem_singleton.mp hp]; exact g⟩
  · intro b hb
    rw [show b = s.heap.objs.size by simpa using hb]
    exact ⟨List.mem_cons_self .., next_is_new F⟩
  · intro b hb; simpa using hb
  · intro b hb
    rcases (show b = s.heap.objs.size ∨ b = d by simpa using hb) with e | e
    · exact .inl (by simp [e])
    · exact .inr ⟨od, by simp [e]⟩
  · intro hI
    rcases (show env.locals = s.heap.objs.size ∨ env.locals = d by simpa using hI) with e | e
    · exact absurd F.ns.lt (e ▸ Nat.lt_irrefl _)
    · exact hax.2.1 e.symm
  · intro p hp hI
    exact absurd (Heap.lt_size (N p hp).1) ((List.mem_singleton.mp hI) ▸ Nat.lt_irrefl _)
  · exact ⟨⟨.none, .none, Heap.get?_push_size _ rfl⟩, hat.keep fun o e => Heap.get?_push_of_some _ e⟩
theorem raw_values {d vw : Addr} {od : Obj} {es : Array DictEntry} {ep : Nat} {xs : List Itm} {m₀ : Str → Option Value} {news : List (Addr × Obj)}
    (hh : A.handled = none) (F : Fr h₀ env.locals s.heap m₀) (N : News h₀ env.locals s.heap news) (hv : s.heap.IsValuesView vw d) (hm : (d, od) ∈ news) (hod : od.data = .dict es ep)
    (hx : es.toList.map (fun e => Itm.val e.val) = xs)
    (rest₀ : ∀ I : Addr, (∀ p ∈ news, p.1 < I) → ItemsRest prog w A E h₀ env target body Q s [(I, "dict_valueiterator")] [(d, od)] xs m₀ news) :
    wpAny (model prog w) A (pyIter (.ref vw)) (fun it s₂ => TurnsAt prog w A h₀ env target body Q E it s₂) E s := by
  subst hx
  have hax := N _ hm
  have hat : RawD s.heap d es ep := ⟨od, hax.1, hod⟩
  have hne : d ≠ s.heap.objs.size := Nat.ne_of_lt (Heap.lt_size hax.1)
  refine raw_values_iter hv hat ?_
  refine ktu_core (tk0 := s.toks) (keep := [(d, od)]) (KTurns.ofWalks (rawValues_walk hh s.heap.objs.size d hne es ep) fun i v s Q E st q => letGo_valiter st.1 q) (by rw [List.length_map, Array.length_toList]) ?_ ?_ ?_ ?_ ?_ ?_ ?_ ?_ (F.push _) (fun p hp => ⟨Heap.get?_push_of_some _ (N p hp).1, (N p hp).2⟩) (And.intro hm trivial) (rest₀ _ fun p hp => Heap.lt_size (N p hp).1)
  · rintro i v h ⟨e, hx, rfl⟩
    exact ⟨.val e.val, by rw [List.getElem?_map, Array.getElem?_toList, hx]; rfl, rfl⟩
  · rintro i h ⟨⟨oi, g, c, _⟩, _⟩
    exact ⟨[(s.heap.objs.size, oi)], ⟨⟨rfl, c⟩, trivial⟩, fun p hp => by rw [List.mem_singleton.mp hp]; exact g⟩
  · intro b hb
    rw [show b = s.heap.objs.size by simpa using hb]
    exact ⟨List.mem_cons_self .., next_is_new F⟩
  · intro b hb; simpa using hb
  · intro b hb
    rcases (show b = s.heap.objs.size ∨ b = d by simpa using hb) with e | e
    · exact .inl (by simp [e])
    · exact .inr ⟨od, by simp [e]⟩
  · intro hI
    rcases (show env.locals = s.heap.objs.size ∨ env.locals = d by simpa using hI) with e | e
    · exact absurd F.ns.lt (e ▸ Nat.lt_irrefl _)
    · exact hax.2.1 e.symm
  · intro p hp hI
    exact absurd (Heap.lt_size (N p hp).1) ((List.mem_singleton.mp hI) ▸ Nat.lt_irrefl _)
  · exact ⟨⟨_, Heap.get?_push_size _ rfl, rfl, rfl⟩, hat.keep fun o e => Heap.get?_push_of_some _ e⟩
end
end Mine
end PartD2
section PartD3
open PySem PySem.W PyProof.Rows PySem.Calls PySem.Spec
set_option maxRecDepth 100000
set_option maxHeartbeats 4000000
namespace Mine
theorem beq_eq_decide' (a b : Int) : (a == b) = decide (a = b) := by by_cases h : a = b <;> simp [h]
abbrev MK := Int ⊕ Str
def mixIs : MK → Value → Bool
  | .inl i, v => Value.isInt i v
  | .inr x, v => Value.isStrOf x v
theorem mixIs_int {i : Int} {t : Tok} : mixIs (.inl i) (.int i t) = true := by simp [mixIs, Value.isInt]
theorem mixIs_str {x : Str} {t : Tok} : mixIs (.inr x) (.str x t) = true := by simp [mixIs, Value.isStrOf]
def mixKind (prog : Program) (w : World) : KeyKind prog w MK where
  is := mixIs
  hash := fun | .inl i => hashInt i | .inr x => hashStr w x
  inj := fun v a b ha hb => by
    cases a <;> cases b <;> simp only [mixIs] at ha hb
    · rw [Value.isInt_inj v _ _ ha hb]
    · obtain ⟨t, rfl⟩ := Value.isInt_shape ha; simp [Value.isStrOf] at hb
    · obtain ⟨t, rfl⟩ := Value.isInt_shape hb; simp [Value.isStrOf] at ha
    · rw [Value.isStrOf_inj v _ _ ha hb]
  byValue := fun k v h => by
    cases k <;> simp only [mixIs] at h
    · obtain ⟨t, rfl⟩ := Value.isInt_shape h; rfl
    · obtain ⟨t, rfl⟩ := Value.isStrOf_shape h; rfl
  pyHash := fun {A E s k v Q} hv h => by
    cases k <;> simp only [mixIs] at hv
    · obtain ⟨t, rfl⟩ := Value.isInt_shape hv; exact wpAny_pyHash_int h
    · obtain ⟨t, rfl⟩ := Value.isStrOf_shape hv; exact wpAny_pyHash_str h
  eqBool := fun {A E s a b u v Q} hu hv h => by
    cases a <;> cases b <;> simp only [mixIs] at hu hv
    · obtain ⟨t, rfl⟩ := Value.isInt_shape hu
      obtain ⟨t', rfl⟩ := Value.isInt_shape hv
      refine wpAny_eqBool_int ?_
      rw [beq_eq_decide']; simpa using h
    · obtain ⟨t, rfl⟩ := Value.isInt_shape hu
      obtain ⟨t', rfl⟩ := Value.isStrOf_shape hv
      refine PySem.SeqAt.EqAt.int_str _ _ _ _ _ _ _ _ ?_
      simpa using h
    · obtain ⟨t, rfl⟩ := Value.isStrOf_shape hu
      obtain ⟨t', rfl⟩ := Value.isInt_shape hv
      refine PySem.SeqAt.EqAt.str_int _ _ _ _ _ _ _ _ ?_
      simpa using h
    · obtain ⟨t, rfl⟩ := Value.isStrOf_shape hu
      obtain ⟨t', rfl⟩ := Value.isStrOf_shape hv
      refine wpAny_eqBool_str ?_
      simpa using h
  «strs» := fun k x t v h => by
    cases k with
    | inl i => simp [mixIs, Value.isInt] at h
    | inr y =>
      obtain ⟨u, hu⟩ := Value.isStrOf_shape (by simpa only [mixIs] using h)
      injection hu with hx
      subst hx
      cases v <;> rfl
section
variable {prog : Program} {w : World}
/-- a tuple of flat items, as a key -/
def KeyO (prog : Program) (w : World) (k : List MK) (o : Obj) : Prop := TupKeyObj (mixKind prog w) k o
/-- a dict of the ledger: its keys in order, each with a one -/
def Tal (prog : Program) (w : World) (led : List (Addr × Obj)) (d : Addr) (ks : List (List MK)) : Prop :=
  (d == sysModules) = false ∧ ∃ (od : Obj) (es : Array DictEntry) (ep : Nat) (xs : List (List MK × Addr × Value)), (d, od) ∈ led ∧ od.ExactDict ∧ od.data = .dict es ep ∧ es.toList = xs.map (entryOfKey (tupleKind (mixKind prog w))) ∧ xs.map (·.1) = ks ∧ ks.Nodup ∧
    ∀ x ∈ xs, (∃ ok, (x.2.1, ok) ∈ led ∧ KeyO prog w x.1 ok) ∧ ∃ t, x.2.2 = .int 1 t
theorem Tal.nonIt {led led' : List (Addr × Obj)} {d : Addr} {ks : List (List MK)} (x : Tal prog w led d ks) (hs : ∀ q ∈ led, Mine.nonIt q.2 → q ∈ led') : Tal prog w led' d ks := by
  obtain ⟨lo, od, es, ep, xs, hm, hc, hd, he, hk, hn, hx⟩ := x
  refine ⟨lo, od, es, ep, xs, hs _ hm (nonIt_dict hc.1), hc, hd, he, hk, hn, fun y hy => ?_⟩
  obtain ⟨⟨ok, h1, h2⟩, h3⟩ := hx y hy
  exact ⟨⟨ok, hs _ h1 (nonIt_tuple h2.1), h2⟩, h3⟩
theorem Tal.dictOf {g h : Heap} {L : Addr} {led : List (Addr × Obj)} {d : Addr} {ks : List (List MK)} (x : Tal prog w led d ks) (N : News g L h led) :
    ∃ xs : List (List MK × Addr × Value), h.DictOfH (tupleKind (mixKind prog w)) d xs ∧ xs.map (·.1) = ks ∧ ∀ x ∈ xs, (∃ ok, (x.2.1, ok) ∈ led ∧ KeyO prog w x.1 ok) ∧ ∃ t, x.2.2 = .int 1 t := by
  obtain ⟨lo, od, es, ep, xs, hm, hc, hd, he, hk, hn, hx⟩ := x
  exact ⟨xs, ⟨od, es, ep, N.get hm, hc, hd, he, fun y hy => by obtain ⟨⟨ok, h1, h2⟩, _⟩ := hx y hy; exact h2.key (N.get h1), by rw [hk]; exact hn⟩, hk, hx⟩
variable {A : Around} {E : Value → Shared → Prop} {s : Shared} {g : Heap} {L d a : Addr} {m : Str → Option Value} {led : List (Addr × Obj)} {ks : List (List MK)} {k : List MK} {ok : Obj}
theorem atKey_none {xs : List (List MK × Addr × Value)} (h : k ∉ xs.map (·.1)) : atKey xs k = none := by
  unfold atKey
  rw [List.find?_eq_none.mpr]
  · rfl
  · intro x hx e
    exact h (List.mem_map.mpr ⟨x, hx, of_decide_eq_true e⟩)
theorem tal_in {Q : Value → Shared → Prop} (hu : A.units + 1 < cLine) (N : News g L s.heap led) (T : Tal prog w led d ks) (hka : (a, ok) ∈ led) (hko : KeyO prog w k ok) (hk : k ∉ ks)
    (h : ∀ tk, Q (.bool false) { s with toks := tk }) : wpAny (model prog w) A (compareOp .In (.ref a) (.ref d)) Q E s := by
  have lo := T.1
  obtain ⟨xs, hD, hks, _⟩ := T.dictOf N
  refine wpAny_in_heap (knd := tupleKind (mixKind prog w)) (tupleKind_room_in1 hu) (hko.key (N.get hka)) lo hD ?_
  rw [atKey_none (by rw [hks]; exact hk)]
  exact h _
theorem tal_put {h' : Heap} {o : Obj} {xs : List (List MK × Addr × Value)} {t : Tok} (N : News g L s.heap led) (lo : (d == sysModules) = false) (hm : (d, o) ∈ led) (hc : o.cls = .type "dict") (hka : (a, ok) ∈ led) (hko : KeyO prog w k ok) (hks : xs.map (·.1) = ks) (hk : k ∉ ks)
    (hx : ∀ x ∈ xs, (∃ ok, (x.2.1, ok) ∈ led ∧ KeyO prog w x.1 ok) ∧ ∃ t, x.2.2 = .int 1 t) (hm' : h'.DictOfH (tupleKind (mixKind prog w)) d (storedH xs k a (.int 1 t))) (hs : Heap.SameBut d s.heap h') :
    ∃ o', o'.cls = .type "dict" ∧ News g L h' (upd d o' led) ∧ Tal prog w (upd d o' led) d (ks ++ [k]) := by
  obtain ⟨o', es', ep', ho', hc', hd', he', _, hn'⟩ := hm'
  have hst : storedH xs k a (.int 1 t) = xs ++ [(k, a, .int 1 t)] := storedH_new (atKey_none (by rw [hks]; exact hk)) _ _
  rw [hst] at he' hn'
  have htup : ∀ {b : Addr} {ob : Obj} {k' : List MK}, (b, ob) ∈ led → KeyO prog w k' ob → (b, ob) ∈ upd d o' led := fun hb t => mem_upd hb (News.ne N hb hm (by rw [t.1, hc]; decide))
  refine ⟨o', hc'.1, upd_news N hm hs ho', lo, o', es', ep', xs ++ [(k, a, .int 1 t)], mem_upd_self, hc', hd', he', by rw [List.map_append, hks]; rfl, by rw [List.map_append, hks] at hn'; exact hn', fun x hxm => ?_⟩
  rcases List.mem_append.mp hxm with hxm | hxm
  · obtain ⟨⟨okx, h1, h2⟩, h3⟩ := hx x hxm
    exact ⟨⟨okx, htup h1 h2, h2⟩, h3⟩
  · rw [List.mem_singleton.mp hxm]
    exact ⟨⟨ok, htup hka hko, hko⟩, t, rfl⟩
theorem tal_set {t : Tok} {Q : Unit → Shared → Prop} (hu : A.units + 1 < cLine) (F : Fr g L s.heap m) (N : News g L s.heap led) (T : Tal prog w led d ks) (hka : (a, ok) ∈ led) (hko : KeyO prog w k ok) (hk : k ∉ ks) (hlen : ks.length ≤ 1000)
    (h : ∀ h' o' tk, o'.cls = .type "dict" → Fr g L h' m → News g L h' (upd d o' led) → Tal prog w (upd d o' led) d (ks ++ [k]) → Q () { s with heap := h', toks := tk }) :
    wpAny (model prog w) A (setItem (.ref d) (.ref a) (.int 1 t)) Q E s := by
  obtain ⟨xs, hD, hks, hx⟩ := T.dictOf N
  obtain ⟨lo, od, _, _, _, hm, hc, _⟩ := T
  refine wpAny_setItem_heap (knd := tupleKind (mixKind prog w)) (tupleKind_room_in1 hu) (hko.key (N.get hka)) hD (fun h' hm' hs => ?_) (by rw [← List.length_map (f := (·.1)), hks, sizeLine_eq]; omega)
  obtain ⟨o', h1, h2, h3⟩ := tal_put N lo hm hc.1 hka hko hks hk hx hm' hs
  exact h h' o' _ h1 (upd_fr F N hm hs) h2 h3
theorem tal_dictSet {t : Tok} {Q : Unit → Shared → Prop} (hu : A.units < cLine) (F : Fr g L s.heap m) (N : News g L s.heap led) (T : Tal prog w led d ks) (hka : (a, ok) ∈ led) (hko : KeyO prog w k ok) (hk : k ∉ ks) (hlen : ks.length ≤ 1000)
    (h : ∀ h' o' tk, o'.cls = .type "dict" → Heap.SameBut d s.heap h' → Fr g L h' m → News g L h' (upd d o' led) → Tal prog w (upd d o' led) d (ks ++ [k]) → Q () { s with heap := h', toks := tk }) :
    wpAny (model prog w) A (dictSet d (.ref a) (.int 1 t)) Q E s := by
  obtain ⟨xs, hD, hks, hx⟩ := T.dictOf N
  obtain ⟨lo, od, _, _, _, hm, hc, _⟩ := T
  refine wpAny_dictSet_heap (knd := tupleKind (mixKind prog w)) hu (hko.key (N.get hka)) hD (fun h' hm' hs => ?_) (by rw [← List.length_map (f := (·.1)), hks, sizeLine_eq]; omega)
  obtain ⟨o', h1, h2, h3⟩ := tal_put N lo hm hc.1 hka hko hks hk hx hm' hs
  exact h h' o' _ h1 hs (upd_fr F N hm hs) h2 h3
theorem tal_empty {o : Obj} {K' : Type} [DecidableEq K'] {knd' : KeyKind prog w K'} (hm : (d, o) ∈ led) (lo : (d == sysModules) = false) (hd : o.IsDictOf knd' []) : Tal prog w led d [] := by
  obtain ⟨es, ep, hc, hdat, _, hp, _⟩ := hd
  have he : es.toList = [] := List.length_eq_zero_iff.mp hp.length
  exact ⟨lo, o, es, ep, [], hm, hc, hdat, he, rfl, List.nodup_nil, fun _ hx => by simp at hx⟩
theorem tal_getMethod {name : Str} {id : String} {pl : Sem Bool} {Q : Value × List Value → Shared → Prop} (slot : Slot "dict" name id) (hty : typeOf (.builtin id) = pure (.type "method_descriptor"))
    (T : Tal prog w led d ks) (N : News g L s.heap led) (h : Q (.builtin id, [.ref d]) s) : wpAny (model prog w) A (getMethod (.ref d) name pl) Q E s := by
  obtain ⟨lo, od, es, ep, xs, hm, hc, _⟩ := T
  exact getMethod_builtin (s := s) ⟨od, N.get hm, hc.1⟩ PySem.F.plainAttrs_dict slot hty (fun b e => by cases e; exact ⟨od, N.get hm, hc.2.1⟩) h
theorem News.push {h : Heap} (N : News g L h led) (o : Obj) : News g L (h.push o) led := fun p hp => ⟨Heap.get?_push_of_some _ (N p hp).1, (N p hp).2⟩
end
end Mine
end PartD3
section PartD4
open PySem PySem.W PyProof.Rows PySem.Calls PySem.Spec
open Sem (wp)
set_option maxRecDepth 100000
set_option maxHeartbeats 4000000
namespace Mine
theorem lk_list_keys : typeLookup (.type "list") "keys" = pure none := by rw [typeLookup_type, builtinLookup_eq_fast]; kernel_rfl
section
variable {prog : Program} {w : World} {A : Around} {E : Value → Shared → Prop} {h : Heap} {g : Array GenState} {d : Drawn} {t : Nat} {os : OsState} {a : Addr} {o : Obj}
theorem keys_missing {its : Array Value} {n : Nat} {Q : Option Value → Shared → Prop} (hx : h.get? a = some (listOf its n)) (hA : A.handled = none)
    (hQ : ∀ h' tk, (∀ b o, h.get? b = some o → h'.get? b = some o) → Q none ⟨h', g, d, tk, os⟩) : wpAny (model prog w) A (getAttr? (.ref a) "keys") Q E ⟨h, g, d, t, os⟩ := by
  have hT : ∀ tk', (⟨h, g, d, tk', os⟩ : Shared).TypeIs (.ref a) "list" := fun _ => ⟨_, hx, rfl⟩
  have f1 := sub_AttributeError
  have f3 := F.slot_list_getattribute.lookup
  have f4 := F.slot_list_getattribute.bind (.ref a)
  have f5 := am_list_getattr_none
  unfold getAttr? getAttrBy? getAttrBy
  repeat (any_goals (first | assumption | exact hT _ | ((with_reducible show wpAny _ _ (call (Value.builtin "list.__getattribute__") _ _) _ _ _); refine call_meets F.slot_list_getattribute (hT _) am_entry_list_getattribute (F.args_list_getattribute_2 _ _) (meets_getattribute_miss_list a its n #[] _ _ lk_list_keys (by decide)) ⟨hx, hA, fun h' tk' e hx' => ?_⟩) | wp_step))
  obtain ⟨t', u', he⟩ := hx'.there
  show wpAny _ _ (getattributeRaised _ _ _ _ _ _ _) _ _ _
  unfold getattributeRaised
  repeat (any_goals (first | assumption | wp_step))
  exact hQ _ _ hx'.keeps
end
theorem plain_update_loop : plainId "dict.update.loop" = true := by decide +kernel
theorem entry_update_loop : entryFor table "dict.update.loop" = some Builtin.«dict.update.loop» := entryFor_of_fast (by kernel_rfl)
/-- pairs of a key and a one -/
def PairsUp (prog : Program) (w : World) (led : List (Addr × Obj)) (us : List Value) (ks : List (List MK)) : Prop :=
  us.length = ks.length ∧ ∀ (j : Nat) (u : Value), us[j]? = some u → ∃ (T a : Addr) (ok : Obj) (t : Tok) (k : List MK) (nn : Nat), u = Value.ref T ∧ ks[j]? = some k ∧ (T, tupOf #[.ref a, .int 1 t] nn) ∈ led ∧ (a, ok) ∈ led ∧ KeyO prog w k ok
section
variable {prog : Program} {w : World} {A : Around} {R : Result → Shared → Prop} {g : Heap} {L l d I : Addr} {m : Str → Option Value} {us : List Value} {ks : List (List MK)} {n : Nat}
theorem upd_loop (hh : A.handled = none) (hu : A.units + 1 < cLine) (hne : l ≠ I) (hd : d ≠ I) (hdl : d ≠ l) (hL : L ≠ I) (hgI : g.get? I = none) (hnd : ks.Nodup) (hlen : ks.length ≤ 1000) :
    ∀ (k i : Nat) (s : Shared) (led : List (Addr × Obj)), us.length - i = k → i ≤ us.length → (s.heap.IsListIter I l i ∧ s.heap.IsList l us.toArray) → Fr g L s.heap m → News g L s.heap led → (∀ p ∈ led, p.1 ≠ I) →
      Tal prog w led d (ks.take i) → PairsUp prog w led us ks →
      (∀ h' tk led', Fr g L h' m → News g L h' led' → Tal prog w led' d ks → (∀ q ∈ led, q.1 ≠ d → q ∈ led') → R (.ok (.ret .none)) { s with heap := h', toks := tk }) →
      codeAny (model prog w) A (.builtin "dict.update.loop" ⟨[.ref d, .ref I, rawInt i, .none], []⟩) R s := by
  have W := Walks.list (prog := prog) (w := w) (A := A.in1) hh I l hne us.toArray
  have keepF : ∀ {h h' : Heap}, Fr g L h m → (∀ b o, b ∉ [I] → h.get? b = some o → h'.get? b = some o) → Fr g L h' m := fun F hk => ⟨F.ns.at' fun o e => hk L o (by simp [hL]) e, fun b o e => hk b o (by simp; rintro rfl; rw [hgI] at e; cases e) (F.keep b o e), F.above⟩
  have keepN : ∀ {h h' : Heap} {led : List (Addr × Obj)}, News g L h led → (∀ p ∈ led, p.1 ≠ I) → (∀ b o, b ∉ [I] → h.get? b = some o → h'.get? b = some o) → News g L h' led := fun N hI hk p hp => ⟨hk _ _ (by simp [hI p hp]) (N p hp).1, (N p hp).2⟩
  intro k
  induction k with
  | zero =>
    intro i s led hk hi hst F N hI T hp hR
    have hin : i = us.length := by omega
    refine codeAny_builtin entry_update_loop ?_
    rw [Around.under_plainId plain_update_loop _]
    show wpAny _ A.in1 (pyNext (.ref I) >>= _) _ _ s
    subst hin
    refine wpAny_bind (W.done s _ _ (by simpa using hst) fun h' tk hk' => ?_)
    have e : ks.take us.length = ks := by rw [hp.1]; exact List.take_length
    rw [e] at T
    show wpAny _ _ (Builtin.Dict.addKeywords d [] >>= fun _ => ret .none) _ _ _
    exact wpAny_bind (wpAny_pure (wpAny_pure (hR h' tk led (keepF F hk') (keepN N hI hk') T fun q hq _ => hq)))
  | succ k ih =>
    intro i s led hk hi hst F N hI T hp hR
    have hlt : i < us.length := by omega
    refine codeAny_builtin entry_update_loop ?_
    rw [Around.under_plainId plain_update_loop _]
    show wpAny _ A.in1 (pyNext (.ref I) >>= _) _ _ s
    refine wpAny_bind (W.item i s _ _ (by simpa using hlt) hst fun v h' tk hP hst' hk' => ?_)
    have F' := keepF F hk'
    have N' := keepN N hI hk'
    obtain ⟨T', a', ok, t, kk, nn, rfl, hkk, hT', ha', hko⟩ := hp.2 i v (by simpa using hP)
    have hTT : Shared.TypeIs { s with heap := h', toks := tk } (.ref T') "tuple" := ⟨_, N'.get hT', rfl⟩
    refine wpAny_bind (wpAny_holding (wpAny_bind (wpAny_tryCatch ?_)))
    unfold Builtin.Dict.pairItems
    refine wpAny_bind (wpAny_typeOf hTT ?_)
    rw [if_pos (by decide)]
    refine wpAny_bind (wpAny_seqItems (N'.get hT') rfl (wpAny_pure ?_))
    refine wpAny_holding ?_
    have hkl : i < ks.length := by rw [← hp.1]; exact hlt
    have hkn : kk ∉ ks.take i := fun hm => by
      obtain ⟨j, hj, e⟩ := List.getElem_of_mem hm
      have hj' : j < i := by rw [List.length_take] at hj; omega
      rw [List.getElem_take] at e
      have e2 : ks[i] = kk := by rw [List.getElem?_eq_getElem hkl] at hkk; exact Option.some.inj hkk
      have := (List.getElem_inj (h₀ := by omega) (h₁ := hkl) hnd).mp (e.trans e2.symm)
      omega
    refine tal_dictSet (show A.in1.units < cLine from hu) F' N' T ha' hko hkn (by rw [List.length_take]; omega) (fun h2 o2 tk2 hc2 hs2 F2 N2 T2 => ?_)
    have et : ks.take (i + 1) = ks.take i ++ [kk] := by rw [List.take_add_one, hkk]; rfl
    obtain ⟨od, hmd, hcd⟩ : ∃ od, (d, od) ∈ led ∧ od.cls = .type "dict" := by obtain ⟨_, od, _, _, _, hm, hc, _⟩ := T; exact ⟨od, hm, hc.1⟩
    have up : ∀ q ∈ led, q.1 ≠ d → q ∈ upd d o2 led := fun q hq hn => mem_upd hq hn
    have htup : ∀ q ∈ led, q.2.cls = .type "tuple" → q.1 ≠ d := fun q hq hc e => by
      have := News.same N hmd hq e
      rw [this, hcd] at hc
      exact absurd hc (by decide)
    refine wpAny_pure ⟨plainId_quiet plain_update_loop _, ?_⟩
    refine ih (i + 1) _ (upd d o2 led) (by omega) hlt ⟨hst'.1.at fun o e => hs2.extBut I o (Ne.symm hd) e, hst'.2.at fun o e => hs2.extBut l o (Ne.symm hdl) e⟩ F2 N2 ?_ (by rw [et]; exact T2) ⟨hp.1, fun j u hu' => ?_⟩ ?_
    · intro p hp'
      rcases List.mem_cons.mp hp' with rfl | hp'
      · exact hd
      · exact hI p (List.mem_filter.mp hp').1
    · obtain ⟨T1, a1, ok1, t1, k1, n1, e1, e2, e3, e4, e5⟩ := hp.2 j u hu'
      exact ⟨T1, a1, ok1, t1, k1, n1, e1, e2, up _ e3 (htup _ e3 rfl), up _ e4 (htup _ e4 e5.1), e5⟩
    · intro h3 tk3 led3 F3 N3 T3 keep3
      exact hR h3 tk3 led3 F3 N3 T3 fun q hq hn => keep3 q (up q hq hn) hn
end
section
variable {prog : Program} {w : World} {A : Around} {E : Value → Shared → Prop} {s : Shared} {g : Heap} {L l : Addr} {m : Str → Option Value} {led : List (Addr × Obj)} {us : List Value} {ks : List (List MK)} {n : Nat}
theorem dict_pairs {Q : Value → Shared → Prop} (hh : A.handled = none) (hu : A.units + 10 < cLine) (hbig : g.NoLimit) (F : Fr g L s.heap m) (N : News g L s.heap led) (hl : (l, listOf us.toArray n) ∈ led) (hp : PairsUp prog w led us ks) (hnd : ks.Nodup) (hlen : ks.length ≤ 1000)
    (h : ∀ d h' tk led', Fr g L h' m → News g L h' led' → Tal prog w led' d ks → (∀ q ∈ led, q ∈ led') → Q (.ref d) { s with heap := h', toks := tk }) :
    wpAny (model prog w) A (call (.type "dict") [.ref l]) Q E s := by
  refine callType_codes (Q₁ := fun obj s₁ => obj = .ref s.heap.objs.size ∧ s₁ = { s with heap := s.heap.push { cls := .type "dict", data := .dict #[] } }) PySem.F.kt_called_dict (PySem.F.kt_typeCall_dict_1 _) PySem.F.entry_dict_init (kt_code_dict_new _ ⟨rfl, rfl⟩) ?_
  rintro obj s₁ ⟨rfl, rfl⟩
  have hlo := F.notModules (modules_low hbig)
  obtain ⟨hp0, g0, d0, tk0, os0⟩ := s
  obtain ⟨h1, hh1⟩ : ∃ h1, h1 = hp0.push { cls := .type "dict", data := .dict #[] } := ⟨_, rfl⟩
  have hg1 : h1.get? hp0.objs.size = some { cls := .type "dict", data := .dict #[] } := hh1 ▸ Heap.get?_push_size _ rfl
  have F1 : Fr g L h1 m := hh1 ▸ F.push _
  have N1 : News g L h1 ((hp0.objs.size, { cls := .type "dict", data := .dict #[] }) :: led) := by
    rw [hh1]; exact PyProof.Rows.News.push F N _
  have hT1 : Shared.TypeIs ⟨h1, g0, d0, tk0, os0⟩ (.ref hp0.objs.size) "dict" := ⟨_, hg1, rfl⟩
  have hTl : Shared.TypeIs ⟨h1, g0, d0, tk0, os0⟩ (.ref l) "list" := ⟨_, N1.get (List.Mem.tail _ hl), rfl⟩
  show _ ∧ _ ∧ wpAny _ _ _ _ _ ⟨hp0.push _, g0, d0, tk0, os0⟩
  rw [← hh1]
  refine ⟨hT1, PySem.F.args_dict_init_2 _ _, ?_⟩
  unfold Builtin.«dict.__init__»
  refine wpAny_bind ?_
  unfold Builtin.Dict.selfAndRest
  refine wpAny_bind (wpAny_notOrdered_dict hT1 ?_)
  refine wpAny_pure ?_
  show wpAny _ _ (Builtin.Dict.updateFrom "dict.__init__" hp0.objs.size (.ref l) [] .none) _ _ _
  unfold Builtin.Dict.updateFrom
  refine wpAny_bind (wpAny_typeOf hTl ?_)
  rw [if_pos (by decide)]
  show wpAny _ _ (getAttr? (.ref l) "keys" >>= _) _ _ _
  refine wpAny_bind (keys_missing (N1.get (List.Mem.tail _ hl)) hh fun h2 tk2 hk2 => ?_)
  simp only [Option.isNone_none, if_true]
  refine wpAny_bind (wpAny_rule ?_)
  have F2 := F1.keeps hk2
  have N2 := N1.grown hk2
  have hl2 := N2.isList (List.Mem.tail _ hl)
  have hgd := N2.get List.mem_cons_self
  refine wpAny_bind (wpAny_pyIter_list hl2 ?_)
  obtain ⟨I, hI⟩ : ∃ I, I = h2.objs.size := ⟨_, rfl⟩
  have hltI : ∀ p ∈ (hp0.objs.size, ({ cls := .type "dict", data := .dict #[] } : Obj)) :: led, p.1 < h2.objs.size := fun p hp => Heap.lt_size (N2 p hp).1
  refine wpAny_pure ⟨plainId_quiet plain_update_loop _, ?_⟩
  refine upd_loop (A := A.in1) (I := h2.objs.size) (l := l) (us := us) hh (show A.units + 1 + 1 < cLine by omega) (Nat.ne_of_lt (hltI _ (List.Mem.tail _ hl))) (Nat.ne_of_lt (hltI _ List.mem_cons_self)) ?_ ?_ (next_is_new F2) hnd hlen us.length 0 _ ((hp0.objs.size, { cls := .type "dict", data := .dict #[] }) :: led) (by omega) (Nat.zero_le _)
    ⟨⟨_, Heap.get?_push_size _ rfl, rfl, rfl⟩, hl2.push _⟩ (F2.push _) (fun p hp => ⟨Heap.get?_push_of_some _ (N2 p hp).1, (N2 p hp).2⟩) (fun p hp => Nat.ne_of_lt (hltI p hp)) ?_ ?_ ?_
  · exact Nat.ne_of_gt (Heap.lt_size (N _ hl).1)
  · exact Nat.ne_of_lt F2.ns.lt
  · rw [List.take_zero]
    exact ⟨hlo, _, #[], 0, [], List.mem_cons_self, ⟨rfl, rfl, rfl⟩, rfl, rfl, rfl, List.nodup_nil, fun _ hx => by simp at hx⟩
  · refine ⟨hp.1, fun j u hu' => ?_⟩
    obtain ⟨T1, a1, ok1, t1, k1, n1, e1, e2, e3, e4, e5⟩ := hp.2 j u hu'
    exact ⟨T1, a1, ok1, t1, k1, n1, e1, e2, List.Mem.tail _ e3, List.Mem.tail _ e4, e5⟩
  · intro h3 tk3 led3 F3 N3 T3 keep3
    exact ⟨rfl, h _ h3 tk3 led3 F3 N3 T3 fun q hq => keep3 q (List.Mem.tail _ hq) (Nat.ne_of_lt (Heap.lt_size (N q hq).1))⟩
end
end Mine
end PartD4
section PartD5
open PySem PySem.W PyProof.Rows PySem.Calls PySem.Spec
open Sem (wp)
set_option maxRecDepth 100000
set_option maxHeartbeats 4000000
namespace Mine
section
variable {prog : Program} {w : World} {A : Around} {E : Value → Shared → Prop} {s : Shared} {g : Heap} {L d : Addr} {m : Str → Option Value} {led : List (Addr × Obj)} {ks : List (List MK)} {n : Nat}
theorem raw_len_meets {es : Array DictEntry} {ep : Nat} (hd : (d == sysModules) = false) :
    MeetsIn prog w (Builtin.«dict.__len__» ⟨[.ref d], []⟩) (fun _ R s => RawD s.heap d es ep ∧ R (.ok (.ret (.int es.size s.toks))) { s with toks := s.toks + 1 }) :=
  .of_wp fun A R s ⟨⟨o, ho, hdat⟩, h⟩ => by
    show wpAny _ _ (dictSize d >>= _) _ _ s
    unfold dictSize
    refine wpAny_bind (wpAny_bind (wpAny_dictEntries ho hdat (wpAny_pure ?_)))
    show wpAny _ _ (Builtin.Dict.pendingCount d >>= _) _ _ s
    refine wpAny_bind (wpAny_pendingCount_other hd ?_)
    refine wpAny_ret_mkInt ?_
    rw [Nat.add_zero]; exact h
theorem tal_len {Q : Value → Shared → Prop} (T : Tal prog w led d ks) (N : News g L s.heap led) (hfit : ks.length ≤ 1000) (h : ∀ t tk, Q (.int ks.length t) { s with toks := tk }) :
    wpAny (model prog w) A (call (.builtin "len") [.ref d]) Q E s := by
  obtain ⟨lo, od, es, ep, xs, hm, hc, hd, he, hk, hn, hx⟩ := T
  have hT : s.TypeIs (.ref d) "dict" := ⟨od, N.get hm, hc.1⟩
  have hsz : es.size = ks.length := by rw [← Array.length_toList, he, List.length_map, ← hk, List.length_map]
  refine Calls.call_function_entry kind_len plain_len entry_len (args_len1 _) ?_
  unfold Builtin.«len»
  refine wpAny_bind (m := oneArg "len" _) (wpAny_pure ?_)
  refine wpAny_bind (m := callSpecial? (.ref d) (Str.ofString "__len__")) (wpAny_callSpecial?_slot (name := Str.ofString "__len__") hT PySem.F.slot_dict_len
    (call_meetsIn PySem.F.slot_dict_len hT PySem.F.entry_dict_len (PySem.F.args_dict_len_1 _) (raw_len_meets (es := es) (ep := ep) lo) ⟨⟨od, N.get hm, hd⟩, ?_⟩))
  rw [hsz]
  show wpAny _ _ _ _ _ { s with toks := s.toks + 1 }
  refine wpAny_bind (wpAny_holding (wpAny_pure ?_))
  refine wpAny_bind (wpAny_letGo ?_)
  show wpAny _ _ (if ((ks.length : Nat) : Int) < 0 then _ else _) _ _ _
  rw [if_neg (by omega)]
  show wpAny _ _ (if ((ks.length : Nat) : Int) ≥ 2 ^ 63 then _ else _) _ _ _
  rw [if_neg (by omega)]
  exact wpAny_bind (wpAny_mkInt (wpAny_pure ⟨_, rfl, h _ _⟩))
theorem tal_store1 {a : Addr} {ok : Obj} {k : List MK} {t : Tok} {Q : Value → Shared → Prop} (hu : A.units < cLine) (F : Fr g L s.heap m) (N : News g L s.heap led) (T : Tal prog w led d []) (hka : (a, ok) ∈ led) (hko : KeyO prog w k ok)
    (h : ∀ h' o' tk, o'.cls = .type "dict" → Fr g L h' m → News g L h' (upd d o' led) → Tal prog w (upd d o' led) d [k] → Q (.ref d) { s with heap := h', toks := tk }) : TupStores prog w A E d Q [(.ref a, .int 1 t)] s := by
  unfold TupStores storeAll
  rw [List.forIn_cons]
  refine wpAny_bind (wpAny_bind (tal_dictSet hu F N T hka hko (by simp) (by simp) (fun h' o' tk hc _ F' N' T' => wpAny_pure ?_)))
  show wpAny _ _ (forIn [] _ _) _ _ _
  rw [List.forIn_nil]
  exact wpAny_pure (h h' o' tk hc F' N' T')
end
end Mine
end PartD5
section PartC5
open PySem PySem.W PyProof.Rows PySem.Calls PySem.Spec PyProof.Rows.LCg
set_option maxRecDepth 100000
set_option maxHeartbeats 8000000
namespace Mine
theorem fill4 : PySem.Challenge.rw_hu0002_01 = PySem.Challenge.rw_hu0002_01 ∧ hd.heap_39 = hd.heap_39 := by k_fill; exact ⟨rfl, rfl⟩
local macro_rules | `(tactic| k_enter) => `(tactic| (refine' code_def ?k1 ?k2 ?k3 ?k4 ?k5 ?kA ?kF ?kK ?k6 ?k7 ?k8 ?k9 ?kB ?_ ?c2 ?c3 ?c4 ?c5; (case kA => exact rfl); (case kF => exact rfl); (case kK => first | exact rfl | assumption); (case k1 => k_asm); (case k2 => k_asm); (case k3 => k_asm); (case k4 => k_asm); (case k5 => k_asm); (case k6 => k_is); (case k7 => k_is); (case k8 => ktr_room); (case k9 => (first | exact BindsTo.of_eq rfl | (refine' kp_binds ?kx ?ke; (case kx => k_in); (case ke => exact fun _ => rfl)))); (case c5 => decide); (case kB => exact locs rfl); (case c2 => exact rfl); (case c3 => exact rfl); (case c4 => exact rfl); k_whole; intro g' L' h' FG' F' N' B' X' T'; (try dsimp only); (refine wpAny_noRaise ?_); (try k_fold)))
local macro_rules | `(tactic| walk_at "eval Name") => `(tactic| (k_here; k_dflt (refine' nameX_L ?F ?v ?_ ?a ?b; (case F => k_asm); (case a => rfl); (case b => rfl); (case v => first | exact rfl | assumption); k_whole)))
local macro_rules | `(tactic| walk_at "exec While Compare cons nil") => `(tactic| refine stop_ ?_)
local macro_rules | `(tactic| walk_at "call ref") => `(tactic| refine stop_ ?_)
local macro_rules | `(tactic| walk_at "exec For Tuple Call") => `(tactic| refine stop_ ?_)
local macro_rules | `(tactic| walk_at "exec For Tuple Subscript") => `(tactic| refine stop_ ?_)
local macro_rules | `(tactic| walk_at "exec For Tuple Name") => `(tactic| refine stop_ ?_)
local macro_rules | `(tactic| walk_at "subscriptTail Call Name cons nil Slice ref ref") => `(tactic| (refine kba_turn (value' := PySem.Expr.Name (PySem.Str.ofString "_") ⟨0, 0, 0, 0⟩) (fun _ => rfl) ?_; refine stop_ ?_))
local macro_rules | `(tactic| walk_at "subscriptTail Name Slice ref ref") => `(tactic| refine stop_ ?_)
local macro_rules | `(tactic| walk_at "call builtin:sorted") => `(tactic| refine stop_ ?_)
local macro_rules | `(tactic| walk_at "eval ListComp") => `(tactic| refine stop_ ?_)
local macro_rules | `(tactic| walk_at "exec For Name Call") => `(tactic| refine stop_ ?_)
local macro_rules | `(tactic| walk_at "exec For Name Call cons nil") => `(tactic| refine stop_ ?_)
local macro_rules | `(tactic| walk_at "exec For Tuple Call cons nil") => `(tactic| refine stop_ ?_)
local macro_rules | `(tactic| walk_at "getMethod ref") => `(tactic| refine stop_ ?_)
local macro_rules | `(tactic| walk_at "call builtin:dict.values") => `(tactic| refine stop_ ?_)
local macro_rules | `(tactic| walk_at "call builtin:dict.items") => `(tactic| refine stop_ ?_)
local macro_rules | `(tactic| walk_at "compareOp In ref ref") => `(tactic| refine stop_ ?_)
local macro_rules | `(tactic| walk_at "setItem ref ref") => `(tactic| refine stop_ ?_)
local macro_rules | `(tactic| walk_at "call builtin:len") => `(tactic| refine stop_ ?_)
local macro_rules | `(tactic| walk_at "call builtin:list.append") => `(tactic| refine stop_ ?_)
local macro_rules | `(tactic| walk_at "compareOp Eq ref ref") => `(tactic| refine stop_ ?_)
local macro_rules | `(tactic| walk_at "TPost") => `(tactic| dsimp only [TPost])
local macro_rules | `(tactic| k_steps) => `(tactic| repeat' (first | (k_unfold; (try dsimp only)) | walk1 | (dsimp only; walk1) | fail "no step"))


theorem count_ct {w : World} {mean : ExcName → Option Value} {mg mb : Str → Option Value}
   (dp un : Nat) (gd : Option (List Code)) (cn : Str) (cs : Scope) (a : Addr) (ccd : Value) (cl : List (Str × Addr)) (outer : List Env) (A₀ : Around) (base h₀ : Heap) (L : Addr) (m : Str → Option Value) (s : Shared) (Q E : Value → Shared → Prop)
   (news : List (Addr × Obj))
   (B : Below A₀ base outer h₀) (F : Fr h₀ L s.heap m) (X : (hd.heap_39 w.params).In h₀) (N : News h₀ L s.heap news) (T : Top hd.view_39 LO mean mg mb h₀) (hk : cs.kind = .function)
   (d : Addr) (ks : List (List MK)) (hT : Tal PR w news d ks) (hlen : ks.length ≤ 1000)
   (hdp : dp + 20 < recursionLimit) (hun : un + 80 < cLine)
   (hret : ∀ t h' tk' news', Fr h₀ L h' m → News h₀ L h' news' → (∀ q ∈ news, q ∈ news') → Q (.int ks.length t) {s with heap := h', toks := tk'}) :
   wpAny (model PR w) (ktrTop dp un gd cn cs L a ccd cl outer) (call (.ref 46) [.ref d]) Q E s := by
  refine wpAny_call ?_
  k_dflt k_enter
  rename_i gg LL hx0 FG F1 N1 B1 X1 T1
  replace F1 := fr_re (m' := mp [("callers", .ref d)]) F1 rfl
  k_steps
  refine Stop.go ?_
  rename Fr _ _ _ _ => F2
  rename News _ _ _ _ => N2
  refine For_turns F2 ?_
  k_steps
  refine Stop.go ?_
  refine tal_getMethod PySem.F.slot_dict_values PySem.F.type_dict_values hT N2 ?_
  k_steps
  refine Stop.go ?_
  obtain ⟨lo, od, es, ep, xs, hm, hc, hdat, he, hks, hn, hx⟩ := hT
  refine raw_values_call ⟨_, N2.get hm, hc.1⟩ lo ?_
  refine raw_values (xs := xs.map fun x => Itm.val x.2.2) rfl (F2.push _) (News.push N2 _) ⟨_, Heap.get?_push_size _ rfl, rfl, rfl⟩ hm hdat (by rw [he, List.map_map]; rfl) (fun I hI => ?_)
  refine items_invO news (fun q hq x hx => by rw [List.mem_singleton.mp hx]; exact Nat.ne_of_lt (hI q hq)) (fun p hp o ho => ?_)
    (fun ys m₁ led => ∃ (rest : List (List MK × Addr × Value)) (z : Int) (t : Tok), ys = rest.map (fun x => Itm.val x.2.2) ∧ (∀ x ∈ rest, ∃ t, x.2.2 = .int 1 t) ∧ m₁ "nc" = some (.int z t) ∧ z + (rest.length : Int) = (ks.length : Int) ∧ ∀ q ∈ news, q ∈ led)
    ?_ ?_ ?_ ?_ _ _ _ ?_ ?_
  · rw [List.mem_singleton.mp hp] at ho; exact not_nonIt ho (by simp)
  · rintro ys m₁ led led' ⟨rest, z, t, h1, h2, h3, h4, h5⟩ hs
    exact ⟨rest, z, t, h1, h2, h3, h4, fun q hq => hs q (h5 q hq) (.inr hq)⟩
  · intro p hp; rw [List.mem_singleton.mp hp]; exact nonIt_dict hc.1
  · rintro a r m₁ led v h tk its ⟨rest, z, t, hys, hones, mz, hz, hN⟩ hkeep hits hv F3 N3
    obtain ⟨x, rest', rfl, rfl, rfl⟩ : ∃ x rest', rest = x :: rest' ∧ a = Itm.val x.2.2 ∧ r = rest'.map (fun x => Itm.val x.2.2) := by
      cases rest with
      | nil => cases hys
      | cons x rest' => rw [List.map_cons, List.cons.injEq] at hys; exact ⟨x, rest', rfl, hys.1, hys.2⟩
    obtain ⟨t1, ht1⟩ := hones x List.mem_cons_self
    have hv' : v = .int 1 t1 := by rw [← ht1]; exact hv
    subst hv'
    k_steps
    rename Fr _ _ _ _ => F4
    refine wpAny_loadName_local rfl rfl F4.ns mz ?_
    k_steps
    refine (show TEnd _ _ _ _ _ _ from ⟨_, _, _, _, rfl, by assumption, by assumption, fun p hp => ?_, rest', z + 1, _, rfl, fun x hx => hones x (List.mem_cons_of_mem _ hx), rfl, ?_, hN⟩)
    · rcases List.mem_append.mp hp with hp | hp
      · exact hkeep p hp
      · exact (hits p hp).1
    · simp only [List.length_cons] at hz; omega
  · rintro m₁ led h tk ⟨rest, z, t, hys, hones, mz, hz, hN⟩ F3 N3
    obtain rfl : rest = [] := by cases rest with | nil => rfl | cons a b => cases hys
    dsimp only
    k_steps
    have hz' : z = (ks.length : Int) := by simpa using hz
    rw [hz']
    exact hret _ _ _ _ (by assumption) (by assumption) hN
  · exact ⟨xs, 0, _, rfl, fun x hxm => (hx x hxm).2, rfl, by rw [← hks, List.length_map]; simp, fun q hq => hq⟩
  · intro p hp; rw [List.mem_singleton.mp hp]; exact hm
end Mine
end PartC5
section PartC6
open PySem PySem.W PyProof.Rows PySem.Calls PySem.Spec PyProof.Rows.LCg
set_option maxRecDepth 100000
set_option maxHeartbeats 8000000
namespace Mine
theorem fill5 : PySem.Challenge.rw_hu0002_01 = PySem.Challenge.rw_hu0002_01 ∧ hd.heap_39 = hd.heap_39 := by k_fill; exact ⟨rfl, rfl⟩
local macro_rules | `(tactic| k_enter) => `(tactic| (refine' code_def ?k1 ?k2 ?k3 ?k4 ?k5 ?kA ?kF ?kK ?k6 ?k7 ?k8 ?k9 ?kB ?_ ?c2 ?c3 ?c4 ?c5; (case kA => exact rfl); (case kF => exact rfl); (case kK => first | exact rfl | assumption); (case k1 => k_asm); (case k2 => k_asm); (case k3 => k_asm); (case k4 => k_asm); (case k5 => k_asm); (case k6 => k_is); (case k7 => k_is); (case k8 => ktr_room); (case k9 => (first | exact BindsTo.of_eq rfl | (refine' kp_binds ?kx ?ke; (case kx => k_in); (case ke => exact fun _ => rfl)))); (case c5 => decide); (case kB => exact locs rfl); (case c2 => exact rfl); (case c3 => exact rfl); (case c4 => exact rfl); k_whole; intro g' L' h' FG' F' N' B' X' T'; (try dsimp only); (refine wpAny_noRaise ?_); (try k_fold)))
local macro_rules | `(tactic| walk_at "eval Name") => `(tactic| (k_here; k_dflt (refine' nameX_L ?F ?v ?_ ?a ?b; (case F => k_asm); (case a => rfl); (case b => rfl); (case v => first | exact rfl | assumption); k_whole)))
local macro_rules | `(tactic| walk_at "exec While Compare cons nil") => `(tactic| refine stop_ ?_)
local macro_rules | `(tactic| walk_at "call ref") => `(tactic| refine stop_ ?_)
local macro_rules | `(tactic| walk_at "exec For Tuple Call") => `(tactic| refine stop_ ?_)
local macro_rules | `(tactic| walk_at "exec For Tuple Subscript") => `(tactic| refine stop_ ?_)
local macro_rules | `(tactic| walk_at "exec For Tuple Name") => `(tactic| refine stop_ ?_)
local macro_rules | `(tactic| walk_at "subscriptTail Call Name cons nil Slice ref ref") => `(tactic| (refine kba_turn (value' := PySem.Expr.Name (PySem.Str.ofString "_") ⟨0, 0, 0, 0⟩) (fun _ => rfl) ?_; refine stop_ ?_))
local macro_rules | `(tactic| walk_at "subscriptTail Name Slice ref ref") => `(tactic| refine stop_ ?_)
local macro_rules | `(tactic| walk_at "call builtin:sorted") => `(tactic| refine stop_ ?_)
local macro_rules | `(tactic| walk_at "eval ListComp") => `(tactic| refine stop_ ?_)
local macro_rules | `(tactic| walk_at "exec For Name Call") => `(tactic| refine stop_ ?_)
local macro_rules | `(tactic| walk_at "exec For Name Call cons nil") => `(tactic| refine stop_ ?_)
local macro_rules | `(tactic| walk_at "exec For Tuple Call cons nil") => `(tactic| refine stop_ ?_)
local macro_rules | `(tactic| walk_at "getMethod ref") => `(tactic| refine stop_ ?_)
local macro_rules | `(tactic| walk_at "call builtin:dict.values") => `(tactic| refine stop_ ?_)
local macro_rules | `(tactic| walk_at "call builtin:dict.items") => `(tactic| refine stop_ ?_)
local macro_rules | `(tactic| walk_at "compareOp In ref ref") => `(tactic| refine stop_ ?_)
local macro_rules | `(tactic| walk_at "setItem ref ref") => `(tactic| refine stop_ ?_)
local macro_rules | `(tactic| walk_at "call builtin:len") => `(tactic| refine stop_ ?_)
local macro_rules | `(tactic| walk_at "call builtin:list.append") => `(tactic| refine stop_ ?_)
local macro_rules | `(tactic| walk_at "compareOp Eq ref ref") => `(tactic| refine stop_ ?_)
local macro_rules | `(tactic| walk_at "TPost") => `(tactic| dsimp only [TPost])
local macro_rules | `(tactic| k_steps) => `(tactic| repeat' (first | (k_unfold; (try dsimp only)) | walk1 | (dsimp only; walk1) | fail "no step"))


theorem nodup_mid {α : Type} {a b : List α} {x : α} (h : (a ++ x :: b).Nodup) : x ∉ a := fun hx => (List.nodup_append.mp h).2.2 x hx x List.mem_cons_self rfl
theorem Tal.obj {prog : Program} {w : World} {led : List (Addr × Obj)} {d : Addr} {ks : List (List MK)} (x : Tal prog w led d ks) : ∃ od, (d, od) ∈ led ∧ od.cls = .type "dict" :=
  let ⟨_, od, _, _, _, hm, hc, _⟩ := x; ⟨od, hm, hc.1⟩
theorem add_ct {w : World} {mean : ExcName → Option Value} {mg mb : Str → Option Value}
   (dp un : Nat) (gd : Option (List Code)) (cn : Str) (cs : Scope) (a : Addr) (ccd : Value) (cl : List (Str × Addr)) (outer : List Env) (A₀ : Around) (base h₀ : Heap) (L : Addr) (m : Str → Option Value) (s : Shared) (Q E : Value → Shared → Prop)
   (news : List (Addr × Obj))
   (B : Below A₀ base outer h₀) (F : Fr h₀ L s.heap m) (X : (hd.heap_39 w.params).In h₀) (N : News h₀ L s.heap news) (T : Top hd.view_39 LO mean mg mb h₀) (hk : cs.kind = .function)
   (dT dS : Addr) (ks1 ks2 : List (List MK)) (hT1 : Tal PR w news dT ks1) (hT2 : Tal PR w news dS ks2) (hnd : (ks1 ++ ks2).Nodup) (hlen : (ks1 ++ ks2).length ≤ 1000)
   (hdp : dp + 20 < recursionLimit) (hun : un + 80 < cLine)
   (hret : ∀ D h' tk' news', Fr h₀ L h' m → News h₀ L h' news' → (∀ q ∈ news, q ∈ news') → Tal PR w news' D (ks1 ++ ks2) → Q (.ref D) {s with heap := h', toks := tk'}) :
   wpAny (model PR w) (ktrTop dp un gd cn cs L a ccd cl outer) (call (.ref 39) [.ref dT, .ref dS]) Q E s := by
  refine wpAny_call ?_
  k_dflt k_enter
  rename_i gg LL hx0 FG F1 N1 B1 X1 T1
  replace F1 := fr_re (m' := mp [("source", .ref dS), ("target", .ref dT)]) F1 rfl
  k_steps
  rename_i D hx1 o0 l0' lo0 hs0 fs0 hi0 fi0 h1 F2 N2
  have hTD : Tal PR w ((D, o0) :: news) D [] := tal_empty List.mem_cons_self lo0 hs0
  refine Stop.go ?_
  refine For_turns F2 ?_
  k_steps
  refine Stop.go ?_
  refine tal_getMethod PySem.F.slot_dict_items PySem.F.type_dict_items (hT1.nonIt fun q hq _ => List.Mem.tail _ hq) N2 ?_
  k_steps
  refine Stop.go ?_
  obtain ⟨loT, odT, esT, epT, xsT, hmT, hcT, hdT, heT, hkT, hnT, hxT⟩ := id hT1
  obtain ⟨loS, odS, esS, epS, xsS, hmS, hcS, hdS, heS, hkS, hnS, hxS⟩ := id hT2
  refine raw_items_call ⟨_, N2.get (List.Mem.tail _ hmT), hcT.1⟩ loT ?_
  refine raw_items (xs := xsT.map fun x => Itm.pair (fun _ => .ref x.2.1) x.2.2) rfl (F2.push _) (News.push N2 _) ⟨_, Heap.get?_push_size _ rfl, rfl, rfl⟩ (List.Mem.tail _ hmT) hdT (by rw [heT, List.map_map]; rfl) (fun I hI => ?_)
  refine items_invO news (fun q hq x hx => by rw [List.mem_singleton.mp hx]; exact Nat.ne_of_lt (hI q (List.Mem.tail _ hq))) (fun p hp o ho => ?_)
    (fun ys m₁ led => ∃ (done rest : List (List MK × Addr × Value)), xsT = done ++ rest ∧ ys = rest.map (fun x => Itm.pair (fun _ => .ref x.2.1) x.2.2) ∧ m₁ "new_callers" = some (.ref D) ∧ m₁ "source" = some (.ref dS) ∧ Tal PR w led D (done.map (·.1)) ∧ ∀ q ∈ news, q ∈ led)
    ?_ ?_ ?_ ?_ _ _ _ ?_ ?_
  · rw [List.mem_singleton.mp hp] at ho; exact not_nonIt ho (by simp)
  · rintro ys m₁ led led' ⟨done, rest, h1, h2, h3, h4, h5, h6⟩ hs
    exact ⟨done, rest, h1, h2, h3, h4, h5.nonIt fun q hq hn => hs q hq (.inl hn), fun q hq => hs q (h6 q hq) (.inr hq)⟩
  · intro p hp; rw [List.mem_singleton.mp hp]; exact nonIt_dict hcT.1
  · rintro a r m₁ led v h tk its ⟨done, rest, hxs, hys, mn, ms, hD, hN⟩ hkeep hits hv F3 N3
    obtain ⟨x, rest', rfl, rfl, rfl⟩ : ∃ x rest', rest = x :: rest' ∧ a = Itm.pair (fun _ => .ref x.2.1) x.2.2 ∧ r = rest'.map (fun x => Itm.pair (fun _ => .ref x.2.1) x.2.2) := by
      cases rest with
      | nil => cases hys
      | cons x rest' => rw [List.map_cons, List.cons.injEq] at hys; exact ⟨x, rest', rfl, hys.1, hys.2⟩
    obtain ⟨Tv, tv, rfl, hTup⟩ := hv
    obtain ⟨⟨ok, hok1, hok2⟩, t1, ht1⟩ := hxT x (by rw [hxs]; exact List.mem_append_right _ List.mem_cons_self)
    rw [ht1] at hTup
    have hkx : x.1 ∉ done.map (·.1) := by
      have := hnT
      rw [← hkT, hxs, List.map_append, List.map_cons] at this
      exact nodup_mid this
    dsimp only at hTup
    k_steps
    refine Stop.go ?_
    rename Fr _ _ _ _ => F4
    rename News _ _ _ _ => N4
    refine tal_set (k := x.1) (by ktr_units) F4 N4 hD (hN _ hok1) hok2 hkx (by
      have e : (ks1 ++ ks2).length = ks1.length + ks2.length := List.length_append
      have e2 : ks1.length = done.length + (rest'.length + 1) := by rw [← hkT, hxs]; simp
      rw [List.length_map]; omega) (fun h5 o5 tk5 hc5 F5 N5 hD5 => ?_)
    obtain ⟨oD, hoD, hcD⟩ := hD.obj
    k_steps
    refine (show TEnd _ _ _ _ _ _ from ⟨_, _, _, _, rfl, F5, N5, fun p hp => ?_, done ++ [x], rest', by rw [hxs]; simp, rfl, mn, ms, by rw [List.map_append]; exact hD5, fun q hq => mem_upd (hN q hq) (Nat.ne_of_lt (l0' q hq))⟩)
    rcases List.mem_append.mp hp with hp | hp
    · refine mem_upd (hkeep p hp) ?_
      rw [List.mem_singleton.mp hp]; exact Nat.ne_of_lt (l0' _ hmT)
    · exact mem_upd (hits p hp).1 (News.off (fun o => ¬ nonIt o) N4 hoD (hits p hp).1 (hits p hp).2 (fun h => h (nonIt_dict hcD)))
  · rintro m₁ led h tk ⟨done, rest, hxs, hys, mn, ms, hD, hN⟩ F3 N3
    obtain rfl : rest = [] := by cases rest with | nil => rfl | cons a b => cases hys
    rw [List.append_nil] at hxs
    subst hxs
    rw [hkT] at hD
    clear F2 N2 hI
    dsimp only
    k_steps
    refine Stop.go ?_
    refine For_turns F3 ?_
    k_steps
    refine Stop.go ?_
    refine tal_getMethod PySem.F.slot_dict_items PySem.F.type_dict_items (hT2.nonIt fun q hq _ => hN q hq) N3 ?_
    k_steps
    refine Stop.go ?_
    have hmS' := hN _ hmS
    refine raw_items_call ⟨_, N3.get hmS', hcS.1⟩ loS ?_
    refine raw_items (xs := xsS.map fun x => Itm.pair (fun _ => .ref x.2.1) x.2.2) rfl (F3.push _) (News.push N3 _) ⟨_, Heap.get?_push_size _ rfl, rfl, rfl⟩ hmS' hdS (by rw [heS, List.map_map]; rfl) (fun I hI => ?_)
    refine items_invO news (fun q hq x hx => by rw [List.mem_singleton.mp hx]; exact Nat.ne_of_lt (hI q (hN q hq))) (fun p hp o ho => ?_)
      (fun ys m₁ led => ∃ (done rest : List (List MK × Addr × Value)), xsS = done ++ rest ∧ ys = rest.map (fun x => Itm.pair (fun _ => .ref x.2.1) x.2.2) ∧ m₁ "new_callers" = some (.ref D) ∧ Tal PR w led D (ks1 ++ done.map (·.1)) ∧ ∀ q ∈ news, q ∈ led)
      ?_ ?_ ?_ ?_ _ _ _ ?_ ?_
    · rw [List.mem_singleton.mp hp] at ho; exact not_nonIt ho (by simp)
    · rintro ys m₁ led led' ⟨done, rest, h1, h2, h3, h5, h6⟩ hs
      exact ⟨done, rest, h1, h2, h3, h5.nonIt fun q hq hn => hs q hq (.inl hn), fun q hq => hs q (h6 q hq) (.inr hq)⟩
    · intro p hp; rw [List.mem_singleton.mp hp]; exact nonIt_dict hcS.1
    · rintro a r m₂ led₂ v h₂ tk₂ its ⟨done, rest, hxs, hys, mn2, hD2, hN2⟩ hkeep hits hv F4 N4
      clear F3 N3
      obtain ⟨x, rest', rfl, rfl, rfl⟩ : ∃ x rest', rest = x :: rest' ∧ a = Itm.pair (fun _ => .ref x.2.1) x.2.2 ∧ r = rest'.map (fun x => Itm.pair (fun _ => .ref x.2.1) x.2.2) := by
        cases rest with
        | nil => cases hys
        | cons x rest' => rw [List.map_cons, List.cons.injEq] at hys; exact ⟨x, rest', rfl, hys.1, hys.2⟩
      obtain ⟨Tv, tv, rfl, hTup⟩ := hv
      obtain ⟨⟨ok, hok1, hok2⟩, t1, ht1⟩ := hxS x (by rw [hxs]; exact List.mem_append_right _ List.mem_cons_self)
      rw [ht1] at hTup
      have hkx : x.1 ∉ ks1 ++ done.map (·.1) := by
        have := hnd
        rw [← hkS, hxs, List.map_append, List.map_cons, ← List.append_assoc] at this
        exact nodup_mid this
      dsimp only at hTup
      k_steps
      refine Stop.go ?_
      rename Fr _ _ _ _ => F5
      rename News _ _ _ _ => N5
      have hok := hN2 _ hok1
      refine tal_in (k := x.1) (by ktr_units) N5 hD2 hok hok2 hkx (fun tk6 => ?_)
      k_steps
      refine Stop.go ?_
      refine tal_set (k := x.1) (by ktr_units) F5 N5 hD2 hok hok2 hkx (by
        have e : (ks1 ++ ks2).length = ks1.length + ks2.length := List.length_append
        have e2 : ks2.length = done.length + (rest'.length + 1) := by rw [← hkS, hxs]; simp
        rw [List.length_append, List.length_map]; omega) (fun h7 o7 tk7 hc7 F7 N7 hD7 => ?_)
      obtain ⟨oD, hoD, hcD⟩ := hD2.obj
      k_steps
      refine (show TEnd _ _ _ _ _ _ from ⟨_, _, _, _, rfl, F7, N7, fun p hp => ?_, done ++ [x], rest', by rw [hxs]; simp, rfl, mn2, by rw [List.map_append, ← List.append_assoc]; exact hD7, fun q hq => mem_upd (hN2 q hq) (Nat.ne_of_lt (l0' q hq))⟩)
      rcases List.mem_append.mp hp with hp | hp
      · refine mem_upd (hkeep p hp) ?_
        rw [List.mem_singleton.mp hp]; exact Nat.ne_of_lt (l0' _ hmS)
      · exact mem_upd (hits p hp).1 (News.off (fun o => ¬ nonIt o) N5 hoD (hits p hp).1 (hits p hp).2 (fun h => h (nonIt_dict hcD)))
    · rintro m₂ led₂ h₂ tk₂ ⟨done, rest, hxs, hys, mn2, hD2, hN2⟩ F4 N4
      obtain rfl : rest = [] := by cases rest with | nil => rfl | cons a b => cases hys
      rw [List.append_nil] at hxs
      subst hxs
      rw [hkS] at hD2
      clear F3 N3
      dsimp only
      k_steps
      exact hret _ _ _ _ (by assumption) (by assumption) hN2 hD2
    · exact ⟨[], xsS, rfl, rfl, mn, by simpa using hD, hN⟩
    · intro p hp; rw [List.mem_singleton.mp hp]; exact hmS'
  · exact ⟨[], xsT, rfl, rfl, rfl, rfl, hTD, fun q hq => List.Mem.tail _ hq⟩
  · intro p hp; rw [List.mem_singleton.mp hp]; exact List.Mem.tail _ hmT
end Mine
end PartC6
section PartP1
set_option maxRecDepth 100000
namespace Mine
def Small (l : List Int) : Prop := l.length ≤ 4 ∧ ∀ x ∈ l, 0 ≤ x ∧ x ≤ 4
def mins (cs : List Int) (q : Nat) : Int := (cs.map fun c => if (q : Int) < c then (q : Int) else c).sum
def Dom (rs cs : List Int) : Prop := ∀ R : List Int, R.Sublist rs → R.sum ≤ mins cs R.length
theorem perm_sum {l l' : List Int} (h : l.Perm l') : l.sum = l'.sum := by
  induction h with
  | nil => rfl
  | cons x _ ih => rw [List.sum_cons, List.sum_cons, ih]
  | swap x y l => simp only [List.sum_cons]; omega
  | trans _ _ ih1 ih2 => rw [ih1, ih2]
theorem mins_perm {l l' : List Int} (h : l.Perm l') (q : Nat) : mins l q = mins l' q := perm_sum (h.map _)
theorem Dom.perm {rs rs' cs cs' : List Int} (h : Dom rs cs) (p : rs.Perm rs') (q : cs.Perm cs') : Dom rs' cs' := fun R hR => by
  obtain ⟨R', hp, hs⟩ := List.exists_perm_sublist hR p.symm
  rw [← mins_perm q, ← perm_sum hp, ← hp.length_eq]
  exact h R' hs
theorem mins_nil (q : Nat) : mins [] q = 0 := rfl
theorem mins_cons (c : Int) (cs : List Int) (q : Nat) : mins (c :: cs) q = (if (q : Int) < c then (q : Int) else c) + mins cs q := by simp [mins]
theorem mins_append (a b : List Int) (q : Nat) : mins (a ++ b) q = mins a q + mins b q := by
  induction a with
  | nil => simp [mins_nil]
  | cons x r ih => rw [List.cons_append, mins_cons, mins_cons, ih]; omega
theorem take_cons_ge : ∀ (d : List Int) (x : Int) (n : Nat), (x :: d).Pairwise (fun a b => b ≤ a) → n ≤ d.length → (d.take n).sum ≤ ((x :: d).take n).sum
  | d, x, 0, _, _ => by simp
  | [], x, n + 1, _, h => absurd h (by simp)
  | y :: r, x, n + 1, hp, h => by
    have h1 : y ≤ x := (List.pairwise_cons.mp hp).1 y List.mem_cons_self
    have := take_cons_ge r y n (List.pairwise_cons.mp hp).2 (by simpa using h)
    simp only [List.take_succ_cons, List.sum_cons] at this ⊢
    omega
theorem sub_top : ∀ (d R : List Int), d.Pairwise (fun a b => b ≤ a) → R.Sublist d → R.sum ≤ (d.take R.length).sum
  | [], R, _, h => by rw [List.sublist_nil.mp h]; simp
  | x :: d, R, hp, h => by
    have hp' := (List.pairwise_cons.mp hp).2
    rcases List.sublist_cons_iff.mp h with h | ⟨R', rfl, h'⟩
    · exact Int.le_trans (sub_top d R hp' h) (take_cons_ge d x R.length hp h.length_le)
    · have := sub_top d R' hp' h'
      simp only [List.length_cons, List.take_succ_cons, List.sum_cons]
      omega
theorem canbe_iff (rs cs : List Int) : canbe rs cs = true ↔ rs.sum = cs.sum ∧ Dom rs cs := by
  have hd : ((isort rs).reverse).Perm rs := (List.reverse_perm _).trans (isort_perm rs)
  have hs : ((isort rs).reverse).Pairwise (fun a b => b ≤ a) := List.pairwise_reverse.mpr (isort_sorted rs)
  have key : canbe rs cs = true ↔ rs.sum = cs.sum ∧ ∀ k, k ≤ rs.length → ((isort rs).reverse.take k).sum ≤ mins cs k := by
    unfold canbe
    rw [Bool.and_eq_true, decide_eq_true_iff, List.isEmpty_iff, List.filter_eq_nil_iff]
    refine and_congr Iff.rfl ⟨fun h k hk => ?_, fun h k hk => ?_⟩
    · have := h k (List.mem_range.mpr (Nat.lt_succ_of_le hk))
      unfold tops at this
      rw [decide_eq_true_iff] at this
      exact Int.not_lt.mp this
    · unfold tops
      rw [decide_eq_true_iff]
      exact Int.not_lt.mpr (h k (Nat.le_of_lt_succ (List.mem_range.mp hk)))
  rw [key]
  refine and_congr Iff.rfl ⟨fun h R hR => ?_, fun h k hk => ?_⟩
  · obtain ⟨R', hp, hsub⟩ := List.exists_perm_sublist hR hd.symm
    rw [← perm_sum hp, ← hp.length_eq]
    exact Int.le_trans (sub_top _ R' hs hsub) (h R'.length (by rw [hp.length_eq]; exact hR.length_le))
  · obtain ⟨R', hp, hsub⟩ := List.exists_perm_sublist (List.take_sublist k (isort rs).reverse) hd
    have hl : R'.length = k := by rw [hp.length_eq, List.length_take, hd.length_eq]; omega
    rw [← perm_sum hp]
    have := h R' hsub
    rw [hl] at this
    exact this
/-- the symmetric form -/
def Sym (rs cs : List Int) : Prop := ∀ R C : List Int, R.Sublist rs → C.Sublist cs → R.sum + C.sum ≤ cs.sum + (R.length : Int) * (C.length : Int)
theorem mins_sub (q : Nat) : ∀ (cs C : List Int), C.Sublist cs → mins cs q + C.sum ≤ cs.sum + (q : Int) * (C.length : Int)
  | [], C, h => by rw [List.sublist_nil.mp h]; simp [mins_nil]
  | c :: cs, C, h => by
    rcases List.sublist_cons_iff.mp h with h | ⟨C', rfl, h'⟩
    · have := mins_sub q cs C h
      rw [mins_cons, List.sum_cons]
      split <;> omega
    · have := mins_sub q cs C' h'
      rw [mins_cons, List.sum_cons, List.sum_cons, List.length_cons, Int.natCast_add, Int.mul_add]
      split <;> omega
theorem mins_get (q : Nat) : ∀ cs : List Int, mins cs q + (cs.filter fun c => decide ((q : Int) < c)).sum = cs.sum + (q : Int) * ((cs.filter fun c => decide ((q : Int) < c)).length : Int)
  | [] => by simp [mins_nil]
  | c :: cs => by
    have := mins_get q cs
    rw [mins_cons, List.filter_cons]
    by_cases h : (q : Int) < c
    · rw [if_pos h, if_pos (decide_eq_true h), List.sum_cons, List.sum_cons, List.length_cons, Int.natCast_add, Int.mul_add]
      omega
    · rw [if_neg h, if_neg (by simpa using h), List.sum_cons]
      omega
theorem dom_iff_sym (rs cs : List Int) : Dom rs cs ↔ Sym rs cs := by
  refine ⟨fun h R C hR hC => ?_, fun h R hR => ?_⟩
  · have h1 := h R hR
    have h2 := mins_sub R.length cs C hC
    omega
  · have h1 := h R _ hR (List.filter_sublist (p := fun c => decide (((R.length : Nat) : Int) < c)))
    have h2 := mins_get R.length cs
    omega
theorem Sym.symm {rs cs : List Int} (h : Sym rs cs) (e : rs.sum = cs.sum) : Sym cs rs := fun R C hR hC => by
  have := h C R hC hR
  rw [e, Int.mul_comm (R.length : Int)]
  omega
theorem canbe_comm (rs cs : List Int) : canbe cs rs = canbe rs cs := by
  rw [Bool.eq_iff_iff, canbe_iff, canbe_iff, dom_iff_sym, dom_iff_sym]
  exact ⟨fun h => ⟨h.1.symm, h.2.symm h.1⟩, fun h => ⟨h.1.symm, h.2.symm h.1⟩⟩
theorem sub_rest : ∀ (l R : List Int), R.Sublist l → ∃ R' : List Int, R'.Sublist l ∧ R.sum + R'.sum = l.sum ∧ R.length + R'.length = l.length
  | [], R, h => by rw [List.sublist_nil.mp h]; exact ⟨[], .slnil, rfl, rfl⟩
  | x :: l, R, h => by
    rcases List.sublist_cons_iff.mp h with h | ⟨R₁, rfl, h'⟩
    · obtain ⟨R', h1, h2, h3⟩ := sub_rest l R h
      exact ⟨x :: R', h1.cons_cons x, by simp only [List.sum_cons]; omega, by simp only [List.length_cons]; omega⟩
    · obtain ⟨R', h1, h2, h3⟩ := sub_rest l R₁ h'
      exact ⟨R', h1.cons x, by simp only [List.sum_cons]; omega, by simp only [List.length_cons]; omega⟩
theorem sum_from (n : Int) : ∀ l : List Int, (l.map fun x => n - x).sum = n * (l.length : Int) - l.sum
  | [] => by simp
  | x :: l => by
    have := sum_from n l
    simp only [List.map_cons, List.sum_cons, List.length_cons, Int.natCast_add, Int.mul_add, this]
    omega
theorem Sym.compl {rs cs : List Int} (h : Sym rs cs) (e : rs.sum = cs.sum) : Sym (rs.map fun x => (cs.length : Int) - x) (cs.map fun x => (rs.length : Int) - x) := fun R C hR hC => by
  obtain ⟨R₁, h1, rfl⟩ := List.sublist_map_iff.mp hR
  obtain ⟨C₁, h2, rfl⟩ := List.sublist_map_iff.mp hC
  obtain ⟨R', h3, h4, h5⟩ := sub_rest _ _ h1
  obtain ⟨C', h6, h7, h8⟩ := sub_rest _ _ h2
  have := h R' C' h3 h6
  rw [sum_from, sum_from, sum_from, List.length_map, List.length_map]
  have h5' : (R'.length : Int) = (rs.length : Int) - (R₁.length : Int) := by omega
  have h8' : (C'.length : Int) = (cs.length : Int) - (C₁.length : Int) := by omega
  rw [h5', h8'] at this
  rw [Int.mul_sub, Int.sub_mul, Int.sub_mul] at this
  have c1 := Int.mul_comm (rs.length : Int) (cs.length : Int)
  have c2 := Int.mul_comm (cs.length : Int) (R₁.length : Int)
  omega
theorem compl_back (n : Int) (l : List Int) : ((l.map fun x => n - x).map fun x => n - x) = l := by
  rw [List.map_map]
  conv => rhs; rw [← List.map_id l]
  exact List.map_congr_left fun x _ => by simp only [Function.comp_apply, id]; omega
theorem canbe_compl1 {rs cs : List Int} (h : canbe rs cs = true) : canbe (rs.map fun x => (cs.length : Int) - x) (cs.map fun x => (rs.length : Int) - x) = true := by
  rw [canbe_iff, dom_iff_sym] at h ⊢
  refine ⟨?_, h.2.compl h.1⟩
  rw [sum_from, sum_from, Int.mul_comm, h.1]
theorem canbe_compl (rs cs : List Int) : canbe (rs.map fun x => (cs.length : Int) - x) (cs.map fun x => (rs.length : Int) - x) = canbe rs cs := by
  rw [Bool.eq_iff_iff]
  refine ⟨fun h => ?_, canbe_compl1⟩
  have := canbe_compl1 h
  rw [List.length_map, List.length_map, compl_back, compl_back] at this
  exact this
end Mine
end PartP1
section PartP2
set_option maxRecDepth 100000
namespace Mine
open PySem PySem.W PyProof.Rows PySem.Calls PySem.Spec
/-- sorted by plt -/
def Srt (o : List (Int × Int)) : Prop := o.Pairwise fun a b => plt b a = false
theorem plt_false {a b : Int × Int} (h : plt b a = false) : a.1 ≤ b.1 := by
  unfold plt at h
  by_cases e : b.1 = a.1
  · omega
  · rw [if_neg e] at h; simpa using h
theorem plt_true_iff {a b : Int × Int} : plt a b = true ↔ a.1 < b.1 ∨ (a.1 = b.1 ∧ a.2 < b.2) := by
  unfold plt
  by_cases e : a.1 = b.1
  · rw [if_pos e, decide_eq_true_iff]; omega
  · rw [if_neg e, decide_eq_true_iff]; omega
theorem plt_false_iff {a b : Int × Int} : plt a b = false ↔ b.1 < a.1 ∨ (a.1 = b.1 ∧ b.2 ≤ a.2) := by
  rw [← Bool.not_eq_true, plt_true_iff]; omega
theorem getD_at {o : List (Int × Int)} {i : Nat} (h : i < o.length) : o.getD i (0, 0) = o[i] := by rw [List.getD_eq_getElem?_getD, List.getElem?_eq_getElem h]; rfl
/-- the search is right -/
theorem bisF_right (lt : Nat → Bool) (n : Nat) (mono : ∀ i j, i ≤ j → j < n → lt j = true → lt i = true) :
    ∀ f lo hi, lo ≤ hi → hi ≤ n → hi - lo ≤ f → (∀ i, i < lo → lt i = true) → (∀ i, hi ≤ i → i < n → lt i = false) →
      (∀ i, i < bisF lt f lo hi → lt i = true) ∧ (∀ i, bisF lt f lo hi ≤ i → i < n → lt i = false)
  | 0, lo, hi, h1, h2, h3, h4, h5 => by
    have e : lo = hi := by omega
    subst e
    exact ⟨h4, h5⟩
  | f + 1, lo, hi, h1, h2, h3, h4, h5 => by
    unfold bisF
    by_cases hl : lo < hi
    · rw [if_pos hl]
      by_cases ht : lt ((lo + hi) / 2) = true
      · rw [if_pos ht]
        exact bisF_right lt n mono f _ _ (by omega) h2 (by omega) (fun i hi' => mono i _ (by omega) (by omega) ht) h5
      · rw [if_neg ht]
        refine bisF_right lt n mono f _ _ (by omega) (by omega) (by omega) h4 (fun i hi' hn => ?_)
        rw [Bool.not_eq_true] at ht
        cases hb : lt i with
        | false => rfl
        | true => rw [mono _ i hi' hn hb] at ht; cases ht
    · rw [if_neg hl]
      have e : lo = hi := by omega
      subst e
      exact ⟨h4, h5⟩
theorem ins_perm (o : List (Int × Int)) (p : Int × Int) : (ins o p).Perm (p :: o) := by
  unfold ins
  refine List.perm_middle.trans ?_
  rw [List.take_append_drop]
theorem plt_trans {a b c : Int × Int} (h1 : plt b a = false) (h2 : plt b c = true) : plt a c = true := by
  rw [plt_true_iff] at h2 ⊢
  rw [plt_false_iff] at h1
  omega
theorem ins_srt {o : List (Int × Int)} {p : Int × Int} (h : Srt o) : Srt (ins o p) := by
  have hb := bisF_right (fun i => plt (o.getD i (0, 0)) p) o.length (fun i j hij hj ht => by
    by_cases e : i = j
    · subst e; exact ht
    · have := List.pairwise_iff_getElem.mp h i j (by omega) hj (by omega)
      rw [getD_at hj] at ht
      rw [getD_at (by omega : i < o.length)]
      exact plt_trans this ht) o.length 0 o.length (Nat.zero_le _) (Nat.le_refl _) (Nat.le_refl _) (fun i hi => absurd hi (Nat.not_lt_zero _)) (fun i hi hn => absurd hi (by omega))
  obtain ⟨h1, h2⟩ := hb
  replace h1 : ∀ i, i < bis o p → plt (o.getD i (0, 0)) p = true := h1
  replace h2 : ∀ i, bis o p ≤ i → i < o.length → plt (o.getD i (0, 0)) p = false := h2
  have hle := bis_le o p
  unfold Srt ins
  rw [List.pairwise_append, List.pairwise_cons]
  have hlow : ∀ a ∈ o.take (bis o p), plt a p = true := fun a ha => by
    obtain ⟨i, hi, rfl⟩ := List.mem_iff_getElem.mp ha
    rw [List.length_take] at hi
    have := h1 i (by omega)
    rw [getD_at (by omega : i < o.length)] at this
    rw [List.getElem_take]
    exact this
  have hhigh : ∀ a ∈ o.drop (bis o p), plt a p = false := fun a ha => by
    obtain ⟨i, hi, rfl⟩ := List.mem_iff_getElem.mp ha
    rw [List.length_drop] at hi
    have := h2 (bis o p + i) (by omega) (by omega)
    rw [getD_at (by omega : bis o p + i < o.length)] at this
    rw [List.getElem_drop]
    exact this
  refine ⟨List.Pairwise.sublist (List.take_sublist _ _) h, ⟨fun a ha => hhigh a ha, List.Pairwise.sublist (List.drop_sublist _ _) h⟩, fun a ha b hb => ?_⟩
  rcases List.mem_cons.mp hb with rfl | hb
  · have := hlow a ha
    rw [plt_true_iff] at this
    rw [plt_false_iff]
    omega
  · have h3 := hlow a ha
    have h4 := hhigh b hb
    rw [plt_true_iff] at h3
    rw [plt_false_iff] at h4 ⊢
    omega
def dec (p : Int × Int) : Int × Int := (p.1 - 1, p.2)
theorem goTaken_none (j : Int) : ∀ (t o sp : List (Int × Int)), (∃ p ∈ t, p.1 = 0) → goTaken j t o sp = none
  | [], _, _, ⟨_, h, _⟩ => nomatch h
  | p :: r, o, sp, ⟨x, hx, h⟩ => by
    unfold goTaken
    by_cases e : p.1 = 0
    · rw [if_pos e]
    · rw [if_neg e]
      refine goTaken_none j r _ _ ⟨x, ?_, h⟩
      rcases List.mem_cons.mp hx with rfl | hx
      · exact absurd h e
      · exact hx
theorem goTaken_some (j : Int) : ∀ (t o sp : List (Int × Int)), (∀ p ∈ t, p.1 ≠ 0) → Srt o →
    ∃ o', goTaken j t o sp = some (o', sp ++ t.map fun p => (j, p.2)) ∧ o'.Perm (o ++ t.map dec) ∧ Srt o'
  | [], o, sp, _, hs => ⟨o, by simp [goTaken], by simp, hs⟩
  | p :: r, o, sp, h, hs => by
    obtain ⟨o', h1, h2, h3⟩ := goTaken_some j r (ins o (dec p)) (sp ++ [(j, p.2)]) (fun x hx => h x (List.mem_cons_of_mem _ hx)) (ins_srt hs)
    refine ⟨o', ?_, ?_, h3⟩
    · unfold goTaken
      rw [if_neg (h p List.mem_cons_self)]
      refine h1.trans ?_
      simp
    · refine h2.trans (((ins_perm o (dec p)).append_right _).trans ?_)
      rw [List.map_cons, List.cons_append]
      exact List.perm_middle.symm
/-- one row more -/
theorem mins_dec (q : Nat) : ∀ t : List Int, mins (t.map fun x => x - 1) q = mins t (q + 1) - (t.length : Int)
  | [] => by simp [mins_nil]
  | x :: r => by
    have := mins_dec q r
    rw [List.map_cons, mins_cons, mins_cons, List.length_cons]
    split <;> split <;> omega
theorem mins_big (q : Nat) : ∀ t : List Int, (∀ y ∈ t, (q : Int) + 1 ≤ y) → mins t (q + 1) = mins t q + (t.length : Int)
  | [], _ => by simp [mins_nil]
  | x :: r, h => by
    have := mins_big q r fun y hy => h y (List.mem_cons_of_mem _ hy)
    have hx := h x List.mem_cons_self
    rw [mins_cons, mins_cons, List.length_cons]
    split <;> split <;> omega
theorem mins_small (q : Nat) : ∀ b : List Int, (∀ y ∈ b, y ≤ (q : Int)) → mins b (q + 1) = mins b q
  | [], _ => by simp [mins_nil]
  | x :: r, h => by
    have := mins_small q r fun y hy => h y (List.mem_cons_of_mem _ hy)
    have hx := h x List.mem_cons_self
    rw [mins_cons, mins_cons]
    split <;> split <;> omega
theorem mins_up (q : Nat) : ∀ b : List Int, mins b q ≤ mins b (q + 1)
  | [] => by simp [mins_nil]
  | x :: r => by
    have := mins_up q r
    rw [mins_cons, mins_cons]
    split <;> split <;> omega
theorem mins_dec_le (q : Nat) : ∀ t : List Int, mins (t.map fun x => x - 1) q ≤ mins t q
  | [] => by simp [mins_nil]
  | x :: r => by
    have := mins_dec_le q r
    rw [List.map_cons, mins_cons, mins_cons]
    split <;> split <;> omega
theorem dom_step {a : Int} {rs bs ts : List Int} (hle : ∀ x ∈ bs, ∀ y ∈ ts, x ≤ y) (hl : (ts.length : Int) = a) :
    Dom (a :: rs) (bs ++ ts) ↔ Dom rs (bs ++ ts.map fun x => x - 1) := by
  refine ⟨fun h R hR => ?_, fun h R hR => ?_⟩
  · rw [mins_append, mins_dec]
    have h0 := h R (hR.cons a)
    have h1 := h (a :: R) (hR.cons_cons a)
    rw [mins_append] at h0 h1
    rw [List.sum_cons, List.length_cons] at h1
    by_cases hb : ∀ y ∈ ts, (R.length : Int) + 1 ≤ y
    · have := mins_big R.length ts hb
      omega
    · obtain ⟨y, hy, hyq⟩ : ∃ y ∈ ts, y ≤ (R.length : Int) := by
        refine Classical.byContradiction fun hn => hb fun y hy => ?_
        have : ¬ y ≤ (R.length : Int) := fun hle => hn ⟨y, hy, hle⟩
        omega
      have := mins_small R.length bs fun x hx => Int.le_trans (hle x hx y hy) hyq
      omega
  · rw [mins_append]
    rcases List.sublist_cons_iff.mp hR with hR | ⟨R', rfl, hR'⟩
    · have h0 := h R hR
      rw [mins_append] at h0
      have := mins_dec_le R.length ts
      omega
    · have h0 := h R' hR'
      rw [mins_append, mins_dec] at h0
      rw [List.sum_cons, List.length_cons]
      have := mins_up R'.length bs
      omega
def fsts (o : List (Int × Int)) : List Int := o.map (·.1)
def good (r : Option (List (Int × Int) × List (Int × Int))) : Prop := ∃ q, r = some q ∧ ∀ p ∈ q.1, p.1 ≤ 0
theorem nonneg_sum0 : ∀ l : List Int, (∀ x ∈ l, 0 ≤ x) → 0 ≤ l.sum ∧ (l.sum = 0 → ∀ x ∈ l, x ≤ 0)
  | [], _ => ⟨by simp, fun _ x hx => nomatch hx⟩
  | x :: r, h => by
    obtain ⟨h1, h2⟩ := nonneg_sum0 r fun y hy => h y (List.mem_cons_of_mem _ hy)
    have h3 := h x List.mem_cons_self
    rw [List.sum_cons]
    refine ⟨by omega, fun e y hy => ?_⟩
    rcases List.mem_cons.mp hy with rfl | hy
    · omega
    · exact h2 (by omega) y hy
theorem zero_sum : ∀ l : List Int, (∀ x ∈ l, 0 ≤ x) → (∀ x ∈ l, x ≤ 0) → l.sum = 0
  | [], _, _ => rfl
  | x :: r, h, g => by
    have := zero_sum r (fun y hy => h y (List.mem_cons_of_mem _ hy)) (fun y hy => g y (List.mem_cons_of_mem _ hy))
    have h3 := h x List.mem_cons_self
    have h4 := g x List.mem_cons_self
    rw [List.sum_cons]; omega
theorem mins0 : ∀ l : List Int, (∀ x ∈ l, 0 ≤ x) → mins l 0 = 0
  | [], _ => rfl
  | x :: r, h => by
    have := mins0 r fun y hy => h y (List.mem_cons_of_mem _ hy)
    have h3 := h x List.mem_cons_self
    rw [mins_cons]; split <;> omega
theorem mins1_le : ∀ l : List Int, mins l 1 ≤ (l.length : Int)
  | [] => by simp [mins_nil]
  | x :: r => by
    have := mins1_le r
    rw [mins_cons, List.length_cons]; split <;> omega
theorem mins1_lt : ∀ l : List Int, (∃ x ∈ l, x ≤ 0) → mins l 1 < (l.length : Int)
  | [], ⟨_, h, _⟩ => nomatch h
  | x :: r, ⟨y, hy, h0⟩ => by
    rw [mins_cons, List.length_cons]
    rcases List.mem_cons.mp hy with rfl | hy
    · have := mins1_le r
      split <;> omega
    · have := mins1_lt r ⟨y, hy, h0⟩
      split <;> omega
theorem mins1_0 : ∀ l : List Int, (∀ x ∈ l, x ≤ 0) → mins l 1 ≤ 0
  | [], _ => by simp [mins_nil]
  | x :: r, h => by
    have := mins1_0 r fun y hy => h y (List.mem_cons_of_mem _ hy)
    have h3 := h x List.mem_cons_self
    rw [mins_cons]; split <;> omega
theorem sum_dec : ∀ t : List Int, (t.map fun x => x - 1).sum = t.sum - (t.length : Int)
  | [] => by simp
  | x :: r => by
    have := sum_dec r
    rw [List.map_cons, List.sum_cons, List.sum_cons, List.length_cons]; omega
theorem go_iff : ∀ (ps o sp : List (Int × Int)), Srt o → (∀ p ∈ o, 0 ≤ p.1) → (∀ p ∈ ps, 0 ≤ p.1) →
    (good (goRows ps o sp) ↔ (fsts ps).sum = (fsts o).sum ∧ Dom (fsts ps) (fsts o))
  | [], o, sp, _, ho, _ => by
    have ho' : ∀ x ∈ fsts o, 0 ≤ x := fun x hx => by obtain ⟨p, hp, rfl⟩ := List.mem_map.mp hx; exact ho p hp
    refine ⟨fun ⟨q, hq, h⟩ => ?_, fun ⟨h1, _⟩ => ⟨(o, sp), rfl, fun p hp => ?_⟩⟩
    · cases Option.some.inj (show some (o, sp) = some q from hq)
      refine ⟨(zero_sum _ ho' fun x hx => ?_).symm, fun R hR => ?_⟩
      · obtain ⟨p, hp, rfl⟩ := List.mem_map.mp hx; exact h p hp
      · rw [List.sublist_nil.mp (show R.Sublist [] from hR), show ([] : List Int).length = 0 from rfl, mins0 _ ho']; exact Int.le_refl _
    · exact (nonneg_sum0 _ ho').2 h1.symm p.1 (List.mem_map.mpr ⟨p, hp, rfl⟩)
  | p :: r, o, sp, hs, ho, hps => by
    have hp0 := hps p List.mem_cons_self
    by_cases hlt : (o.length : Int) < p.1
    · rw [goRows, if_pos hlt]
      refine ⟨fun ⟨q, hq, _⟩ => (by cases hq), fun ⟨_, h⟩ => ?_⟩
      have := h [p.1] (List.cons_sublist_cons.mpr (List.nil_sublist _))
      have h2 := mins1_le (fsts o)
      rw [show [p.1].length = 1 from rfl] at this
      simp only [List.sum_cons, List.sum_nil, fsts, List.length_map] at this h2
      omega
    · obtain ⟨cut, hcut⟩ : ∃ cut, cut = o.length - p.1.toNat := ⟨_, rfl⟩
      rw [goRows_step hlt hcut]
      have hsplit : fsts o = fsts (o.take cut) ++ fsts (o.drop cut) := by unfold fsts; rw [← List.map_append, List.take_append_drop]
      have hlen : ((fsts (o.drop cut)).length : Int) = p.1 := by unfold fsts; rw [List.length_map, List.length_drop]; omega
      have hs' : Srt (o.take cut ++ o.drop cut) := by rw [List.take_append_drop]; exact hs
      have hle : ∀ x ∈ fsts (o.take cut), ∀ y ∈ fsts (o.drop cut), x ≤ y := fun x hx y hy => by
        obtain ⟨a, ha, rfl⟩ := List.mem_map.mp hx
        obtain ⟨b, hb, rfl⟩ := List.mem_map.mp hy
        exact plt_false ((List.pairwise_append.mp hs').2.2 a ha b hb)
      by_cases hz : ∃ x ∈ o.drop cut, x.1 = 0
      · rw [goTaken_none _ _ _ _ hz]
        refine ⟨fun ⟨q, hq, _⟩ => (by cases hq), fun ⟨_, h⟩ => ?_⟩
        obtain ⟨x, hx, hx0⟩ := hz
        have hx' : x.1 ∈ fsts (o.drop cut) := List.mem_map.mpr ⟨x, hx, rfl⟩
        have h1 := h [p.1] (List.cons_sublist_cons.mpr (List.nil_sublist _))
        rw [hsplit, show [p.1].length = 1 from rfl, mins_append] at h1
        have h2 := mins1_0 (fsts (o.take cut)) fun y hy => by have := hle y hy x.1 hx'; omega
        have h3 := mins1_lt (fsts (o.drop cut)) ⟨x.1, hx', by omega⟩
        simp only [List.sum_cons, List.sum_nil] at h1
        omega
      · obtain ⟨o', h1, h2, h3⟩ := goTaken_some p.2 (o.drop cut) (o.take cut) sp (fun x hx e => hz ⟨x, hx, e⟩) (List.pairwise_append.mp hs').1
        rw [h1]
        dsimp only
        have ho2 : ∀ x ∈ o', 0 ≤ x.1 := fun x hx => by
          rcases List.mem_append.mp (h2.mem_iff.mp hx) with hx | hx
          · exact ho x (List.mem_of_mem_take hx)
          · obtain ⟨y, hy, rfl⟩ := List.mem_map.mp hx
            have := ho y (List.mem_of_mem_drop hy)
            have : y.1 ≠ 0 := fun e => hz ⟨y, hy, e⟩
            show 0 ≤ y.1 - 1
            omega
        have hf : (fsts o').Perm (fsts (o.take cut) ++ (fsts (o.drop cut)).map fun x => x - 1) := by
          refine (h2.map (·.1)).trans (List.Perm.of_eq ?_)
          rw [List.map_append]
          congr 1
          unfold fsts
          rw [List.map_map, List.map_map]
          rfl
        rw [go_iff r o' _ h3 ho2 fun q hq => hps q (List.mem_cons_of_mem _ hq)]
        refine and_congr ?_ ?_
        · rw [perm_sum hf, hsplit, List.sum_append_int, List.sum_append_int, sum_dec, hlen]
          show _ ↔ (p.1 :: fsts r).sum = _
          rw [List.sum_cons]
          omega
        · rw [hsplit]
          show _ ↔ Dom (p.1 :: fsts r) _
          rw [dom_step hle hlen]
          exact ⟨fun h => h.perm (.refl _) hf, fun h => h.perm (.refl _) hf.symm⟩
end Mine
end PartP2
section PartP3
namespace Mine
open PySem PySem.W PyProof.Rows PySem.Calls PySem.Spec
set_option maxRecDepth 100000
def snds (o : List (Int × Int)) : List Int := o.map (·.2)
theorem cnt_one : ∀ (t : List (Int × Int)) (x : Int × Int), (snds t).Nodup → x ∈ t → (t.filter fun q => decide (q.2 = x.2)).length = 1
  | [], _, _, h => nomatch h
  | y :: r, x, hn, h => by
    obtain ⟨h1, h2⟩ := List.nodup_cons.mp (show (y.2 :: snds r).Nodup from hn)
    rcases List.mem_cons.mp h with rfl | h
    · rw [List.filter_cons, if_pos (by simp)]
      have : r.filter (fun q => decide (q.2 = x.2)) = [] := List.filter_eq_nil_iff.mpr fun q hq e => h1 (List.mem_map.mpr ⟨q, hq, by simpa using e⟩)
      rw [this]; rfl
    · have hne : y.2 ≠ x.2 := fun e => h1 (List.mem_map.mpr ⟨x, h, e.symm⟩)
      rw [List.filter_cons, if_neg (by simpa using hne)]
      exact cnt_one r x h2 h
theorem cnt_nil (t : List (Int × Int)) (k : Int) (h : k ∉ snds t) : t.filter (fun q => decide (q.2 = k)) = [] :=
  List.filter_eq_nil_iff.mpr fun q hq e => h (List.mem_map.mpr ⟨q, hq, by simpa using e⟩)
theorem cntA (j k : Int) (t : List (Int × Int)) : ((t.map fun x => (j, x.2)).filter fun q => decide (q.2 = k)).length = (t.filter fun q => decide (q.2 = k)).length := by
  rw [List.filter_map, List.length_map]; rfl
theorem go_spots : ∀ (ps o sp o' sp' : List (Int × Int)), goRows ps o sp = some (o', sp') → Srt o → (∀ p ∈ o, 0 ≤ p.1) → (∀ p ∈ ps, 0 ≤ p.1) → (snds ps).Nodup → (snds o).Nodup →
    ∃ nw, sp' = sp ++ nw ∧ (nw.length : Int) = (fsts ps).sum ∧ nw.Nodup ∧ (∀ q ∈ nw, q.1 ∈ snds ps ∧ q.2 ∈ snds o) ∧ (∀ p ∈ ps, ((nw.filter fun q => decide (q.1 = p.2)).length : Int) = p.1) ∧
      (∀ p ∈ o, ∃ c, (c, p.2) ∈ o' ∧ 0 ≤ c ∧ c + ((nw.filter fun q => decide (q.2 = p.2)).length : Int) = p.1)
  | [], o, sp, o', sp', h, _, ho, _, _, _ => by
    cases Option.some.inj (show some (o, sp) = some (o', sp') from h)
    exact ⟨[], by simp, rfl, .nil, (fun q hq => nomatch hq), (fun q hq => nomatch hq), fun p hp => ⟨p.1, hp, ho p hp, by simp⟩⟩
  | p :: r, o, sp, o', sp', h, hs, ho, hps, hnp, hno => by
    have hp0 := hps p List.mem_cons_self
    obtain ⟨hnp1, hnp2⟩ := List.nodup_cons.mp (show (p.2 :: snds r).Nodup from hnp)
    by_cases hlt : (o.length : Int) < p.1
    · rw [goRows, if_pos hlt] at h; cases h
    · obtain ⟨cut, hcut⟩ : ∃ cut, cut = o.length - p.1.toNat := ⟨_, rfl⟩
      rw [goRows_step hlt hcut] at h
      have hs' : Srt (o.take cut ++ o.drop cut) := by rw [List.take_append_drop]; exact hs
      by_cases hz : ∃ x ∈ o.drop cut, x.1 = 0
      · rw [goTaken_none _ _ _ _ hz] at h; cases h
      · obtain ⟨o₁, h1, h2, h3⟩ := goTaken_some p.2 (o.drop cut) (o.take cut) sp (fun x hx e => hz ⟨x, hx, e⟩) (List.pairwise_append.mp hs').1
        rw [h1] at h
        dsimp only at h
        have hno' : (snds (o.take cut) ++ snds (o.drop cut)).Nodup := by unfold snds; rw [← List.map_append, List.take_append_drop]; exact hno
        have hsn : (snds o₁).Perm (snds o) := by
          refine (h2.map (·.2)).trans (List.Perm.of_eq ?_)
          rw [List.map_append, List.map_map]
          show List.map (·.2) (o.take cut) ++ List.map (·.2) (o.drop cut) = _
          rw [← List.map_append, List.take_append_drop]; rfl
        have ho2 : ∀ x ∈ o₁, 0 ≤ x.1 := fun x hx => by
          rcases List.mem_append.mp (h2.mem_iff.mp hx) with hx | hx
          · exact ho x (List.mem_of_mem_take hx)
          · obtain ⟨y, hy, rfl⟩ := List.mem_map.mp hx
            have := ho y (List.mem_of_mem_drop hy)
            have : y.1 ≠ 0 := fun e => hz ⟨y, hy, e⟩
            show 0 ≤ y.1 - 1
            omega
        obtain ⟨nw, e1, e2, e3, e4, e5, e6⟩ := go_spots r o₁ _ o' sp' h h3 ho2 (fun q hq => hps q (List.mem_cons_of_mem _ hq)) hnp2 (hsn.nodup_iff.mpr hno)
        refine ⟨(o.drop cut).map (fun x => (p.2, x.2)) ++ nw, ?_, ?_, ?_, ?_, ?_, ?_⟩
        · rw [e1, List.append_assoc]
        · rw [List.length_append, List.length_map, List.length_drop]
          show _ = (p.1 :: fsts r).sum
          rw [List.sum_cons, ← e2]
          omega
        · rw [List.nodup_append]
          refine ⟨?_, e3, fun a ha b hb e => ?_⟩
          · have := (List.nodup_append.mp hno').2.1
            unfold snds at this
            exact List.pairwise_map.mpr ((List.pairwise_map.mp this).imp fun hn e => hn (Prod.mk.inj e).2)
          · obtain ⟨x, _, rfl⟩ := List.mem_map.mp ha
            exact hnp1 (by rw [show p.2 = b.1 from congrArg Prod.fst e]; exact (e4 b hb).1)
        · intro q hq
          rcases List.mem_append.mp hq with hq | hq
          · obtain ⟨x, hx, rfl⟩ := List.mem_map.mp hq
            exact ⟨List.mem_cons_self, List.mem_map.mpr ⟨x, List.mem_of_mem_drop hx, rfl⟩⟩
          · exact ⟨List.mem_cons_of_mem _ (e4 q hq).1, hsn.mem_iff.mp (e4 q hq).2⟩
        · intro x hx
          rw [List.filter_append, List.length_append]
          rcases List.mem_cons.mp hx with rfl | hx
          · rw [List.filter_eq_self.mpr (fun q hq => by obtain ⟨y, _, rfl⟩ := List.mem_map.mp hq; simp), List.filter_eq_nil_iff.mpr (fun q hq e => hnp1 (by
              have : q.1 = x.2 := by simpa using e
              rw [← this]; exact (e4 q hq).1)), List.length_map, List.length_drop]
            simp only [List.length_nil]
            omega
          · have hne : p.2 ≠ x.2 := fun e => hnp1 (by rw [e]; exact List.mem_map.mpr ⟨x, hx, rfl⟩)
            rw [List.filter_eq_nil_iff.mpr (fun q hq e => by obtain ⟨y, _, rfl⟩ := List.mem_map.mp hq; exact hne (by simpa using e))]
            simpa using e5 x hx
        · intro x hx
          rw [List.filter_append, List.length_append, cntA]
          have hx' : x ∈ o.take cut ++ o.drop cut := by rw [List.take_append_drop]; exact hx
          rcases List.mem_append.mp hx' with hx' | hx'
          · obtain ⟨c, c1, c2, c3⟩ := e6 x (h2.mem_iff.mpr (List.mem_append_left _ hx'))
            refine ⟨c, c1, c2, ?_⟩
            rw [cnt_nil (o.drop cut) x.2 fun hm => (List.nodup_append.mp hno').2.2 x.2 (List.mem_map.mpr ⟨x, hx', rfl⟩) x.2 hm rfl]
            simpa using c3
          · obtain ⟨c, c1, c2, c3⟩ := e6 (dec x) (h2.mem_iff.mpr (List.mem_append_right _ (List.mem_map.mpr ⟨x, hx', rfl⟩)))
            refine ⟨c, c1, c2, ?_⟩
            rw [cnt_one (o.drop cut) x (List.nodup_append.mp hno').2.1 hx']
            have c3' : c + ((nw.filter fun q => decide (q.2 = x.2)).length : Int) = x.1 - 1 := c3
            omega
/-- what the sort's tree gives back is a permutation -/
noncomputable def kPm (n : Nat) : KasT (Array Nat) → Bool
  | .ret a => a.toList.isPerm (List.range n)
  | .ask _ _ k => kPm n (k true) && kPm n (k false)
theorem kPm_run {f : Nat → Nat → Bool} {n : Nat} : ∀ t : KasT (Array Nat), kPm n t = true → (kRun f t).toList.Perm (List.range n)
  | .ret a, h => List.isPerm_iff.mp h
  | .ask i j k, h => by
    unfold kPm at h
    obtain ⟨h1, h2⟩ := Bool.and_eq_true_iff.mp h
    show (kRun f (k (f i j))).toList.Perm _
    cases f i j
    · exact kPm_run _ h2
    · exact kPm_run _ h1
theorem sortBy_perm4 (ps : List (Int × Int)) (h : ps.length ≤ 4) : (sortBy ps).Perm ps := by
  unfold sortBy
  by_cases h2 : ps.length < 2
  · rw [if_pos h2]
  · rw [if_neg h2]
    refine ((kPm_run (n := ps.length) _ ?_).map _).trans (List.Perm.of_eq ?_)
    · rcases (by omega : ps.length = 2 ∨ ps.length = 3 ∨ ps.length = 4) with e | e | e <;> rw [e] <;> decide +kernel
    · apply List.ext_getElem
      · simp
      · intro i h1 h2
        rw [List.getElem_map, List.getElem_range, getD_at h2]
theorem fsts_perm {a b : List (Int × Int)} (h : a.Perm b) : (fsts a).Perm (fsts b) := h.map _
theorem snds_perm {a b : List (Int × Int)} (h : a.Perm b) : (snds a).Perm (snds b) := h.map _
theorem snds_enum (l : List Int) : snds (enumI l) = (List.range l.length).map fun (i : Nat) => (i : Int) := by
  apply List.ext_getElem
  · simp [snds, enumI]
  · intro i h1 h2
    simp [snds, enumI]
theorem fsts_enum (l : List Int) : fsts (enumI l) = l := by
  apply List.ext_getElem
  · simp [fsts, enumI]
  · intro i h1 h2
    simp [fsts, enumI]
theorem snds_enum_nodup (l : List Int) : (snds (enumI l)).Nodup := by
  rw [snds_enum]
  exact List.pairwise_map.mpr ((List.nodup_range (n := l.length)).imp fun hn e => hn (Int.ofNat.inj e))
theorem foldl_ins (l : List (Int × Int)) : ∀ o : List (Int × Int), Srt o → (l.foldl ins o).Perm (l ++ o) ∧ Srt (l.foldl ins o) := by
  induction l with
  | nil => intro o h; exact ⟨.refl _, h⟩
  | cons p r ih =>
    intro o h
    obtain ⟨h1, h2⟩ := ih (ins o p) (ins_srt h)
    refine ⟨?_, h2⟩
    rw [List.foldl_cons, List.cons_append]
    exact h1.trans (((ins_perm o p).append_left r).trans List.perm_middle)
theorem ord0_perm (l : List Int) : (ord0 l).Perm (enumI l) := by
  have := (foldl_ins (enumI l) [] .nil).1
  rw [List.append_nil] at this
  exact this
theorem ord0_srt (l : List Int) : Srt (ord0 l) := (foldl_ins (enumI l) [] .nil).2
theorem rows_perm {rs : List Int} (h : rs.length ≤ 4) : ((sortBy (enumI rs)).reverse).Perm (enumI rs) :=
  (List.reverse_perm _).trans (sortBy_perm4 _ (by rw [enumI_length]; exact h))
theorem good_filter (q : List (Int × Int)) : (q.filter fun p => decide (0 < p.1)) = [] ↔ ∀ p ∈ q, p.1 ≤ 0 := by
  rw [List.filter_eq_nil_iff]
  exact ⟨fun h p hp => by have := h p hp; simp at this; omega, fun h p hp e => by have := h p hp; simp at e; omega⟩
theorem laid_isSome (rs cs : List Int) : (laid rs cs).isSome = true ↔ good (goRows (sortBy (enumI rs)).reverse (ord0 cs) []) := by
  unfold laid good
  cases goRows (sortBy (enumI rs)).reverse (ord0 cs) [] with
  | none => simp
  | some q =>
    dsimp only
    by_cases h : (q.1.filter fun p => decide (0 < p.1)) = []
    · rw [if_pos h]
      exact ⟨fun _ => ⟨q, rfl, (good_filter _).mp h⟩, fun _ => rfl⟩
    · rw [if_neg h]
      exact ⟨fun e => by simp at e, fun ⟨q', e, hq⟩ => by cases Option.some.inj e; exact absurd ((good_filter _).mpr hq) h⟩
theorem rows_nonneg {rs : List Int} (hr : Small rs) : ∀ p ∈ (sortBy (enumI rs)).reverse, 0 ≤ p.1 := fun _ hp =>
  (hr.2 _ (enumI_mem ((rows_perm hr.1).mem_iff.mp hp))).1
theorem ord0_nonneg {cs : List Int} (hc : Small cs) : ∀ p ∈ ord0 cs, 0 ≤ p.1 := fun _ hp =>
  (hc.2 _ (enumI_mem ((ord0_perm cs).mem_iff.mp hp))).1
theorem plain_can {rs cs : List Int} (hr : Small rs) (hc : Small cs) : (laid rs cs).isSome = canbe rs cs := by
  have p1 : (fsts (sortBy (enumI rs)).reverse).Perm rs := (fsts_perm (rows_perm hr.1)).trans (List.Perm.of_eq (fsts_enum rs))
  have p2 : (fsts (ord0 cs)).Perm cs := (fsts_perm (ord0_perm cs)).trans (List.Perm.of_eq (fsts_enum cs))
  rw [Bool.eq_iff_iff, laid_isSome, canbe_iff, go_iff _ _ _ (ord0_srt cs) (ord0_nonneg hc) (rows_nonneg hr), perm_sum p1, perm_sum p2]
  exact and_congr Iff.rfl ⟨fun h => h.perm p1 p2, fun h => h.perm p1.symm p2.symm⟩
theorem plain_comm {rs cs : List Int} (_hr : Small rs) (_hc : Small cs) : canbe cs rs = canbe rs cs := canbe_comm rs cs
theorem plain_compl {rs cs : List Int} (_hr : Small rs) (_hc : Small cs) (_h1 : ∀ x ∈ rs, x ≤ (cs.length : Int)) (_h2 : ∀ x ∈ cs, x ≤ (rs.length : Int)) :
    canbe (rs.map fun x => (cs.length : Int) - x) (cs.map fun x => (rs.length : Int) - x) = canbe rs cs := canbe_compl rs cs
theorem sum_le4 : ∀ l : List Int, (∀ x ∈ l, x ≤ 4) → l.sum ≤ 4 * (l.length : Int)
  | [], _ => by simp
  | x :: r, h => by
    have := sum_le4 r fun y hy => h y (List.mem_cons_of_mem _ hy)
    have := h x List.mem_cons_self
    rw [List.sum_cons, List.length_cons]; omega
theorem plain_spots {rs cs : List Int} {sp : List (Int × Int)} (hr : Small rs) (hc : Small cs) (h : laid rs cs = some sp) :
    sp.length ≤ 16 ∧ sp.Nodup ∧ (∀ p ∈ sp, 0 ≤ p.1 ∧ p.1 < rs.length ∧ 0 ≤ p.2 ∧ p.2 < cs.length) ∧
    (∀ j (hj : j < rs.length), ((sp.filter fun p => decide (p.1 = (j : Int))).length : Int) = rs[j]) ∧ (∀ k (hk : k < cs.length), ((sp.filter fun p => decide (p.2 = (k : Int))).length : Int) = cs[k]) := by
  have p1 := rows_perm hr.1
  have p2 := ord0_perm cs
  unfold laid at h
  cases hg : goRows (sortBy (enumI rs)).reverse (ord0 cs) [] with
  | none => rw [hg] at h; cases h
  | some q =>
    rw [hg] at h
    dsimp only at h
    by_cases hf : (q.1.filter fun p => decide (0 < p.1)) = []
    · rw [if_pos hf] at h
      have hq := (good_filter _).mp hf
      obtain ⟨o', sp'⟩ := q
      obtain rfl : sp' = sp := Option.some.inj h
      obtain ⟨nw, e1, e2, e3, e4, e5, e6⟩ := go_spots _ _ _ o' sp' hg (ord0_srt cs) (ord0_nonneg hc) (rows_nonneg hr) ((snds_perm p1).nodup_iff.mpr (snds_enum_nodup rs)) ((snds_perm p2).nodup_iff.mpr (snds_enum_nodup cs))
      rw [List.nil_append] at e1
      subst e1
      refine ⟨?_, e3, fun p hp => ?_, fun j hj => ?_, fun k hk => ?_⟩
      · rw [perm_sum ((fsts_perm p1).trans (List.Perm.of_eq (fsts_enum rs)))] at e2
        have := sum_le4 rs fun x hx => (hr.2 x hx).2
        have := hr.1
        omega
      · obtain ⟨h1, h2⟩ := e4 p hp
        have h1' : p.1 ∈ snds (enumI rs) := (snds_perm p1).mem_iff.mp h1
        have h2' : p.2 ∈ snds (enumI cs) := (snds_perm p2).mem_iff.mp h2
        rw [snds_enum] at h1' h2'
        obtain ⟨i, hi, e⟩ := List.mem_map.mp h1'
        obtain ⟨i', hi', e'⟩ := List.mem_map.mp h2'
        have := List.mem_range.mp hi
        have := List.mem_range.mp hi'
        omega
      · have hm : (rs[j], (j : Int)) ∈ enumI rs := by
          unfold enumI
          exact List.mem_map.mpr ⟨(rs[j], j), List.mem_zipIdx_iff_getElem?.mpr (by simp [List.getElem?_eq_getElem hj]), rfl⟩
        exact e5 _ (p1.mem_iff.mpr hm)
      · have hm : (cs[k], (k : Int)) ∈ enumI cs := by
          unfold enumI
          exact List.mem_map.mpr ⟨(cs[k], k), List.mem_zipIdx_iff_getElem?.mpr (by simp [List.getElem?_eq_getElem hk]), rfl⟩
        obtain ⟨c, c1, c2, c3⟩ := e6 _ (p2.mem_iff.mpr hm)
        have := hq _ c1
        dsimp only at this c3
        omega
    · rw [if_neg hf] at h; cases h
end Mine
end PartP3
section PartW0
open PySem PySem.W PyProof.Rows PySem.Calls PySem.Spec
set_option maxRecDepth 100000
set_option maxHeartbeats 4000000
namespace Mine
/-- a cell stands elsewhere than what is no cell -/
theorem cell_off {g h : Heap} {L a c : Addr} {led : List (Addr × Obj)} {o oc : Obj} {v : Option Value} (N : News g L h led) (hc : (c, oc) ∈ led) (hd : oc.data = .cell v) (ha : (a, o) ∈ led) (ho : ∀ v, o.data ≠ .cell v) : a ≠ c := fun e => by
  subst e
  rw [← News.one N hc ha] at ho
  exact ho v hd
theorem fmod5 (l : List Int) : ∀ x ∈ l.map (fun x => x.fmod 5), 0 ≤ x ∧ x ≤ 4 := fun x hx => by
  obtain ⟨y, _, rfl⟩ := List.mem_map.mp hx
  have h1 := Int.fmod_nonneg_of_pos y (b := 5) (by decide)
  have h2 := Int.fmod_lt_of_pos y (b := 5) (by decide)
  omega
/-- a statement that goes on, with the ledger kept -/
def Onward (s0 : Shared) (g : Heap) (L : Addr) (v : Value) (led : List (Addr × Obj)) (f : Flow) (s' : Shared) : Prop :=
  f = Flow.next ∧ ∃ h' tk' m' led', s' = { heap := h', gens := s0.gens, drawn := s0.drawn, toks := tk', os := s0.os } ∧ Fr g L h' m' ∧ News g L h' led' ∧ m' "spots" = some v ∧ ∀ q ∈ led, q ∈ led'
theorem ints_pick {vs : List Value} {ns : List Int} (h : IntsAre vs ns) : ∀ idx : List Nat, IntsAre (idx.filterMap fun i => vs[i]?) (idx.filterMap fun i => ns[i]?)
  | [] => .nil
  | i :: r => by
    have ih := ints_pick h r
    cases e : ns[i]? with
    | none =>
      have e' : vs[i]? = none := by
        rw [List.getElem?_eq_none_iff] at e ⊢
        have := h.length; omega
      rw [List.filterMap_cons_none e', List.filterMap_cons_none e]; exact ih
    | some n =>
      obtain ⟨t, ht⟩ := h.get i n e
      rw [List.filterMap_cons_some ht, List.filterMap_cons_some e]
      exact .cons _ _ ih
theorem ints_slice {vs : List Value} {ns : List Int} (h : IntsAre vs ns) (a b c : Option Int) : ∃ ms, IntsAre (slicePick vs.toArray a b c).toList ms := by
  refine ⟨(sliceRange (sliceBounds a b c vs.toArray.size).1 (sliceBounds a b c vs.toArray.size).2.1 (sliceBounds a b c vs.toArray.size).2.2).filterMap (fun i => ns[i]?), ?_⟩
  have := ints_pick h (sliceRange (sliceBounds a b c vs.toArray.size).1 (sliceBounds a b c vs.toArray.size).2.1 (sliceBounds a b c vs.toArray.size).2.2)
  simpa [slicePick] using this
theorem slice_short0 (vs : List Value) : (slicePick vs.toArray none (some 8) (some 2)).toList.length ≤ 4 := by
  unfold slicePick sliceBounds sliceRange
  simp
  refine Nat.le_trans (List.length_filterMap_le _ _) ?_
  simp
  omega
theorem slice_short1 (vs : List Value) : (slicePick vs.toArray (some 1) (some 8) (some 2)).toList.length ≤ 4 := by
  unfold slicePick sliceBounds sliceRange
  simp
  refine Nat.le_trans (List.length_filterMap_le _ _) ?_
  simp
  omega
section
variable {M : Model} {A : Around} {E : Value → Shared → Prop} {s : Shared} {h₀ : Heap} {L a : Addr} {m : Str → Option Value} {cn : Str} {cs : Scope} {ccd : Value} {cl : List (Str × Addr)}
  {x : Str} {v : Value} {Q : Unit → Shared → Prop} {led : List (Addr × Obj)} {c : Addr} {o : Obj} {v₀ : Option Value}
theorem store_cell (F : Fr h₀ L s.heap m) (N : News h₀ L s.heap led) (hc : cl.lookup x = some c) (hm : (c, o) ∈ led) (hd : o.data = .cell v₀)
    (h : ∀ h' o', Fr h₀ L h' m → News h₀ L h' (upd c o' led) → o'.data = .cell (some v) → Q () { s with heap := h' })
    (hk : cs.kind = .function := by rfl) (hx : (envX cn cs L a ccd cl).kindOf x = some .cell := by rfl) : wpAny M A (storeName (envX cn cs L a ccd cl) x v) Q E s := by
  refine wpAny_storeName_cell hk hx hc ⟨o, N.get hm, hd⟩ fun h' hv hs => ?_
  obtain ⟨o', ho', hd'⟩ := hv
  exact h h' o' (upd_fr F N hm hs) (upd_news N hm hs ho') hd'
end
section
variable {prog : Program} {w : World} {A : Around} {E : Value → Shared → Prop} {s : Shared} {Q : Value → Shared → Prop}
theorem isnot_none {v : Value} {led : List (Addr × Obj)} {r : Option (List (Int × Int))} (hv : LaidOut v led r) (h : Q (.bool r.isSome) s) : wpAny (model prog w) A (compareOp .IsNot v .none) Q E s := by
  cases r with
  | none =>
    cases (hv : v = .none)
    walk1
    exact h
  | some sp =>
    obtain ⟨D, its, n, rfl, _⟩ := hv
    walk1
    exact h
theorem is_none {v : Value} {led : List (Addr × Obj)} {r : Option (List (Int × Int))} (hv : LaidOut v led r) (h : Q (.bool (!r.isSome)) s) : wpAny (model prog w) A (compareOp .Is v .none) Q E s := by
  cases r with
  | none =>
    cases (hv : v = .none)
    walk1
    exact h
  | some sp =>
    obtain ⟨D, its, n, rfl, _⟩ := hv
    walk1
    exact h
theorem LaidOut.mono {v : Value} {led led' : List (Addr × Obj)} {r : Option (List (Int × Int))} (hv : LaidOut v led r) (hs : ∀ q ∈ led, q ∈ led') : LaidOut v led' r := by
  cases r with
  | none => exact hv
  | some sp =>
    obtain ⟨D, its, n, rfl, hm, hp⟩ := hv
    exact ⟨D, its, n, rfl, hs _ hm, hp.mono fun q hq _ => hs q hq⟩
end
def key2 (p : Int × Int) : List MK := [Sum.inl p.1, Sum.inl p.2]
theorem key2_inj {p q : Int × Int} (h : key2 p = key2 q) : p = q := by
  simp only [key2, List.cons.injEq, Sum.inl.injEq, and_true] at h
  exact Prod.ext h.1 h.2
theorem key2_nodup {sp : List (Int × Int)} (h : sp.Nodup) : (sp.map key2).Nodup := List.pairwise_map.mpr (h.imp fun hn e => hn (key2_inj e))
theorem pairs_up {prog : Program} {w : World} {led led' : List (Addr × Obj)} {ys spits : List Value} {sp : List (Int × Int)} (hsp : PsAt led spits sp) (hs : ∀ q ∈ led, q ∈ led') (hl : ys.length = spits.length)
    (hys : ∀ (j : Nat) (u : Value), ys[j]? = some u → ∃ (T : Addr) (x : Value) (t : Tok), u = .ref T ∧ spits[j]? = some x ∧ (T, tupOf #[x, .int 1 t] 0) ∈ led') : PairsUp prog w led' ys (sp.map key2) := by
  refine ⟨by rw [List.length_map, hl, hsp.length], fun j u hu => ?_⟩
  obtain ⟨T, x, t, rfl, hx, hT⟩ := hys j u hu
  have hj : j < sp.length := by rw [← hsp.length]; exact (List.getElem?_eq_some_iff.mp hx).1
  obtain ⟨x', hx', hp⟩ := hsp.get j hj
  rw [show sp.getD j (0, 0) = sp[j] by rw [List.getD_eq_getElem?_getD, List.getElem?_eq_getElem hj]; rfl] at hp
  rw [hx] at hx'
  cases Option.some.inj hx'
  obtain ⟨a, t1, t2, n, rfl, hm⟩ := hp
  refine ⟨T, a, _, t, key2 sp[j], 0, rfl, by rw [List.getElem?_map, List.getElem?_eq_getElem hj]; rfl, hT, hs _ hm, rfl, _, _, rfl, ?_⟩
  exact ItemsAre.cons (show mixIs _ _ = true from mixIs_int (t := t1)) (ItemsAre.cons (show mixIs _ _ = true from mixIs_int (t := t2)) ItemsAre.nil)
/-- a list of tallies -/
def Tals (prog : Program) (w : World) (led : List (Addr × Obj)) (ys : List Value) (kss : List (List (List MK))) : Prop :=
  ys.length = kss.length ∧ ∀ (j : Nat) (u : Value), ys[j]? = some u → ∃ (D : Addr) (ks : List (List MK)), u = .ref D ∧ kss[j]? = some ks ∧ Tal prog w led D ks
theorem Tals.nonIt {prog : Program} {w : World} {led led' : List (Addr × Obj)} {ys : List Value} {kss : List (List (List MK))} (x : Tals prog w led ys kss) (hs : ∀ q ∈ led, Mine.nonIt q.2 → q ∈ led') : Tals prog w led' ys kss :=
  ⟨x.1, fun j u hu => by obtain ⟨D, ks, e1, e2, e3⟩ := x.2 j u hu; exact ⟨D, ks, e1, e2, e3.nonIt hs⟩⟩
def keyC (p : Int × Int) : List MK := [Sum.inr "c", Sum.inl p.2, Sum.inr "c"]
def keyR (p : Int × Int) : List MK := [Sum.inr "r", Sum.inl p.1, Sum.inr "r"]
def rowKs (done : List (Int × Int)) (j : Nat) : List (List MK) := (done.filter fun p => decide (p.1 = (j : Int))).map keyC
def colKs (done : List (Int × Int)) (k : Nat) : List (List MK) := ((done.filter fun p => decide (p.2 = (k : Int))).map keyR).reverse
theorem Tals.at {prog : Program} {w : World} {led : List (Addr × Obj)} {ys : List Value} {kss : List (List (List MK))} {j : Nat} {ks : List (List MK)} (x : Tals prog w led ys kss) (h : kss[j]? = some ks) : ∃ D, ys[j]? = some (Value.ref D) ∧ Tal prog w led D ks := by
  have hj : j < ys.length := by rw [x.1]; exact (List.getElem?_eq_some_iff.mp h).1
  obtain ⟨D, ks', e1, e2, e3⟩ := x.2 j ys[j] (List.getElem?_eq_getElem hj)
  rw [h] at e2
  cases Option.some.inj e2
  exact ⟨D, by rw [List.getElem?_eq_getElem hj, e1], e3⟩
theorem Tals.set {prog : Program} {w : World} {led : List (Addr × Obj)} {ys : List Value} {kss : List (List (List MK))} {D : Addr} {ks : List (List MK)} (x : Tals prog w led ys kss) (T : Tal prog w led D ks) (j : Nat) : Tals prog w led (ys.set j (.ref D)) (kss.set j ks) := by
  refine ⟨by rw [List.length_set, List.length_set, x.1], fun i u hu => ?_⟩
  rw [List.getElem?_set] at hu
  by_cases hji : j = i
  · subst hji
    rw [if_pos rfl] at hu
    by_cases hl : j < ys.length
    · rw [if_pos hl] at hu
      refine ⟨D, ks, (Option.some.inj hu).symm, ?_, T⟩
      rw [List.getElem?_set, if_pos rfl, if_pos (by rw [← x.1]; exact hl)]
    · rw [if_neg hl] at hu; cases hu
  · rw [if_neg hji] at hu
    obtain ⟨D', ks', e1, e2, e3⟩ := x.2 i u hu
    exact ⟨D', ks', e1, by rw [List.getElem?_set, if_neg hji]; exact e2, e3⟩
theorem rowKs_snoc (done : List (Int × Int)) (p : Int × Int) (n : Nat) (j : Nat) (hp : p.1 = (j : Int)) : ((List.range n).map (rowKs done)).set j (rowKs done j ++ [keyC p]) = (List.range n).map (rowKs (done ++ [p])) := by
  apply List.ext_getElem
  · simp
  · intro i h1 h2
    rw [List.getElem_set]
    simp only [List.getElem_map, List.getElem_range, rowKs, List.filter_append, List.map_append]
    by_cases hji : j = i
    · subst hji; simp [hp]
    · have : ¬ p.1 = (i : Int) := by rw [hp]; omega
      simp [hji, this]
theorem colKs_snoc (done : List (Int × Int)) (p : Int × Int) (n : Nat) (k : Nat) (hp : p.2 = (k : Int)) : ((List.range n).map (colKs done)).set k ([keyR p] ++ colKs done k) = (List.range n).map (colKs (done ++ [p])) := by
  apply List.ext_getElem
  · simp
  · intro i h1 h2
    rw [List.getElem_set]
    simp only [List.getElem_map, List.getElem_range, colKs, List.filter_append, List.map_append, List.reverse_append]
    by_cases hji : k = i
    · subst hji; simp [hp]
    · have : ¬ p.2 = (i : Int) := by rw [hp]; omega
      simp [hji, this]
theorem keyC_obj {prog : Program} {w : World} {p : Int × Int} {k : Int} {t1 t2 t3 : Tok} {n : Nat} (h : p.2 = k) : KeyO prog w (keyC p) (tupOf #[.str "c" t1, .int k t2, .str "c" t3] n) := by
  refine ⟨rfl, _, _, rfl, ?_⟩
  rw [← h]
  exact ItemsAre.cons (show mixIs _ _ = true from mixIs_str (t := t1)) (ItemsAre.cons (show mixIs _ _ = true from mixIs_int (t := t2)) (ItemsAre.cons (show mixIs _ _ = true from mixIs_str (t := t3)) ItemsAre.nil))
theorem keyR_obj {prog : Program} {w : World} {p : Int × Int} {j : Int} {t1 t2 t3 : Tok} {n : Nat} (h : p.1 = j) : KeyO prog w (keyR p) (tupOf #[.str "r" t1, .int j t2, .str "r" t3] n) := by
  refine ⟨rfl, _, _, rfl, ?_⟩
  rw [← h]
  exact ItemsAre.cons (show mixIs _ _ = true from mixIs_str (t := t1)) (ItemsAre.cons (show mixIs _ _ = true from mixIs_int (t := t2)) (ItemsAre.cons (show mixIs _ _ = true from mixIs_str (t := t3)) ItemsAre.nil))
theorem keyC_inj {p q : Int × Int} (h1 : p.1 = q.1) (h : keyC p = keyC q) : p = q := by
  simp only [keyC, List.cons.injEq, Sum.inl.injEq, and_true, true_and] at h
  exact Prod.ext h1 h
theorem keyR_inj {p q : Int × Int} (h1 : p.2 = q.2) (h : keyR p = keyR q) : p = q := by
  simp only [keyR, List.cons.injEq, Sum.inl.injEq, and_true, true_and] at h
  exact Prod.ext h h1
/-- a list of the ledger -/
def LstAt (led : List (Addr × Obj)) (l : Addr) (ys : List Value) : Prop := ∃ o n, (l, o) ∈ led ∧ o.cls = .type "list" ∧ o.data = .seq ys.toArray n
theorem LstAt.nonIt {led led' : List (Addr × Obj)} {l : Addr} {ys : List Value} (x : LstAt led l ys) (hs : ∀ q ∈ led, Mine.nonIt q.2 → q ∈ led') : LstAt led' l ys := let ⟨o, n, hm, hc, hd⟩ := x; ⟨o, n, hs _ hm (nonIt_list hc), hc, hd⟩
theorem LstAt.isList {g h : Heap} {L l : Addr} {led : List (Addr × Obj)} {ys : List Value} (x : LstAt led l ys) (N : News g L h led) : h.IsList l ys.toArray := let ⟨o, n, hm, hc, hd⟩ := x; ⟨o, N.get hm, hc, n, hd⟩
section
variable {prog : Program} {w : World} {A : Around} {E : Value → Shared → Prop} {s : Shared} {g : Heap} {L l : Addr} {m : Str → Option Value} {led : List (Addr × Obj)}
theorem set_led {ys : List Value} {k : Nat} {t : Tok} {v : Value} {Q : Unit → Shared → Prop} (F : Fr g L s.heap m) (N : News g L s.heap led) (hl : LstAt led l ys) (hk : k < ys.length) (hsz : ys.length ≤ 1000)
    (h : ∀ h' led', Fr g L h' m → News g L h' led' → LstAt led' l (ys.set k v) → (∀ q ∈ led, q.1 ≠ l → q ∈ led') → Q () { s with heap := h' }) : wpAny (model prog w) A (setItem (.ref l) (.int (k : Int) t) v) Q E s := by
  obtain ⟨o, n, hm, hc, hd⟩ := hl
  refine wpAny_setItem_list (⟨o, N.get hm, hc, n, hd⟩ : s.heap.IsList l ys.toArray) (by omega) (by omega) (by rw [List.size_toArray]; omega) (fun h' hl' hs => ?_)
  obtain ⟨o', ho', hc', n', hd'⟩ := hl'
  refine h h' (upd l o' led) (upd_fr F N hm hs) (upd_news N hm hs ho') ⟨o', n', mem_upd_self, hc', ?_⟩ fun q hq hn => mem_upd hq hn
  rw [hd', Int.toNat_natCast]
  congr 1
  simp
end
theorem Tal.mono {prog : Program} {w : World} {led led' : List (Addr × Obj)} {d : Addr} {ks : List (List MK)} (x : Tal prog w led d ks) (hs : ∀ q ∈ led, q.2.cls = .type "dict" ∨ q.2.cls = .type "tuple" → q ∈ led') : Tal prog w led' d ks := by
  obtain ⟨lo, od, es, ep, xs, hm, hc, hd, he, hk, hn, hx⟩ := x
  refine ⟨lo, od, es, ep, xs, hs _ hm (.inl hc.1), hc, hd, he, hk, hn, fun y hy => ?_⟩
  obtain ⟨⟨ok, h1, h2⟩, h3⟩ := hx y hy
  exact ⟨⟨ok, hs _ h1 (.inr h2.1), h2⟩, h3⟩
theorem Tals.mono {prog : Program} {w : World} {led led' : List (Addr × Obj)} {ys : List Value} {kss : List (List (List MK))} (x : Tals prog w led ys kss) (hs : ∀ q ∈ led, q.2.cls = .type "dict" ∨ q.2.cls = .type "tuple" → q ∈ led') : Tals prog w led' ys kss :=
  ⟨x.1, fun j u hu => by obtain ⟨D, ks, e1, e2, e3⟩ := x.2 j u hu; exact ⟨D, ks, e1, e2, e3.mono hs⟩⟩
theorem LstAt.off {g h : Heap} {L l : Addr} {led : List (Addr × Obj)} {ys : List Value} (x : LstAt led l ys) (N : News g L h led) {q : Addr × Obj} (hq : q ∈ led) (hc : q.2.cls = .type "dict" ∨ q.2.cls = .type "tuple") : q.1 ≠ l := by
  obtain ⟨o, n, hm, hcl, _⟩ := x
  intro e
  rw [News.same N hm hq e, hcl] at hc
  revert hc
  decide
theorem rowKs_app {done : List (Int × Int)} {p : Int × Int} {j : Nat} (hp : p.1 = (j : Int)) : rowKs (done ++ [p]) j = rowKs done j ++ [keyC p] := by
  simp [rowKs, List.filter_append, hp]
theorem colKs_app {done : List (Int × Int)} {p : Int × Int} {k : Nat} (hp : p.2 = (k : Int)) : colKs (done ++ [p]) k = [keyR p] ++ colKs done k := by
  simp [colKs, List.filter_append, hp]
theorem rowKs_nodup {done : List (Int × Int)} (h : done.Nodup) (j : Nat) : (rowKs done j).Nodup := by
  unfold rowKs
  refine List.pairwise_map.mpr (List.Pairwise.imp_of_mem (fun {a b} ha hb hn e => hn (keyC_inj ?_ e)) (h.filter _))
  have h1 := of_decide_eq_true (List.mem_filter.mp ha).2
  have h2 := of_decide_eq_true (List.mem_filter.mp hb).2
  rw [h1, h2]
theorem colKs_nodup {done : List (Int × Int)} (h : done.Nodup) (k : Nat) : (colKs done k).Nodup := by
  unfold colKs
  refine (List.reverse_perm _).nodup_iff.mpr (List.pairwise_map.mpr (List.Pairwise.imp_of_mem (fun {a b} ha hb hn e => hn (keyR_inj ?_ e)) (h.filter _)))
  have h1 := of_decide_eq_true (List.mem_filter.mp ha).2
  have h2 := of_decide_eq_true (List.mem_filter.mp hb).2
  rw [h1, h2]
theorem rowKs_len (done : List (Int × Int)) (j : Nat) : (rowKs done j).length ≤ done.length := by
  unfold rowKs; rw [List.length_map]; exact List.length_filter_le _ _
theorem colKs_len (done : List (Int × Int)) (k : Nat) : (colKs done k).length ≤ done.length := by
  unfold colKs; rw [List.length_reverse, List.length_map]; exact List.length_filter_le _ _
theorem rowKs_count (sp : List (Int × Int)) (j : Nat) : (rowKs sp.reverse j).length = (sp.filter fun p => decide (p.1 = (j : Int))).length := by
  unfold rowKs; rw [List.length_map, List.filter_reverse, List.length_reverse]
theorem colKs_count (sp : List (Int × Int)) (k : Nat) : (colKs sp.reverse k).length = (sp.filter fun p => decide (p.2 = (k : Int))).length := by
  unfold colKs; rw [List.length_reverse, List.length_map, List.filter_reverse, List.length_reverse]
/-- what is no list stands elsewhere than a list -/
theorem LstAt.off' {g h : Heap} {L l : Addr} {led : List (Addr × Obj)} {ys : List Value} (x : LstAt led l ys) (N : News g L h led) {q : Addr × Obj} (hq : q ∈ led) (hc : ∀ ys n, q.2.data ≠ .seq ys n) : q.1 ≠ l := by
  obtain ⟨o, n, hm, hcl, hd⟩ := x
  intro e
  rw [← News.same N hm hq e] at hd
  exact hc _ _ hd
theorem LstAt.offN {g h : Heap} {L l : Addr} {led : List (Addr × Obj)} {ys : List Value} (x : LstAt led l ys) (N : News g L h led) {q : Addr × Obj} (hq : q ∈ led) (hc : ¬ Mine.nonIt q.2) : q.1 ≠ l := by
  obtain ⟨o, n, hm, hcl, _⟩ := x
  intro e
  exact hc (News.same N hm hq e ▸ nonIt_list hcl)
theorem tals_start {prog : Program} {w : World} {led : List (Addr × Obj)} {ys : List Value} {n : Nat} {f : Nat → List (List MK)} (hl : ys.length = n) (h : ∀ u ∈ ys, ∃ D, u = Value.ref D ∧ Tal prog w led D []) (hf : ∀ j, f j = []) : Tals prog w led ys ((List.range n).map f) := by
  refine ⟨by rw [List.length_map, List.length_range, hl], fun j u hu => ?_⟩
  have hj : j < n := by rw [← hl]; exact (List.getElem?_eq_some_iff.mp hu).1
  obtain ⟨D, e, T⟩ := h u (List.mem_of_getElem? hu)
  exact ⟨D, [], e, by rw [List.getElem?_map, List.getElem?_range hj]; exact congrArg some (hf j), T⟩
end Mine
end PartW0
section PartW1
open PySem PySem.W PyProof.Rows PySem.Calls PySem.Spec PyProof.Rows.LCg
set_option maxRecDepth 100000
set_option maxHeartbeats 8000000
namespace Mine
theorem fill6 : PySem.Challenge.rw_hu0002_01 = PySem.Challenge.rw_hu0002_01 ∧ hd.heap_39 = hd.heap_39 := by k_fill; exact ⟨rfl, rfl⟩
local macro_rules | `(tactic| k_enter) => `(tactic| (refine' code_def ?k1 ?k2 ?k3 ?k4 ?k5 ?kA ?kF ?kK ?k6 ?k7 ?k8 ?k9 ?kB ?_ ?c2 ?c3 ?c4 ?c5; (case kA => exact rfl); (case kF => exact rfl); (case kK => first | exact rfl | assumption); (case k1 => k_asm); (case k2 => k_asm); (case k3 => k_asm); (case k4 => k_asm); (case k5 => k_asm); (case k6 => k_is); (case k7 => k_is); (case k8 => ktr_room); (case k9 => (first | exact BindsTo.of_eq rfl | (refine' kp_binds ?kx ?ke; (case kx => k_in); (case ke => exact fun _ => rfl)))); (case c5 => decide); (case kB => exact locs rfl); (case c2 => exact rfl); (case c3 => exact rfl); (case c4 => exact rfl); k_whole; intro g' L' h' FG' F' N' B' X' T'; (try dsimp only); (refine wpAny_noRaise ?_); (try k_fold)))
local macro_rules | `(tactic| walk_at "eval Name") => `(tactic| (k_here; k_dflt (refine' nameX_L ?F ?v ?_ ?a ?b; (case F => k_asm); (case a => rfl); (case b => rfl); (case v => first | exact rfl | assumption); k_whole)))
local macro_rules | `(tactic| walk_at "exec While Compare cons nil") => `(tactic| refine stop_ ?_)
local macro_rules | `(tactic| walk_at "call ref") => `(tactic| refine stop_ ?_)
local macro_rules | `(tactic| walk_at "exec For Tuple Call") => `(tactic| refine stop_ ?_)
local macro_rules | `(tactic| walk_at "exec For Tuple Subscript") => `(tactic| refine stop_ ?_)
local macro_rules | `(tactic| walk_at "exec For Tuple Name") => `(tactic| refine stop_ ?_)
local macro_rules | `(tactic| walk_at "subscriptTail Call Name cons nil Slice ref ref") => `(tactic| (refine kba_turn (value' := PySem.Expr.Name (PySem.Str.ofString "_") ⟨0, 0, 0, 0⟩) (fun _ => rfl) ?_; refine stop_ ?_))
local macro_rules | `(tactic| walk_at "subscriptTail Name Slice ref ref") => `(tactic| refine stop_ ?_)
local macro_rules | `(tactic| walk_at "call builtin:sorted") => `(tactic| refine stop_ ?_)
local macro_rules | `(tactic| walk_at "eval ListComp") => `(tactic| refine stop_ ?_)
local macro_rules | `(tactic| walk_at "exec For Name Call") => `(tactic| refine stop_ ?_)
local macro_rules | `(tactic| walk_at "exec For Name Call cons nil") => `(tactic| refine stop_ ?_)
local macro_rules | `(tactic| walk_at "exec For Tuple Call cons nil") => `(tactic| refine stop_ ?_)
local macro_rules | `(tactic| walk_at "getMethod ref") => `(tactic| refine stop_ ?_)
local macro_rules | `(tactic| walk_at "call builtin:dict.values") => `(tactic| refine stop_ ?_)
local macro_rules | `(tactic| walk_at "call builtin:dict.items") => `(tactic| refine stop_ ?_)
local macro_rules | `(tactic| walk_at "compareOp In ref ref") => `(tactic| refine stop_ ?_)
local macro_rules | `(tactic| walk_at "setItem ref ref") => `(tactic| refine stop_ ?_)
local macro_rules | `(tactic| walk_at "call builtin:len") => `(tactic| refine stop_ ?_)
local macro_rules | `(tactic| walk_at "call builtin:list.append") => `(tactic| refine stop_ ?_)
local macro_rules | `(tactic| walk_at "compareOp Eq ref ref") => `(tactic| refine stop_ ?_)
local macro_rules | `(tactic| walk_at "TPost") => `(tactic| dsimp only [TPost])
local macro_rules | `(tactic| k_steps) => `(tactic| repeat' (first | (k_unfold; (try dsimp only)) | walk1 | (dsimp only; walk1) | fail "no step"))


local macro_rules | `(tactic| walk_at "subscriptTail Name Name ref int") => `(tactic| refine stop_ ?_)
local macro_rules | `(tactic| walk_at "setItem ref int") => `(tactic| refine stop_ ?_)
local macro_rules | `(tactic| walk_at "eval Dict cons cons") => `(tactic| refine stop_ ?_)
local macro_rules | `(tactic| walk_at "eval Dict") => `(tactic| ((with_reducible show wpAny _ _ (eval (Expr.Dict (_ :: _) _ _) _) _ _ _); refine stop_ ?_))
local macro_rules | `(tactic| walk_at "TupStores") => `(tactic| refine stop_ ?_)
local macro_rules | `(tactic| walk_at "exec If") => `(tactic| ((with_reducible show wpAny _ _ (exec (Stmt.If (Expr.BoolOp BoolOp.And _ _) _ _ _) _) _ _ _); refine stop_ ?_))
local macro_rules | `(tactic| walk_at "eval Name") => `(tactic| (k_here; (with_reducible show wpAny _ _ (eval (Expr.Name (Str.ofString "columns") _) (compEnvC _ _ _ _)) _ _ _); refine stop_ ?_))
local macro_rules | `(tactic| walk_at "eval Name") => `(tactic| (k_here; (with_reducible show wpAny _ _ (eval (Expr.Name (Str.ofString "rows") _) (compEnvC _ _ _ _)) _ _ _); refine stop_ ?_))
theorem post_true (ns : List Int) : Challenge.rw_hu0002_01.row.claim.post [ofPy (PyData.list (List.map PyData.int ns))] (WData.bool true) [ofPy (PyData.list (List.map PyData.int ns))] = true := by
  wrow_post
theorem t : PySem.Challenge.rw_hu0002_01.Holds := Mine.hd (by
  k_go0
  all_goals try k_fold
  rename_i w s0 s1 mg mb G1 Y1 fa oo pm dc ho hg0 KX X1 V1 GL T1 B1 TE TW wa wo M1 wb wc hcd ns hs hlay hLa hra hl2 as1 as2 sl svs as3 hL ra wl r0 hI hr hlen hcond K0 hD h1 tk1 F1 oC oR cC cR N1 X0
  clear G1 Y1 ho X1 V1 GL B1 TE TW M1 hcd hs hlay hLa hra hl2 ra wl r0 hr hcond hD
  replace F1 := fr_re (m' := fun y => if y = "script" then some (.ref sl) else none) F1 rfl
  replace cR : oR.data = .cell none := cR
  replace cC : oC.data = .cell none := cC
  clear X0
  refine wpAny_noRaise ?_
  dsimp only
  k_steps
  refine Stop.go ?_
  obtain ⟨rr0, hrr0⟩ := ints_slice hI none (some 8) (some 2)
  have hlr0 := slice_short0 svs
  obtain ⟨cc0, hcc0⟩ := ints_slice hI (some 1) (some 8) (some 2)
  have hlc0 := slice_short1 svs
  have hsv := hI.length
  refine comp_eval (h₀ := s1.heap) (L := s1.heap.objs.size) (m := fun y => if y = "script" then some (.ref sl) else none) (by simp) rfl (by decide) rfl (by decide) ?_ (fun _ => rfl)
  k_steps
  refine Stop.go ?_
  refine slice_list3 F1 N1 (stays_list F1.keep hL) .none (IsPart.int _ _) (IsPart.int _ _) (by decide) (fun h2 F2 N2 => ?_) (by with_unfolding_all rfl) (by intro _; with_unfolding_all rfl) (by rw [List.size_toArray, sizeLine_eq]; omega)
  refine CGo.list (vs := (slicePick svs.toArray none (some 8) (some 2)).toList) rfl F2 N2 List.mem_cons_self rfl rfl (by rw [sizeLine_eq]; omega) rfl rfl
    (fun i ys led => ys.length = i ∧ IntsAre ys ((rr0.take i).map fun x => x.fmod 5)) (fun i ys led h => Nat.le_of_eq h.1) ⟨rfl, .nil⟩ ?_ ?_
  · rintro C oC' m₂ i v ys led full h tk hv ⟨hyl, hys⟩ hs1 hs2 hC hoC hma F3 N3
    obtain ⟨c, tc, hc, rfl⟩ := ints_at hrr0 hv
    show wpAny _ _ _ _ _ _
    k_steps
    rename Fr _ _ _ _ => F4
    rename News _ _ _ _ => N4
    have et : rr0.take (i + 1) = rr0.take i ++ [c] := by rw [List.take_add_one, hc]; rfl
    refine CEnd.same F4 N4 ⟨by rw [List.length_append, hyl]; rfl, ?_⟩
    rw [et, List.map_append]
    exact IntsAre.append hys (.cons _ _ .nil)
  intro R1 h3 tk3 ys1 led3 F3 N3 hled3 hoff3 ⟨hyl1, hys1⟩
  rw [hrr0.length, List.take_length] at hys1
  clear F2 N2
  dsimp only
  k_steps
  refine Stop.go ?_
  refine comp_eval (h₀ := s1.heap) (L := s1.heap.objs.size) (m := fun y => if y = "script" then some (.ref sl) else none) (by simp) rfl (by decide) rfl (by decide) ?_ (fun _ => rfl)
  k_steps
  refine Stop.go ?_
  refine slice_list3 F3 N3 (stays_list F3.keep hL) (IsPart.int _ _) (IsPart.int _ _) (IsPart.int _ _) (by decide) (fun h5 F5 N5 => ?_) (by with_unfolding_all rfl) (by intro _; with_unfolding_all rfl) (by rw [List.size_toArray, sizeLine_eq]; omega)
  refine CGo.list (vs := (slicePick svs.toArray (some 1) (some 8) (some 2)).toList) rfl F5 N5 List.mem_cons_self rfl rfl (by rw [sizeLine_eq]; omega) rfl rfl
    (fun i ys led => ys.length = i ∧ IntsAre ys ((cc0.take i).map fun x => x.fmod 5)) (fun i ys led h => Nat.le_of_eq h.1) ⟨rfl, .nil⟩ ?_ ?_
  · rintro C oC' m₂ i v ys led full h tk hv ⟨hyl, hys⟩ hs1 hs2 hC hoC hma F6 N6
    obtain ⟨c, tc, hc, rfl⟩ := ints_at hcc0 hv
    show wpAny _ _ _ _ _ _
    k_steps
    rename Fr _ _ _ _ => F4
    rename News _ _ _ _ => N4
    have et : cc0.take (i + 1) = cc0.take i ++ [c] := by rw [List.take_add_one, hc]; rfl
    refine CEnd.same F4 N4 ⟨by rw [List.length_append, hyl]; rfl, ?_⟩
    rw [et, List.map_append]
    exact IntsAre.append hys (.cons _ _ .nil)
  intro R2 h6 tk6 ys2 led6 F6 N6 hled6 hoff6 ⟨hyl2, hys2⟩
  rw [hcc0.length, List.take_length] at hys2
  clear F5 N5
  dsimp only
  k_steps
  rename Fr _ _ _ _ => F7
  rename News _ _ _ _ => N7
  have hcR : (s1.heap.objs.size + 1, oR) ∈ led6 := hled6 _ (List.Mem.tail _ (List.Mem.tail _ (hled3 _ (List.Mem.tail _ (List.Mem.tail _ List.mem_cons_self)))))
  have hcC : (s1.heap.objs.size + 1 + 1, oC) ∈ led6 := hled6 _ (List.Mem.tail _ (List.Mem.tail _ (hled3 _ (List.Mem.tail _ List.mem_cons_self))))
  have hR1 : (R1, lst ys1) ∈ led6 := hled6 _ (List.Mem.tail _ List.mem_cons_self)
  have hne12 : s1.heap.objs.size + 1 + 1 ≠ s1.heap.objs.size + 1 := Nat.succ_ne_self _
  obtain ⟨led7, N7, kR, kC, k1, k2⟩ : ∃ led7, News s1.heap s1.heap.objs.size _ led7 ∧ (s1.heap.objs.size + 1, oR) ∈ led7 ∧ (s1.heap.objs.size + 1 + 1, oC) ∈ led7 ∧ (R1, lst ys1) ∈ led7 ∧ (R2, lst ys2) ∈ led7 :=
    ⟨_, N7, List.Mem.tail _ (List.Mem.tail _ hcR), List.Mem.tail _ (List.Mem.tail _ hcC), List.Mem.tail _ (List.Mem.tail _ hR1), List.Mem.tail _ List.mem_cons_self⟩
  clear hcR hcC hR1 hled6 hled3 hoff3 hoff6
  refine store_cell F7 N7 rfl kR cR (fun h8 oR8 F8 N8 cR8 => ?_) rfl rfl
  obtain ⟨led8, N8, kR, kC, k1, k2⟩ : ∃ led8, News s1.heap s1.heap.objs.size h8 led8 ∧ (s1.heap.objs.size + 1, oR8) ∈ led8 ∧ (s1.heap.objs.size + 1 + 1, oC) ∈ led8 ∧ (R1, lst ys1) ∈ led8 ∧ (R2, lst ys2) ∈ led8 :=
    ⟨_, N8, mem_upd_self, mem_upd kC hne12, mem_upd k1 (cell_off N7 kR cR k1 (fun v e => nomatch e)), mem_upd k2 (cell_off N7 kR cR k2 (fun v e => nomatch e))⟩
  clear cR F7 N7
  k_steps
  refine store_cell F8 N8 rfl kC cC (fun h9 oC9 F9 N9 cC9 => ?_) rfl rfl
  obtain ⟨led9, N9, kR, kC, k1, k2⟩ : ∃ led9, News s1.heap s1.heap.objs.size h9 led9 ∧ (s1.heap.objs.size + 1, oR8) ∈ led9 ∧ (s1.heap.objs.size + 1 + 1, oC9) ∈ led9 ∧ (R1, lst ys1) ∈ led9 ∧ (R2, lst ys2) ∈ led9 :=
    ⟨_, N9, mem_upd kR (Ne.symm hne12), mem_upd_self, mem_upd k1 (cell_off N8 kC cC k1 (fun v e => nomatch e)), mem_upd k2 (cell_off N8 kC cC k2 (fun v e => nomatch e))⟩
  clear cC F8 N8
  obtain ⟨rs, hrs⟩ : ∃ rs, rs = rr0.map (fun x => x.fmod 5) := ⟨_, rfl⟩
  obtain ⟨cs, hcs⟩ : ∃ cs, cs = cc0.map (fun x => x.fmod 5) := ⟨_, rfl⟩
  have hr4 : ∀ x ∈ rs, 0 ≤ x ∧ x ≤ 4 := hrs ▸ fmod5 rr0
  have hc4 : ∀ x ∈ cs, 0 ≤ x ∧ x ≤ 4 := hcs ▸ fmod5 cc0
  rw [← hrs] at hys1
  rw [← hcs] at hys2
  have hrl : rs.length ≤ 4 := by rw [hrs, List.length_map, ← hrr0.length]; exact hlr0
  have hcl : cs.length ≤ 4 := by rw [hcs, List.length_map, ← hcc0.length]; exact hlc0
  clear hrs hcs hrr0 hcc0 hlr0 hlc0 hyl1 hyl2 hL hI hlen
  clear rr0 cc0
  k_steps
  refine Stop.go ?_
  refine' laid_ct _ _ _ _ _ _ _ _ _ _ _ _ _ _ _ _ _ _ ?B ?F ?X ?N ?T rfl R1 R2 ys1 ys2 rs cs _ _ k1 hys1 k2 hys2 hrl (Nat.le_trans hcl (show 4 ≤ 8 by decide)) (fun r hr => (hr4 r hr).1) ?hd ?hu ?_
  case B => exact K0
  case F => exact F9
  case X => exact KX
  case N => exact N9
  case T => exact T1
  case hd => ktr_room
  case hu => ktr_units
  intro v h10 tk10 led10 F10 N10 keep10 hv10
  have kR := keep10 _ kR
  have kC := keep10 _ kC
  have k1 := keep10 _ k1
  have k2 := keep10 _ k2
  clear F9 N9
  k_steps
  refine isnot_none hv10 ?_
  k_steps
  refine Stop.go ?_
  rename Fr _ _ _ _ => F11
  rename News _ _ _ _ => N11
  refine' canbe_ct _ _ _ _ _ _ _ _ _ _ _ _ _ _ _ _ _ _ ?B ?F ?X ?N ?T rfl R1 R2 ys1 ys2 rs cs _ _ k1 hys1 k2 hys2 (Nat.le_trans hrl (show 4 ≤ 8 by decide)) (Nat.le_trans hcl (show 4 ≤ 8 by decide)) ?hd ?hu ?_
  case B => exact K0
  case F => exact F11
  case X => exact KX
  case N => exact N11
  case T => exact T1
  case hd => ktr_room
  case hu => ktr_units
  intro h12 tk12 led12 F12 N12 keep12
  have kR := keep12 _ kR
  have kC := keep12 _ kC
  have k1 := keep12 _ k1
  have k2 := keep12 _ k2
  have hv12 := hv10.mono keep12
  have hsr : Small rs := ⟨hrl, hr4⟩
  have hsc : Small cs := ⟨hcl, hc4⟩
  rw [← plain_can hsr hsc]
  clear F11 N11 keep12 hv10 keep10
  k_steps
  · exact absurd (show ((laid rs cs).isSome != (laid rs cs).isSome) = true by assumption) (by simp)
  refine isnot_none hv12 ?_
  k_steps
  refine Stop.go ?_
  rename Fr _ _ _ _ => F13
  rename News _ _ _ _ => N13
  refine' canbe_ct _ _ _ _ _ _ _ _ _ _ _ _ _ _ _ _ _ _ ?B ?F ?X ?N ?T rfl R2 R1 ys2 ys1 cs rs _ _ k2 hys2 k1 hys1 (Nat.le_trans hcl (show 4 ≤ 8 by decide)) (Nat.le_trans hrl (show 4 ≤ 8 by decide)) ?hd ?hu ?_
  case B => exact K0
  case F => exact F13
  case X => exact KX
  case N => exact N13
  case T => exact T1
  case hd => ktr_room
  case hu => ktr_units
  intro h14 tk14 led14 F14 N14 keep14
  have kR := keep14 _ kR
  have kC := keep14 _ kC
  have k1 := keep14 _ k1
  have k2 := keep14 _ k2
  have hv14 := hv12.mono keep14
  rw [plain_comm hsr hsc, ← plain_can hsr hsc]
  clear F13 N13 keep14 hv12
  k_steps
  refine Stop.go ?_
  rename Fr _ _ _ _ => F15
  rename News _ _ _ _ => N15
  refine' laid_ct _ _ _ _ _ _ _ _ _ _ _ _ _ _ _ _ _ _ ?B ?F ?X ?N ?T rfl R2 R1 ys2 ys1 cs rs _ _ k2 hys2 k1 hys1 hcl (Nat.le_trans hrl (show 4 ≤ 8 by decide)) (fun r hr => (hc4 r hr).1) ?hd ?hu ?_
  case B => exact K0
  case F => exact F15
  case X => exact KX
  case N => exact N15
  case T => exact T1
  case hd => ktr_room
  case hu => ktr_units
  intro v16 h16 tk16 led16 F16 N16 keep16 hv16'
  have kR := keep16 _ kR
  have kC := keep16 _ kC
  have k1 := keep16 _ k1
  have k2 := keep16 _ k2
  have hv16 := hv14.mono keep16
  clear F15 N15 keep16 hv14
  k_steps
  refine isnot_none hv16' ?_
  k_steps
  refine isnot_none hv16 ?_
  have e16 : (laid cs rs).isSome = (laid rs cs).isSome := by rw [plain_can hsc hsr, plain_comm hsr hsc, plain_can hsr hsc]
  rw [e16]
  clear hv16' e16
  k_steps
  refine Stop.go ?_
  rename Fr _ _ _ _ => F17
  rename News _ _ _ _ => N17
  refine wpAny_mono (Q := Onward s1 s1.heap s1.heap.objs.size v led16) ?_ (fun f s' hq => ?_) (fun _ _ e => e)
  · refine wpAny_If ?_
    k_steps
    refine Stop.go ?_
    refine comp_eval (h₀ := s1.heap) (L := s1.heap.objs.size) (cl := [("columns", s1.heap.objs.size + 1 + 1)]) (m := fun y => if y = "spots" then some v else if y = "script" then some (.ref sl) else none) (by simp) (by with_unfolding_all rfl) (by decide) rfl (by decide) ?_ (fun _ => rfl)
    k_steps
    refine CGo.list rfl F17 N17 k1 rfl rfl (by rw [hys1.length, sizeLine_eq]; omega) rfl rfl
      (fun i ys led => ys.length ≤ i ∧ IntsAre ys ((rs.take i).filter fun x => decide ((cs.length : Int) < x))) (fun i ys led h => h.1) ⟨Nat.le_refl _, .nil⟩ ?_ ?_
    · rintro C oC' m₂ i u ys led full h tk hv ⟨hyl, hys⟩ hs1 hs2 hC hoC hma F18 N18
      obtain ⟨c, tc, hc, rfl⟩ := ints_at hys1 hv
      show wpAny _ _ _ _ _ _
      have et : rs.take (i + 1) = rs.take i ++ [c] := by rw [List.take_add_one, hc]; rfl
      k_steps
      refine Stop.go ?_
      refine lcf_cell N18 rfl (hs2 _ (hs1 _ kC)) cC9 ?_ rfl rfl
      k_steps
      refine Stop.go ?_
      refine call_len_list (N18.isList (hs2 _ (hs1 _ k2))) (by rw [List.size_toArray, hys2.length]; omega) ?_
      rw [show ys2.toArray.size = cs.length from (List.size_toArray ..).trans hys2.length]
      k_steps
      · have hgt : (cs.length : Int) < c := by assumption
        refine CEnd.same (by assumption) (by assumption) ⟨by rw [List.length_append]; simp; omega, ?_⟩
        rw [et, List.filter_append, List.filter_cons, decide_eq_true hgt]
        exact IntsAre.append hys (.cons _ _ .nil)
      · have hgt : ¬ (cs.length : Int) < c := by assumption
        refine CEnd.same (by assumption) (by assumption) ⟨by omega, ?_⟩
        rw [et, List.filter_append, List.filter_cons, decide_eq_false hgt]
        simpa using hys
    intro D18 h18 tk18 ys18 led18 F18 N18 hled18 hoff18 ⟨hyl18, hys18⟩
    rw [hys1.length, List.take_length] at hys18
    dsimp only
    clear F17 N17
    k_steps
    refine Stop.go ?_
    rename Fr _ _ _ _ => F19
    rename_i N19 l19
    refine ke_eq_ints (ns := _) (ms := []) (N19.isList (List.Mem.tail _ List.mem_cons_self)) (N19.isList List.mem_cons_self) hys18 .nil (by ktr_units) ?_
    obtain ⟨led20, N20, hk20⟩ : ∃ led20, News s1.heap s1.heap.objs.size _ led20 ∧ ∀ q ∈ led16, q ∈ led20 := ⟨_, N19, fun q hq => List.Mem.tail _ (List.Mem.tail _ (hled18 _ hq))⟩
    clear N19 l19 hled18 hoff18 hys18 hyl18
    k_steps
    · have hb1 : (rs.filter fun x => decide ((cs.length : Int) < x)) = [] := by first | assumption | exact of_decide_eq_true (by assumption)
      refine Stop.go ?_
      refine comp_eval (h₀ := s1.heap) (L := s1.heap.objs.size) (cl := [("rows", s1.heap.objs.size + 1)]) (m := fun y => if y = "spots" then some v else if y = "script" then some (.ref sl) else none) (by simp) (by with_unfolding_all rfl) (by decide) rfl (by decide) ?_ (fun _ => rfl)
      have kC' := hk20 _ kC
      k_steps
      refine CGo.list rfl F19 N20 (hk20 _ k2) rfl rfl (by rw [hys2.length, sizeLine_eq]; omega) rfl rfl
        (fun i ys led => ys.length ≤ i ∧ IntsAre ys ((cs.take i).filter fun x => decide ((rs.length : Int) < x))) (fun i ys led h => h.1) ⟨Nat.le_refl _, .nil⟩ ?_ ?_
      · rintro C oC' m₂ i u ys led full h tk hv ⟨hyl, hys⟩ hs1 hs2 hC hoC hma F18 N18
        obtain ⟨c, tc, hc, rfl⟩ := ints_at hys2 hv
        show wpAny _ _ _ _ _ _
        have et : cs.take (i + 1) = cs.take i ++ [c] := by rw [List.take_add_one, hc]; rfl
        k_steps
        refine Stop.go ?_
        refine lcf_cell N18 rfl (hs2 _ (hs1 _ (hk20 _ kR))) cR8 ?_ rfl rfl
        k_steps
        refine Stop.go ?_
        refine call_len_list (N18.isList (hs2 _ (hs1 _ (hk20 _ k1)))) (by rw [List.size_toArray, hys1.length]; omega) ?_
        rw [show ys1.toArray.size = rs.length from (List.size_toArray ..).trans hys1.length]
        k_steps
        · have hgt : (rs.length : Int) < c := by assumption
          refine CEnd.same (by assumption) (by assumption) ⟨by rw [List.length_append]; simp; omega, ?_⟩
          rw [et, List.filter_append, List.filter_cons, decide_eq_true hgt]
          exact IntsAre.append hys (.cons _ _ .nil)
        · have hgt : ¬ (rs.length : Int) < c := by assumption
          refine CEnd.same (by assumption) (by assumption) ⟨by omega, ?_⟩
          rw [et, List.filter_append, List.filter_cons, decide_eq_false hgt]
          simpa using hys
      intro D21 h21 tk21 ys21 led21 F21 N21 hled21 hoff21 ⟨hyl21, hys21⟩
      rw [hys2.length, List.take_length] at hys21
      dsimp only
      clear F19 N20
      k_steps
      refine Stop.go ?_
      rename Fr _ _ _ _ => F22
      rename_i N22 l22
      refine ke_eq_ints (ns := _) (ms := []) (N22.isList (List.Mem.tail _ List.mem_cons_self)) (N22.isList List.mem_cons_self) hys21 .nil (by ktr_units) ?_
      obtain ⟨led23, N23, hk23⟩ : ∃ led23, News s1.heap s1.heap.objs.size _ led23 ∧ ∀ q ∈ led16, q ∈ led23 := ⟨_, N22, fun q hq => List.Mem.tail _ (List.Mem.tail _ (hled21 _ (hk20 _ hq)))⟩
      clear N22 l22 hled21 hoff21 hys21 hyl21
      k_steps
      · have hb2 : (cs.filter fun x => decide ((rs.length : Int) < x)) = [] := by first | assumption | exact of_decide_eq_true (by assumption)
        have hle1 : ∀ x ∈ rs, x ≤ (cs.length : Int) := fun x hx => by
          by_cases h : (cs.length : Int) < x
          · have : x ∈ rs.filter fun x => decide ((cs.length : Int) < x) := List.mem_filter.mpr ⟨hx, decide_eq_true h⟩
            rw [hb1] at this; cases this
          · omega
        have hle2 : ∀ x ∈ cs, x ≤ (rs.length : Int) := fun x hx => by
          by_cases h : (rs.length : Int) < x
          · have : x ∈ cs.filter fun x => decide ((rs.length : Int) < x) := List.mem_filter.mpr ⟨hx, decide_eq_true h⟩
            rw [hb2] at this; cases this
          · omega
        refine Stop.go ?_
        refine comp_eval (h₀ := s1.heap) (L := s1.heap.objs.size) (cl := [("columns", s1.heap.objs.size + 1 + 1)]) (m := fun y => if y = "spots" then some v else if y = "script" then some (.ref sl) else none) (by simp) (by with_unfolding_all rfl) (by decide) rfl (by decide) ?_ (fun _ => rfl)
        have kR' := hk23 _ kR
        k_steps
        refine CGo.list rfl F22 N23 (hk23 _ k1) rfl rfl (by rw [hys1.length, sizeLine_eq]; omega) rfl rfl
          (fun i ys led => ys.length = i ∧ IntsAre ys ((rs.take i).map fun x => (cs.length : Int) - x)) (fun i ys led h => Nat.le_of_eq h.1) ⟨rfl, .nil⟩ ?_ ?_
        · rintro C oC' m₂ i u ys led full h tk hv ⟨hyl, hys⟩ hs1 hs2 hC hoC hma F18 N18
          obtain ⟨c, tc, hc, rfl⟩ := ints_at hys1 hv
          show wpAny _ _ _ _ _ _
          have et : rs.take (i + 1) = rs.take i ++ [c] := by rw [List.take_add_one, hc]; rfl
          k_steps
          refine Stop.go ?_
          refine lcf_cell N18 rfl (hs2 _ (hs1 _ (hk23 _ kC))) cC9 ?_ rfl rfl
          k_steps
          refine Stop.go ?_
          refine call_len_list (N18.isList (hs2 _ (hs1 _ (hk23 _ k2)))) (by rw [List.size_toArray, hys2.length]; omega) ?_
          rw [show ys2.toArray.size = cs.length from (List.size_toArray ..).trans hys2.length]
          k_steps
          refine CEnd.same (by assumption) (by assumption) ⟨by rw [List.length_append, hyl]; rfl, ?_⟩
          rw [et, List.map_append]
          exact IntsAre.append hys (.cons _ _ .nil)
        intro DL h24 tk24 ysL led24 F24 N24 hled24 hoff24 ⟨hylL, hysL⟩
        rw [hys1.length, List.take_length] at hysL
        obtain ⟨led25, N25, hk25, hDL⟩ : ∃ led25, News s1.heap s1.heap.objs.size h24 led25 ∧ (∀ q ∈ led16, q ∈ led25) ∧ (DL, lst ysL) ∈ led25 := ⟨_, N24, fun q hq => List.Mem.tail _ (hled24 _ (hk23 _ hq)), List.mem_cons_self⟩
        clear N24 hled24 hoff24 hylL F22 N23
        dsimp only
        k_steps
        refine Stop.go ?_
        refine comp_eval (h₀ := s1.heap) (L := s1.heap.objs.size) (cl := [("rows", s1.heap.objs.size + 1)]) (m := fun y => if y = "spots" then some v else if y = "script" then some (.ref sl) else none) (by simp) (by with_unfolding_all rfl) (by decide) rfl (by decide) ?_ (fun _ => rfl)
        have kC' := hk25 _ kC
        k_steps
        refine CGo.list rfl F24 N25 (hk25 _ k2) rfl rfl (by rw [hys2.length, sizeLine_eq]; omega) rfl rfl
          (fun i ys led => ys.length = i ∧ IntsAre ys ((cs.take i).map fun x => (rs.length : Int) - x)) (fun i ys led h => Nat.le_of_eq h.1) ⟨rfl, .nil⟩ ?_ ?_
        · rintro C oC' m₂ i u ys led full h tk hv ⟨hyl, hys⟩ hs1 hs2 hC hoC hma F18 N18
          obtain ⟨c, tc, hc, rfl⟩ := ints_at hys2 hv
          show wpAny _ _ _ _ _ _
          have et : cs.take (i + 1) = cs.take i ++ [c] := by rw [List.take_add_one, hc]; rfl
          k_steps
          refine Stop.go ?_
          refine lcf_cell N18 rfl (hs2 _ (hs1 _ (hk25 _ kR))) cR8 ?_ rfl rfl
          k_steps
          refine Stop.go ?_
          refine call_len_list (N18.isList (hs2 _ (hs1 _ (hk25 _ k1)))) (by rw [List.size_toArray, hys1.length]; omega) ?_
          rw [show ys1.toArray.size = rs.length from (List.size_toArray ..).trans hys1.length]
          k_steps
          refine CEnd.same (by assumption) (by assumption) ⟨by rw [List.length_append, hyl]; rfl, ?_⟩
          rw [et, List.map_append]
          exact IntsAre.append hys (.cons _ _ .nil)
        intro DR h26 tk26 ysR led26 F26 N26 hled26 hoff26 ⟨hylR, hysR⟩
        rw [hys2.length, List.take_length] at hysR
        obtain ⟨led27, N27, hk27, hDL, hDR⟩ : ∃ led27, News s1.heap s1.heap.objs.size h26 led27 ∧ (∀ q ∈ led16, q ∈ led27) ∧ (DL, lst ysL) ∈ led27 ∧ (DR, lst ysR) ∈ led27 :=
          ⟨_, N26, fun q hq => List.Mem.tail _ (hled26 _ (hk25 _ hq)), List.Mem.tail _ (hled26 _ hDL), List.mem_cons_self⟩
        clear N26 hled26 hoff26 hylR F24 N25
        dsimp only
        k_steps
        refine Stop.go ?_
        rename Fr _ _ _ _ => F28
        rename News _ _ _ _ => N28
        have hsL : Small (rs.map fun x => (cs.length : Int) - x) := ⟨by rw [List.length_map]; exact hrl, fun y hy => by
          obtain ⟨x, hx, rfl⟩ := List.mem_map.mp hy
          have := hr4 x hx; have := hle1 x hx; omega⟩
        have hsR : Small (cs.map fun x => (rs.length : Int) - x) := ⟨by rw [List.length_map]; exact hcl, fun y hy => by
          obtain ⟨x, hx, rfl⟩ := List.mem_map.mp hy
          have := hc4 x hx; have := hle2 x hx; omega⟩
        obtain ⟨led29, N29, hk29, hDL, hDR⟩ : ∃ led29, News s1.heap s1.heap.objs.size _ led29 ∧ (∀ q ∈ led16, q ∈ led29) ∧ (DL, lst ysL) ∈ led29 ∧ (DR, lst ysR) ∈ led29 :=
          ⟨_, N28, fun q hq => List.Mem.tail _ (hk27 q hq), List.Mem.tail _ hDL, List.Mem.tail _ hDR⟩
        refine' laid_ct _ _ _ _ _ _ _ _ _ _ _ _ _ _ _ _ _ _ ?B ?F ?X ?N ?T rfl DL DR ysL ysR _ _ _ _ hDL hysL hDR hysR hsL.1 (Nat.le_trans hsR.1 (show 4 ≤ 8 by decide)) (fun r hr => (hsL.2 r hr).1) ?hd ?hu ?_
        case B => exact K0
        case F => exact F28
        case X => exact KX
        case N => exact N29
        case T => exact T1
        case hd => ktr_room
        case hu => ktr_units
        intro v30 h30 tk30 led30 F30 N30 keep30 hv30
        have hk30 : ∀ q ∈ led16, q ∈ led30 := fun q hq => keep30 q (hk29 q hq)
        clear N28 F28 N29 keep30 hDL hDR hk29
        k_steps
        refine isnot_none hv30 ?_
        k_steps
        refine isnot_none hv16 ?_
        have e30 : (laid (rs.map fun x => (cs.length : Int) - x) (cs.map fun x => (rs.length : Int) - x)).isSome = (laid rs cs).isSome := by rw [plain_can hsL hsR, plain_compl hsr hsc hle1 hle2, plain_can hsr hsc]
        rw [e30]
        clear hv30 e30
        k_steps
        refine ⟨rfl, _, _, _, _, rfl, F30, N30, rfl, hk30⟩
      · refine ⟨rfl, _, _, _, _, rfl, F22, N23, rfl, hk23⟩
    · refine ⟨rfl, _, _, _, _, rfl, F19, N20, rfl, hk20⟩
  obtain ⟨rfl, h31, tk31, m31, led31, rfl, F31, N31, ms31, hk31⟩ := hq
  have hv31 := hv16.mono hk31
  have kR := hk31 _ kR
  have kC := hk31 _ kC
  have k1 := hk31 _ k1
  have k2 := hk31 _ k2
  clear F17 N17 hv16 hk31
  dsimp only
  cases hlaid : laid rs cs with
  | none =>
    rw [hlaid] at hv31
    cases (hv31 : v = .none)
    k_steps
    (try dsimp only)
    k_unfold
    exact goodW_bool F31 hg0 (fun _ => rfl) (post_true ns)
  | some sp =>
    rw [hlaid] at hv31
    obtain ⟨S, spits, nS, rfl, hS, hsp⟩ := hv31
    obtain ⟨hsp16, hnd, hin, hrow, hcol⟩ := plain_spots hsr hsc hlaid
    clear hlaid
    k_steps
    refine Stop.go ?_
    have hspl := hsp.length
    refine comp_eval (h₀ := s1.heap) (L := s1.heap.objs.size) (m := m31) (by simp) rfl (by decide) rfl (by decide) ?_ (fun _ => rfl)
    k_steps
    refine CGo.list rfl F31 N31 hS rfl rfl (by rw [sizeLine_eq]; omega) rfl rfl
      (fun i ys led => ys.length = i ∧ ∀ (j : Nat) (u : Value), ys[j]? = some u → ∃ (T : Addr) (x : Value) (t : Tok), u = .ref T ∧ spits[j]? = some x ∧ (T, tupOf #[x, .int 1 t] 0) ∈ led) (fun i ys led h => Nat.le_of_eq h.1) ⟨rfl, fun j u e => by simp at e⟩ ?_ ?_
    · rintro C oC' m₂ i u ys led full h tk hv ⟨hyl, hys⟩ hs1 hs2 hC hoC hma F18 N18
      show wpAny _ _ _ _ _ _
      k_steps
      rename_i T5 h5 F5 N5 l5
      refine ⟨_, _, [(T5, tupOf #[u, .int 1 tk] 0)], rfl, F5, N5, fun p hp q hq => ?_, by rw [List.length_append, hyl]; rfl, fun j y e => ?_⟩
      · rw [List.mem_singleton.mp hp]; exact Nat.ne_of_gt (l5 q hq)
      · rcases Nat.lt_or_ge j ys.length with hj | hj
        · rw [List.getElem?_append_left hj] at e
          obtain ⟨T1, x1, t1, e1, e2, e3⟩ := hys j y e
          exact ⟨T1, x1, t1, e1, e2, List.mem_append_right _ e3⟩
        · rw [List.getElem?_append_right hj] at e
          have hj0 : j - ys.length = 0 := by
            have := (List.getElem?_eq_some_iff.mp e).1
            simp at this; omega
          rw [hj0] at e
          have hji : j = i := by omega
          simp at e
          exact ⟨T5, u, tk, e.symm, by rw [hji]; exact hv, List.mem_append_left _ List.mem_cons_self⟩
    intro D32 h32 tk32 ys32 led32 F32 N32 hled32 hoff32 ⟨hyl32, hys32⟩
    have hup : PairsUp Challenge.rw_hu0002_01.row.prog w led32 ys32 (sp.map key2) := pairs_up hsp hled32 hyl32 hys32
    dsimp only
    k_steps
    rename Fr _ _ _ _ => F33
    rename News _ _ _ _ => N33
    have hup' : PairsUp Challenge.rw_hu0002_01.row.prog w ((D32, lst ys32) :: led32) ys32 (sp.map key2) := ⟨hup.1, fun j u hu' => by
      obtain ⟨T1, a1, ok1, t1, k1, n1, e1, e2, e3, e4, e5⟩ := hup.2 j u hu'
      exact ⟨T1, a1, ok1, t1, k1, n1, e1, e2, List.Mem.tail _ e3, List.Mem.tail _ e4, e5⟩⟩
    refine dict_pairs rfl (by ktr_units) T1.nolimit F33 N33 List.mem_cons_self hup' (key2_nodup hnd) (by rw [List.length_map]; omega) (fun D34 h34 tk34 led34 F34 N34 T34 keep34 => ?_)
    k_steps
    refine Stop.go ?_
    rename Fr _ _ _ _ => F35
    rename News _ _ _ _ => N35
    refine tal_len T34 N35 (by rw [List.length_map]; omega) (fun t35 tk35 => ?_)
    rw [show (sp.map key2).length = sp.length from List.length_map ..]
    k_steps
    refine Stop.go ?_
    have hS35 := keep34 _ (List.Mem.tail _ (hled32 _ hS))
    have hcc : ∀ q ∈ led31, q ∈ led34 := fun q hq => keep34 _ (List.Mem.tail _ (hled32 _ hq))
    refine call_len_list (N35.isList hS35) (by rw [List.size_toArray, hspl]; omega) ?_
    rw [show spits.toArray.size = sp.length from (List.size_toArray ..).trans hspl]
    clear hup hup' T34 keep34 hled32 hys32 hyl32 hoff32 F33 N33
    k_steps
    · exact absurd rfl (by assumption)
    refine Stop.go ?_
    have kC35 := hcc _ kC
    have kR35 := hcc _ kR
    refine comp_eval (h₀ := s1.heap) (L := s1.heap.objs.size) (m := m31) (by simp) rfl (by decide) rfl (by decide) ?_ (fun _ => rfl)
    k_steps
    refine CGo.list rfl F35 N35 (hcc _ k1) rfl rfl (by rw [hys1.length, sizeLine_eq]; omega) rfl rfl
      (fun i ys led => ys.length = i ∧ ∀ u ∈ ys, ∃ D, u = Value.ref D ∧ Tal Challenge.rw_hu0002_01.row.prog w led D []) (fun i ys led h => Nat.le_of_eq h.1) ⟨rfl, fun u hu => nomatch hu⟩ ?_ ?_
    · rintro C oC' m₂ i u ys led full h tk hv ⟨hyl, hys⟩ hs1 hs2 hC hoC hma F18 N18
      show wpAny _ _ _ _ _ _
      k_steps
      rename_i d5 h5 o5 F5 N5 l5 lo5 hs5 fs5 hi5 fi5
      refine ⟨_, _, [(d5, o5)], rfl, F5, N5, fun p hp q hq => ?_, by rw [List.length_append, hyl]; rfl, fun u' hu' => ?_⟩
      · rw [List.mem_singleton.mp hp]; exact Nat.ne_of_gt (l5 q hq)
      · rcases List.mem_append.mp hu' with hu' | hu'
        · obtain ⟨D, e1, e2⟩ := hys u' hu'
          exact ⟨D, e1, e2.nonIt fun q hq _ => List.mem_append_right _ hq⟩
        · exact ⟨d5, List.mem_singleton.mp hu', tal_empty (List.mem_append_left _ List.mem_cons_self) lo5 hs5⟩
    intro D36 h36 tk36 ys36 led36 F36 N36 hled36 hoff36 ⟨hyl36, hys36⟩
    obtain ⟨led37, N37, hk37, hD36, hys37⟩ : ∃ led37, News s1.heap s1.heap.objs.size h36 led37 ∧ (∀ q ∈ led31, q ∈ led37) ∧ (D36, lst ys36) ∈ led37 ∧ ∀ u ∈ ys36, ∃ D, u = Value.ref D ∧ Tal Challenge.rw_hu0002_01.row.prog w led37 D [] :=
      ⟨_, N36, fun q hq => List.Mem.tail _ (hled36 _ (hcc q hq)), List.mem_cons_self, fun u hu => by obtain ⟨D, e1, e2⟩ := hys36 u hu; exact ⟨D, e1, e2.nonIt fun q hq _ => List.Mem.tail _ hq⟩⟩
    have hn1A : R1 ≠ D36 := hoff36 _ (hled36 _ (hcc _ k1))
    have hn2A : R2 ≠ D36 := hoff36 _ (hled36 _ (hcc _ k2))
    clear N36 hled36 hoff36 hys36 hcc F35 N35 kC35 kR35
    dsimp only
    k_steps
    refine Stop.go ?_
    have kC37 := hk37 _ kC
    have kR37 := hk37 _ kR
    refine comp_eval (h₀ := s1.heap) (L := s1.heap.objs.size) (m := m31) (by simp) rfl (by decide) rfl (by decide) ?_ (fun _ => rfl)
    k_steps
    refine CGo.list rfl F36 N37 (hk37 _ k2) rfl rfl (by rw [hys2.length, sizeLine_eq]; omega) rfl rfl
      (fun i ys led => ys.length = i ∧ ∀ u ∈ ys, ∃ D, u = Value.ref D ∧ Tal Challenge.rw_hu0002_01.row.prog w led D []) (fun i ys led h => Nat.le_of_eq h.1) ⟨rfl, fun u hu => nomatch hu⟩ ?_ ?_
    · rintro C oC' m₂ i u ys led full h tk hv ⟨hyl, hys⟩ hs1 hs2 hC hoC hma F18 N18
      show wpAny _ _ _ _ _ _
      k_steps
      rename_i d5 h5 o5 F5 N5 l5 lo5 hs5 fs5 hi5 fi5
      refine ⟨_, _, [(d5, o5)], rfl, F5, N5, fun p hp q hq => ?_, by rw [List.length_append, hyl]; rfl, fun u' hu' => ?_⟩
      · rw [List.mem_singleton.mp hp]; exact Nat.ne_of_gt (l5 q hq)
      · rcases List.mem_append.mp hu' with hu' | hu'
        · obtain ⟨D, e1, e2⟩ := hys u' hu'
          exact ⟨D, e1, e2.nonIt fun q hq _ => List.mem_append_right _ hq⟩
        · exact ⟨d5, List.mem_singleton.mp hu', tal_empty (List.mem_append_left _ List.mem_cons_self) lo5 hs5⟩
    intro D38 h38 tk38 ys38 led38 F38 N38 hled38 hoff38 ⟨hyl38, hys38⟩
    have hD36' := hD36
    obtain ⟨led39, N39, hk39, hD36, hD38, hA, hB⟩ : ∃ led39, News s1.heap s1.heap.objs.size h38 led39 ∧ (∀ q ∈ led31, q ∈ led39) ∧ (D36, lst ys36) ∈ led39 ∧ (D38, lst ys38) ∈ led39 ∧
        (∀ u ∈ ys36, ∃ D, u = Value.ref D ∧ Tal Challenge.rw_hu0002_01.row.prog w led39 D []) ∧ (∀ u ∈ ys38, ∃ D, u = Value.ref D ∧ Tal Challenge.rw_hu0002_01.row.prog w led39 D []) :=
      ⟨_, N38, fun q hq => List.Mem.tail _ (hled38 _ (hk37 q hq)), List.Mem.tail _ (hled38 _ hD36), List.mem_cons_self, fun u hu => by obtain ⟨D, e1, e2⟩ := hys37 u hu; exact ⟨D, e1, e2.nonIt fun q hq _ => List.Mem.tail _ (hled38 _ hq)⟩,
        fun u hu => by obtain ⟨D, e1, e2⟩ := hys38 u hu; exact ⟨D, e1, e2.nonIt fun q hq _ => List.Mem.tail _ hq⟩⟩
    have hne68 : D36 ≠ D38 := hoff38 _ (hled38 _ hD36')
    have hn1B : R1 ≠ D38 := hoff38 _ (hled38 _ (hk37 _ k1))
    have hn2B : R2 ≠ D38 := hoff38 _ (hled38 _ (hk37 _ k2))
    clear N38 hled38 hoff38 hys38 hys37 F36 N37 kC37 kR37 hk37
    dsimp only
    k_steps
    refine Stop.go ?_
    rename Fr _ _ _ _ => F40
    rename News _ _ _ _ => N40
    obtain ⟨led40, N40, hk40, hD36, hD38, hA, hB⟩ : ∃ led40, News s1.heap s1.heap.objs.size _ led40 ∧ (∀ q ∈ led31, q ∈ led40) ∧ (D36, lst ys36) ∈ led40 ∧ (D38, lst ys38) ∈ led40 ∧
        (∀ u ∈ ys36, ∃ D, u = Value.ref D ∧ Tal Challenge.rw_hu0002_01.row.prog w led40 D []) ∧ (∀ u ∈ ys38, ∃ D, u = Value.ref D ∧ Tal Challenge.rw_hu0002_01.row.prog w led40 D []) :=
      ⟨_, N40, fun q hq => List.Mem.tail _ (hk39 q hq), List.Mem.tail _ hD36, List.Mem.tail _ hD38, fun u hu => by obtain ⟨D, e1, e2⟩ := hA u hu; exact ⟨D, e1, e2.nonIt fun q hq _ => List.Mem.tail _ hq⟩,
        fun u hu => by obtain ⟨D, e1, e2⟩ := hB u hu; exact ⟨D, e1, e2.nonIt fun q hq _ => List.Mem.tail _ hq⟩⟩
    refine For_turns F40 ?_
    k_steps
    refine Stop.go ?_
    refine krv_lit F40 N40 (N40.isList (hk40 _ hS)) (IsPart.int _ _) rfl ?_ (by with_unfolding_all rfl) (by intro _; with_unfolding_all rfl) (by rw [List.size_toArray, sizeLine_eq]; omega)
    intro D41 h41 F41 N41 l41
    have hsp41 := (hsp.mono fun q hq _ => hk40 q hq).rev
    refine iter_listTurns rfl F41 N41 List.mem_cons_self rfl rfl (fun I hI => ?_)
    refine items_invO [(s1.heap.objs.size + 1, oR8), (s1.heap.objs.size + 1 + 1, oC9)] (fun q hq x hx => ?_) (fun p hp o ho => ?_)
      (fun xs m₁ led => ∃ (done rest : List (Int × Int)) (vs' ysA ysB : List Value), xs = vs'.map .val ∧ sp.reverse = done ++ rest ∧ PsAt led vs' rest ∧ m₁ "across" = some (.ref D36) ∧ m₁ "down" = some (.ref D38) ∧
        LstAt led D36 ysA ∧ LstAt led D38 ysB ∧ Tals Challenge.rw_hu0002_01.row.prog w led ysA ((List.range rs.length).map (rowKs done)) ∧ Tals Challenge.rw_hu0002_01.row.prog w led ysB ((List.range cs.length).map (colKs done)) ∧
        (s1.heap.objs.size + 1, oR8) ∈ led ∧ (s1.heap.objs.size + 1 + 1, oC9) ∈ led ∧ (R1, lst ys1) ∈ led ∧ (R2, lst ys2) ∈ led)
      ?_ ?_ ?_ ?_ _ _ _ ?_ ?_
    · rw [List.mem_singleton.mp hx]
      refine Nat.ne_of_lt (hI q (List.Mem.tail _ (hk40 _ ?_)))
      simp only [List.mem_cons, List.not_mem_nil, or_false] at hq
      rcases hq with rfl | rfl
      · exact kR
      · exact kC
    · rw [List.mem_singleton.mp hp] at ho; exact not_nonIt ho (by simp)
    · rintro xs m₁ led led' ⟨done, rest, vs', ysA, ysB, h1, h2, h3, h4, h5, h6, h7, h8, h9, h10, h11, h12, h13⟩ hs
      have hs' : ∀ q ∈ led, nonIt q.2 → q ∈ led' := fun q hq hn => hs q hq (.inl hn)
      exact ⟨done, rest, vs', ysA, ysB, h1, h2, h3.nonIt hs', h4, h5, h6.nonIt hs', h7.nonIt hs', h8.nonIt hs', h9.nonIt hs', hs _ h10 (.inr List.mem_cons_self), hs _ h11 (.inr (List.Mem.tail _ List.mem_cons_self)), hs' _ h12 (nonIt_list rfl), hs' _ h13 (nonIt_list rfl)⟩
    · intro p hp; rw [List.mem_singleton.mp hp]; exact nonIt_list rfl
    · rintro a r m₂ led u h tk its ⟨done, rest, vs', ysA, ysB, hxs, hdr, hvs, mA, mB, hDA, hDB, hTA, hTB, cR', cC', r1', r2'⟩ hkeep hits hv F2 N2
      cases hvs with
      | nil => cases hxs
      | @cons u' p vs'' rest' hpv hvs' =>
        simp only [List.map_cons, List.cons.injEq] at hxs
        obtain ⟨rfl, rfl⟩ := hxs
        obtain rfl : u = u' := hv
        obtain ⟨Ta, t1, t2, nt, rfl, hTm⟩ := hpv
        have hT : IsTup h Ta #[.int p.1 t1, .int p.2 t2] := N2.isTup hTm
        have hpin : p ∈ sp := List.mem_reverse.mp (by rw [hdr]; exact List.mem_append_right _ List.mem_cons_self)
        obtain ⟨hj0, hj1, hk0, hk1⟩ := hin p hpin
        have offA : ∀ q ∈ led, q.2.cls = .type "dict" ∨ q.2.cls = .type "tuple" → q.1 ≠ D36 := fun q hq hc => hDA.off N2 hq hc
        have offB : ∀ q ∈ led, q.2.cls = .type "dict" ∨ q.2.cls = .type "tuple" → q.1 ≠ D38 := fun q hq hc => hDB.off N2 hq hc
        have offAi : ∀ q ∈ led, ¬ nonIt q.2 → q.1 ≠ D36 := fun q hq hc => hDA.offN N2 hq hc
        have offBi : ∀ q ∈ led, ¬ nonIt q.2 → q.1 ≠ D38 := fun q hq hc => hDB.offN N2 hq hc
        have cRA : s1.heap.objs.size + 1 ≠ D36 := hDA.off' N2 cR' (fun _ _ e => by rw [cR8] at e; cases e)
        have cRB : s1.heap.objs.size + 1 ≠ D38 := hDB.off' N2 cR' (fun _ _ e => by rw [cR8] at e; cases e)
        have cCA : s1.heap.objs.size + 1 + 1 ≠ D36 := hDA.off' N2 cC' (fun _ _ e => by rw [cC9] at e; cases e)
        have cCB : s1.heap.objs.size + 1 + 1 ≠ D38 := hDB.off' N2 cC' (fun _ _ e => by rw [cC9] at e; cases e)
        clear F40 N40 F41 N41
        obtain ⟨jn, hjn⟩ : ∃ jn : Nat, p.1 = (jn : Int) := ⟨p.1.toNat, by omega⟩
        obtain ⟨kn, hkn⟩ : ∃ kn : Nat, p.2 = (kn : Int) := ⟨p.2.toNat, by omega⟩
        have hjl : jn < rs.length := by omega
        have hkl : kn < cs.length := by omega
        obtain ⟨DA, hDAj, hTAj⟩ := hTA.at (j := jn) (ks := rowKs done jn) (by rw [List.getElem?_map, List.getElem?_range hjl]; rfl)
        rw [hjn] at hT
        rw [hkn] at hT
        k_steps
        refine Stop.go ?_
        rename Fr _ _ _ _ => F3
        rename News _ _ _ _ => N3
        have hlt3 := fun (q : Addr × Obj) (hq : q ∈ led) => Heap.lt_size (N3 q hq).1
        refine getItem_led (hDA.isList N3) (by omega) (by omega) (by rw [Int.toNat_natCast]; exact hDAj) ?_
        k_steps
        refine Stop.go ?_
        refine Dict_tup_made (by rfl) F3 N3 (modules_low T1.nolimit) (by rfl) (by rfl) (List.cons_ne_nil _ _) (by decide) ?_
        intro o4 F4 N4 lo4 hd4
        k_steps
        refine Stop.go ?_
        rename Fr _ _ _ _ => F5
        rename_i T5 h5 N5 l5
        refine tal_store1 (k := keyC p) (by ktr_units) F5 N5 (tal_empty (List.Mem.tail _ List.mem_cons_self) lo4 hd4) List.mem_cons_self (keyC_obj hkn) (fun h6 o6 tk6 hc6 F6 N6 T6 => ?_)
        obtain ⟨led7, N7, T7, hk7⟩ : ∃ led7, News s1.heap s1.heap.objs.size h6 led7 ∧ Tal Challenge.rw_hu0002_01.row.prog w led7 _ [keyC p] ∧ ∀ q ∈ led, q ∈ led7 :=
          ⟨_, N6, T6, fun q hq => mem_upd (List.Mem.tail _ (List.Mem.tail _ hq)) (Nat.ne_of_lt (hlt3 q hq))⟩
        clear N6 T6 N5 F5
        k_steps
        refine Stop.go ?_
        have hndr : (done ++ [p]).Nodup := (by
          have e : (done ++ p :: rest').Nodup := hdr ▸ (List.reverse_perm sp).nodup_iff.mpr hnd
          rw [List.append_cons] at e
          exact (List.nodup_append.mp e).1)
        have hdl : (done ++ [p]).length ≤ 1000 := (by
          have e := congrArg List.length hdr
          simp only [List.length_reverse, List.length_append, List.length_cons, List.length_nil] at e ⊢
          omega)
        refine' add_ct _ _ _ _ _ _ _ _ _ _ _ _ _ _ _ _ _ _ ?B ?F ?X ?N ?T rfl DA _ (rowKs done jn) [keyC p] (hTAj.nonIt fun q hq _ => hk7 q hq) T7 ?hnd ?hlen ?hd ?hu ?_
        case B => exact K0
        case F => exact F6
        case X => exact KX
        case N => exact N7
        case T => exact T1
        case hnd => rw [← rowKs_app hjn]; exact rowKs_nodup hndr jn
        case hlen => rw [← rowKs_app hjn]; exact Nat.le_trans (rowKs_len _ _) hdl
        case hd => ktr_room
        case hu => ktr_units
        rw [← rowKs_app hjn]
        intro DA' h8 tk8 led8 F8 N8 keep8 T8
        have hDA8 : LstAt led8 D36 ysA := hDA.nonIt fun q hq _ => keep8 q (hk7 q hq)
        k_steps
        refine Stop.go ?_
        rename Fr _ _ _ _ => F9
        rename News _ _ _ _ => N9
        refine set_led F9 N9 hDA8 (by rw [hTA.1, List.length_map, List.length_range]; exact hjl) (by rw [hTA.1, List.length_map, List.length_range]; omega) (fun h10 led10 F10 N10 hDA10 up10 => ?_)
        have dt8 : ∀ q ∈ led8, q.2.cls = .type "dict" ∨ q.2.cls = .type "tuple" → q ∈ led10 := fun q hq hc => up10 q hq (hDA8.off N9 hq hc)
        have all8 : ∀ q ∈ led, q ∈ led8 := fun q hq => keep8 q (hk7 q hq)
        have hTA10 : Tals Challenge.rw_hu0002_01.row.prog w led10 (ysA.set jn (.ref DA')) ((List.range rs.length).map (rowKs (done ++ [p]))) := by
          rw [← rowKs_snoc done p rs.length jn hjn, ← rowKs_app hjn]
          exact (hTA.mono fun q hq hc => dt8 q (all8 q hq) hc).set (T8.mono dt8) jn
        have hTB10 : Tals Challenge.rw_hu0002_01.row.prog w led10 ysB ((List.range cs.length).map (colKs done)) := hTB.mono fun q hq hc => dt8 q (all8 q hq) hc
        k_steps
        refine Stop.go ?_
        rename Fr _ _ _ _ => F11
        rename News _ _ _ _ => N11
        have hlt11 := fun (q : Addr × Obj) (hq : q ∈ led10) => Heap.lt_size (N11 q hq).1
        refine Dict_tup_made (by rfl) F11 N11 (modules_low T1.nolimit) (by rfl) (by rfl) (List.cons_ne_nil _ _) (by decide) ?_
        intro o12 F12 N12 lo12 hd12
        k_steps
        refine Stop.go ?_
        rename Fr _ _ _ _ => F13
        rename_i T13 h13 N13 l13
        refine tal_store1 (k := keyR p) (by ktr_units) F13 N13 (tal_empty (List.Mem.tail _ List.mem_cons_self) lo12 hd12) List.mem_cons_self (keyR_obj hjn) (fun h14 o14 tk14 hc14 F14 N14 T14 => ?_)
        obtain ⟨led14, N14, T14, hk14⟩ : ∃ led14, News s1.heap s1.heap.objs.size h14 led14 ∧ Tal Challenge.rw_hu0002_01.row.prog w led14 _ [keyR p] ∧ ∀ q ∈ led10, q ∈ led14 :=
          ⟨_, N14, T14, fun q hq => mem_upd (List.Mem.tail _ (List.Mem.tail _ hq)) (Nat.ne_of_lt (hlt11 q hq))⟩
        have hDB10 : LstAt led10 D38 ysB := (by
          obtain ⟨oB, nB, hm, hc, hd⟩ := hDB
          exact ⟨oB, nB, up10 _ (all8 _ hm) (Ne.symm hne68), hc, hd⟩)
        have hDB14 : LstAt led14 D38 ysB := hDB10.nonIt fun q hq _ => hk14 q hq
        obtain ⟨DB, hDBk, hTBk⟩ := hTB10.at (j := kn) (ks := colKs done kn) (by rw [List.getElem?_map, List.getElem?_range hkl]; rfl)
        k_steps
        refine Stop.go ?_
        rename Fr _ _ _ _ => F15
        rename News _ _ _ _ => N15
        refine getItem_led (hDB14.isList N15) (by omega) (by omega) (by rw [Int.toNat_natCast]; exact hDBk) ?_
        k_steps
        refine Stop.go ?_
        refine' add_ct _ _ _ _ _ _ _ _ _ _ _ _ _ _ _ _ _ _ ?B ?F ?X ?N ?T rfl _ DB [keyR p] (colKs done kn) T14 (hTBk.nonIt fun q hq _ => hk14 q hq) ?hnd ?hlen ?hd ?hu ?_
        case B => exact K0
        case F => exact F15
        case X => exact KX
        case N => exact N15
        case T => exact T1
        case hnd => rw [← colKs_app hkn]; exact colKs_nodup hndr kn
        case hlen => rw [← colKs_app hkn]; exact Nat.le_trans (colKs_len _ _) hdl
        case hd => ktr_room
        case hu => ktr_units
        rw [← colKs_app hkn]
        intro DB' h16 tk16' led16' F16 N16 keep16 T16
        have hDB16 : LstAt led16' D38 ysB := hDB14.nonIt fun q hq _ => keep16 q hq
        k_steps
        refine Stop.go ?_
        rename Fr _ _ _ _ => F17
        rename News _ _ _ _ => N17
        refine set_led F17 N17 hDB16 (by rw [hTB.1, List.length_map, List.length_range]; exact hkl) (by rw [hTB.1, List.length_map, List.length_range]; omega) (fun h18 led18 F18 N18 hDB18 up18 => ?_)
        have dt16 : ∀ q ∈ led16', q.2.cls = .type "dict" ∨ q.2.cls = .type "tuple" → q ∈ led18 := fun q hq hc => up18 q hq (hDB16.off N17 hq hc)
        have all16 : ∀ q ∈ led10, q ∈ led16' := fun q hq => keep16 q (hk14 q hq)
        have hTA18 : Tals Challenge.rw_hu0002_01.row.prog w led18 (ysA.set jn (.ref DA')) ((List.range rs.length).map (rowKs (done ++ [p]))) := hTA10.mono fun q hq hc => dt16 q (all16 q hq) hc
        have hTB18 : Tals Challenge.rw_hu0002_01.row.prog w led18 (ysB.set kn (.ref DB')) ((List.range cs.length).map (colKs (done ++ [p]))) := by
          rw [← colKs_snoc done p cs.length kn hkn, ← colKs_app hkn]
          exact (hTB10.mono fun q hq hc => dt16 q (all16 q hq) hc).set (T16.mono dt16) kn
        k_steps
        have carry : ∀ q ∈ led, q.1 ≠ D36 → q.1 ≠ D38 → q ∈ led18 := fun q hq h1 h2 => up18 q (all16 q (up10 q (all8 q hq) h1)) h2
        have hDA18 : LstAt led18 D36 (ysA.set jn (.ref DA')) := (by
          obtain ⟨oA, nA, hm, hc, hd⟩ := hDA10
          exact ⟨oA, nA, up18 _ (all16 _ hm) hne68, hc, hd⟩)
        have c41a : D41 ≠ D36 := Nat.ne_of_gt (l41 _ hD36)
        have c41b : D41 ≠ D38 := Nat.ne_of_gt (l41 _ hD38)
        refine (show TEnd _ _ _ _ _ _ from ⟨_, _, _, _, rfl, by assumption, by assumption, fun q hq => ?_, ?_⟩)
        · rcases List.mem_cons.mp hq with rfl | hq
          · exact carry _ (hkeep _ List.mem_cons_self) c41a c41b
          · obtain ⟨h1, h2⟩ := hits q hq
            exact carry q h1 (offAi q h1 h2) (offBi q h1 h2)
        refine ⟨done ++ [p], rest', vs'', ysA.set jn (.ref DA'), ysB.set kn (.ref DB'), rfl, by rw [hdr]; simp, ?_, ?_, ?_, hDA18, hDB18, hTA18, hTB18, ?_, ?_, ?_, ?_⟩
        · exact hvs'.mono fun q hq hc => carry q hq (offA q hq (.inr hc)) (offB q hq (.inr hc))
        · exact mA
        · exact mB
        · exact carry _ cR' cRA cRB
        · exact carry _ cC' cCA cCB
        · exact carry _ r1' hn1A hn1B
        · exact carry _ r2' hn2A hn2B
    · rintro m₂ led h tk ⟨done, rest, vs', ysA, ysB, hxs, hdr, hvs, mA, mB, hDA, hDB, hTA, hTB, cR', cC', r1', r2'⟩ F2 N2
      obtain rfl : vs' = [] := by cases vs' with | nil => rfl | cons a b => cases hxs
      cases hvs
      rw [List.append_nil] at hdr
      subst hdr
      clear F40 N40 F41 N41
      dsimp only
      k_steps
      refine Stop.go ?_
      obtain ⟨oA, nA, hmA, hcA, hdA⟩ := hDA
      refine comp_eval (h₀ := s1.heap) (L := s1.heap.objs.size) (m := m₂) (by simp) rfl (by decide) rfl (by decide) ?_ (fun _ => rfl)
      k_steps
      refine CGo.list rfl F2 N2 hmA hcA hdA (by rw [hTA.1, List.length_map, List.length_range, sizeLine_eq]; omega) rfl rfl
        (fun i ys led => ys.length = i ∧ IntsAre ys (rs.take i)) (fun i ys led h => Nat.le_of_eq h.1) ⟨rfl, .nil⟩ ?_ ?_
      · rintro C oC' m₃ i u ys led full h tk hv ⟨hyl, hys⟩ hs1 hs2 hC hoC hma F18 N18
        obtain ⟨Du, ksu, rfl, hksu, hTu⟩ := hTA.2 i u hv
        have hil : i < rs.length := by have := (List.getElem?_eq_some_iff.mp hv).1; rw [hTA.1, List.length_map, List.length_range] at this; exact this
        rw [List.getElem?_map, List.getElem?_range hil] at hksu
        cases (Option.some.inj hksu : rowKs sp.reverse i = ksu)
        have et : rs.take (i + 1) = rs.take i ++ [((rowKs sp.reverse i).length : Int)] := by rw [List.take_add_one, List.getElem?_eq_getElem hil, rowKs_count, hrow i hil]; rfl
        show wpAny _ _ _ _ _ _
        dsimp only
        k_steps
        refine Stop.go ?_
        refine' count_ct _ _ _ _ _ _ _ _ _ _ _ _ _ _ _ _ _ _ ?B ?F ?X ?N ?T rfl Du (rowKs sp.reverse i) (hTu.nonIt fun q hq _ => hs2 _ (hs1 _ hq)) (Nat.le_trans (rowKs_len _ _) (by rw [List.length_reverse]; omega)) ?hd ?hu ?_
        case B => exact K0
        case F => exact F18
        case X => exact KX
        case N => exact N18
        case T => exact T1
        case hd => ktr_room
        case hu => ktr_units
        intro t20 h20 tk20 led20 F20 N20 keep20
        refine CEnd.same F20 (fun q hq => N20 q (keep20 q hq)) ⟨by rw [List.length_append, hyl]; rfl, ?_⟩
        rw [et]
        exact IntsAre.append hys (.cons _ _ .nil)
      intro D42 h42 tk42 ys42 led42 F42 N42 hled42 hoff42 ⟨hyl42, hys42⟩
      rw [hTA.1, List.length_map, List.length_range, List.take_length] at hys42
      obtain ⟨led43, N43, hk43, hD42⟩ : ∃ led43, News s1.heap s1.heap.objs.size h42 led43 ∧ (∀ q ∈ led, q ∈ led43) ∧ (D42, lst ys42) ∈ led43 :=
        ⟨_, N42, fun q hq => List.Mem.tail _ (hled42 _ hq), List.mem_cons_self⟩
      clear N42 hled42 hoff42 hyl42
      have cR43 := hk43 _ cR'
      have cC43 := hk43 _ cC'
      clear kR kC
      dsimp only
      k_steps
      refine Stop.go ?_
      rename Fr _ _ _ _ => F44
      rename News _ _ _ _ => N44
      refine ke_eq_ints (ns := rs) (ms := rs) (N44.isList hD42) (N44.isList (hk43 _ r1')) hys42 hys1 (by ktr_units) ?_
      rw [show decide (rs = rs) = true from decide_eq_true rfl]
      k_steps
      refine Stop.go ?_
      rename Fr _ _ _ _ => F45
      rename News _ _ _ _ => N45
      obtain ⟨oB, nB, hmB, hcB, hdB⟩ := hDB
      refine comp_eval (h₀ := s1.heap) (L := s1.heap.objs.size) (m := m₂) (by simp) rfl (by decide) rfl (by decide) ?_ (fun _ => rfl)
      k_steps
      refine CGo.list rfl F45 N45 (hk43 _ hmB) hcB hdB (by rw [hTB.1, List.length_map, List.length_range, sizeLine_eq]; omega) rfl rfl
        (fun i ys led => ys.length = i ∧ IntsAre ys (cs.take i)) (fun i ys led h => Nat.le_of_eq h.1) ⟨rfl, .nil⟩ ?_ ?_
      · rintro C oC' m₃ i u ys led full h tk hv ⟨hyl, hys⟩ hs1 hs2 hC hoC hma F18 N18
        obtain ⟨Du, ksu, rfl, hksu, hTu⟩ := hTB.2 i u hv
        have hil : i < cs.length := by have := (List.getElem?_eq_some_iff.mp hv).1; rw [hTB.1, List.length_map, List.length_range] at this; exact this
        rw [List.getElem?_map, List.getElem?_range hil] at hksu
        cases (Option.some.inj hksu : colKs sp.reverse i = ksu)
        have et : cs.take (i + 1) = cs.take i ++ [((colKs sp.reverse i).length : Int)] := by rw [List.take_add_one, List.getElem?_eq_getElem hil, colKs_count, hcol i hil]; rfl
        show wpAny _ _ _ _ _ _
        dsimp only
        k_steps
        refine Stop.go ?_
        refine' count_ct _ _ _ _ _ _ _ _ _ _ _ _ _ _ _ _ _ _ ?B ?F ?X ?N ?T rfl Du (colKs sp.reverse i) (hTu.nonIt fun q hq _ => hs2 _ (hs1 _ (hk43 _ hq))) (Nat.le_trans (colKs_len _ _) (by rw [List.length_reverse]; omega)) ?hd ?hu ?_
        case B => exact K0
        case F => exact F18
        case X => exact KX
        case N => exact N18
        case T => exact T1
        case hd => ktr_room
        case hu => ktr_units
        intro t20 h20 tk20 led20 F20 N20 keep20
        refine CEnd.same F20 (fun q hq => N20 q (keep20 q hq)) ⟨by rw [List.length_append, hyl]; rfl, ?_⟩
        rw [et]
        exact IntsAre.append hys (.cons _ _ .nil)
      intro D46 h46 tk46 ys46 led46 F46 N46 hled46 hoff46 ⟨hyl46, hys46⟩
      rw [hTB.1, List.length_map, List.length_range, List.take_length] at hys46
      obtain ⟨led47, N47, hk47, hD46⟩ : ∃ led47, News s1.heap s1.heap.objs.size h46 led47 ∧ (∀ q ∈ led, q ∈ led47) ∧ (D46, lst ys46) ∈ led47 :=
        ⟨_, N46, fun q hq => List.Mem.tail _ (hled46 _ (hk43 _ hq)), List.mem_cons_self⟩
      clear N46 hled46 hoff46 hyl46 cR43 cC43
      have cC47 := hk47 _ cC'
      dsimp only
      k_steps
      refine Stop.go ?_
      rename Fr _ _ _ _ => F48
      rename News _ _ _ _ => N48
      refine ke_eq_ints (ns := cs) (ms := cs) (N48.isList hD46) (N48.isList (hk47 _ r2')) hys46 hys2 (by ktr_units) ?_
      rw [show decide (cs = cs) = true from decide_eq_true rfl]
      k_steps
      rename Fr _ _ _ _ => F49
      exact goodW_bool F49 hg0 (fun _ => rfl) (post_true ns)
    · exact ⟨[], sp.reverse, spits.reverse, ys36, ys38, rfl, rfl, hsp41.mono fun q hq _ => List.Mem.tail _ hq, rfl, rfl, ⟨_, _, List.Mem.tail _ hD36, rfl, rfl⟩, ⟨_, _, List.Mem.tail _ hD38, rfl, rfl⟩,
        (tals_start (hyl36.trans hys1.length) hA fun _ => rfl).nonIt fun q hq _ => List.Mem.tail _ hq, (tals_start (hyl38.trans hys2.length) hB fun _ => rfl).nonIt fun q hq _ => List.Mem.tail _ hq,
        List.Mem.tail _ (hk40 _ kR), List.Mem.tail _ (hk40 _ kC), List.Mem.tail _ (hk40 _ k1), List.Mem.tail _ (hk40 _ k2)⟩
    · intro p hp; rw [List.mem_singleton.mp hp]; exact List.mem_cons_self)
end Mine
end PartW1
theorem PySem.Challenge.cw_hu0002_01_holds : PySem.Challenge.rw_hu0002_01.Holds :=
  Mine.t
