import PyProof.Rows.All
import Wide.All
import OpenK.AllK
import Wide.FinOn
import PySem.Challenge.RW_dj5003_01
set_option Elab.async false
set_option rowWalk.seconds 1500

section
open PySem PySem.W PyProof.Rows
set_option maxRecDepth 100000
set_option maxHeartbeats 8000000
namespace Mine
open_top hd for PySem.Challenge.rw_dj5003_01
end Mine
end

section
open PySem PySem.W PyProof.Rows
set_option maxRecDepth 100000
set_option maxHeartbeats 8000000
namespace Mine


/-- a call of a def of the text: from a ledger, to a ledger -/
def Says (w : World) (d u : Nat) (f : Value) (pos : List Value) (kw : List (Str × Value)) (led : List (Addr × Obj)) (R : Value → List (Addr × Obj) → Prop) : Prop :=
  ∀ (dp un : Nat) (gd : Option (List Code)) (cn : Str) (cs : Scope) (a : Addr) (ccd : Value) (cl : List (Str × Addr)) (outer : List Env) (A₀ : Around) (base h₀ : Heap) (L : Addr) (m : Str → Option Value)
    (mean : ExcName → Option Value) (mg mb : Str → Option Value) (s : Shared) (Q E : Value → Shared → Prop),
    Below A₀ base outer h₀ → Fr h₀ L s.heap m → (hd.heap_39 w.params).In h₀ → News h₀ L s.heap led → Top hd.view_39 (looseW hd.view_39 [Str.ofString "bisect_right", Str.ofString "bisect_left"]) mean mg mb h₀ → cs.kind = .function → dp + d < recursionLimit → un + u < cLine →
    (∀ r led' h' tk', Fr h₀ L h' m → News h₀ L h' led' → R r led' → Q r { s with heap := h', toks := tk' }) →
    wpAny (model PySem.Challenge.rw_dj5003_01.row.prog w) (ktrTop dp un gd cn cs L a ccd cl outer) (call f pos kw) Q E s

theorem says_use {w : World} {d u : Nat} {f : Value} {pos : List Value} {kw : List (Str × Value)} {led : List (Addr × Obj)} {R : Value → List (Addr × Obj) → Prop}
    {dp un : Nat} {gd : Option (List Code)} {cn : Str} {cs : Scope} {a : Addr} {ccd : Value} {cl : List (Str × Addr)} {outer : List Env} {A₀ : Around} {base h₀ : Heap} {L : Addr} {m : Str → Option Value}
    {mean : ExcName → Option Value} {mg mb : Str → Option Value} {s : Shared} {Q E : Value → Shared → Prop}
    (C : Says w d u f pos kw led R)
    (B : Below A₀ base outer h₀) (F : Fr h₀ L s.heap m) (X : (hd.heap_39 w.params).In h₀) (N : News h₀ L s.heap led) (T : Top hd.view_39 (looseW hd.view_39 [Str.ofString "bisect_right", Str.ofString "bisect_left"]) mean mg mb h₀) (hk : cs.kind = .function) (hd : dp + d < recursionLimit) (hu : un + u < cLine)
    (ret : ∀ r led' h' tk', Fr h₀ L h' m → News h₀ L h' led' → R r led' → Q r { s with heap := h', toks := tk' }) :
    wpAny (model PySem.Challenge.rw_dj5003_01.row.prog w) (ktrTop dp un gd cn cs L a ccd cl outer) (call f pos kw) Q E s :=
  C _ _ _ _ _ _ _ _ _ _ _ _ _ _ _ _ _ _ _ _ B F X N T hk hd hu ret

end Mine
end

section
open PySem PySem.W PyProof.Rows PySem.Calls
set_option maxRecDepth 100000
set_option maxHeartbeats 2000000
namespace Mine
open PySem.AutoSeq1 (wpAny_loadPart')
open PySem.MeetsSeq PySem.MeetsSeq2 PySem.MeetsSeq3

/-- the order of pairs -/
def plt (v t v' t' : Int) : Bool := decide (v < v' ∨ (v = v' ∧ t < t'))

theorem lt_rc_int {A : Around} {E : Value → Shared → Prop} {s : Shared} {prog : Program} {w : World} {a b : Int} {t u : Tok} {Q : Value → Shared → Prop} (h : Q (.bool (decide (a < b))) s) :
    wpAny (model prog w) A (richCompare .Lt (.int a t) (.int b u)) Q E s :=
  show wpAny (model prog w) A (compareOp .Lt (.int a t) (.int b u)) Q E s from lt_int h


theorem lt_step' {dd dd2 : Option Addr} {sl sl2 : Array (Option Value)} {prog : Program} {w : World} {A : Around} {R : Result → Shared → Prop} {s : Shared} (a b : Addr) (items items2 : Array Value) (n n2 i : Nat) (v v' : Int) (tv tv' : Tok) (h1 : items[i]? = some (.int v tv)) (h2 : items2[i]? = some (.int v' tv'))
    (hl : s.heap.get? a = some { cls := .type "list", dict := dd, data := .seq items n, slots := sl }) (hb : s.heap.get? b = some { cls := .type "list", dict := dd2, data := .seq items2 n2, slots := sl2 })
    (he : v = v' → codeAny (model prog w) A (.builtin "list.__eq__.loop" ⟨[.ref a, .ref b, rawInt (i + 1 : Nat), rawInt 0], []⟩) R s) (hn : v ≠ v' → R (.ok (.ret (.bool (decide (v < v'))))) s) :
    codeAny (model prog w) A (.builtin "list.__eq__.loop" ⟨[.ref a, .ref b, rawInt (i : Nat), rawInt 0], []⟩) R s := by
  refine codeAny_builtin entry_eq_loop ?_
  rw [Around.under_plainId plain_eq_loop _]
  obtain ⟨hp, g, d, tk, os⟩ := s
  wp_walk using wpAny_loadPart' hl, wpAny_loadPart' hb
  have hi1 : items[((i : Nat) : Int).toNat]? = some (.int v tv) := by simpa using h1
  have hi2 : items2[((i : Nat) : Int).toNat]? = some (.int v' tv') := by simpa using h2
  rw [hi1, hi2]
  have hc : ((i : Int) + 1) = ((i + 1 : Nat) : Int) := by push_cast; rfl
  refine wpAny_bind (wpAny_eqBool_int ?_)
  by_cases e : v = v'
  · rw [show (v == v') = true by simp [e]]
    wp_walk
    rw [hc]
    exact ⟨plainId_quiet plain_eq_loop _, he e⟩
  · rw [show (v == v') = false by simp [e]]
    wp_walk using wpAny_loadPart' hl, wpAny_loadPart' hb
    rw [hi1, hi2]
    dsimp only
    refine wpAny_bind (lt_rc_int ?_)
    exact wpAny_pure (hn e)

theorem lt_end {dd dd2 : Option Addr} {sl sl2 : Array (Option Value)} {prog : Program} {w : World} {A : Around} {R : Result → Shared → Prop} {s : Shared} (a b : Addr) (items items2 : Array Value) (n n2 i : Nat) (h1 : items[i]? = none) (h2 : items2[i]? = none)
    (hl : s.heap.get? a = some { cls := .type "list", dict := dd, data := .seq items n, slots := sl }) (hb : s.heap.get? b = some { cls := .type "list", dict := dd2, data := .seq items2 n2, slots := sl2 })
    (h : R (.ok (.ret (.bool (decide (items.size < items2.size))))) s) :
    codeAny (model prog w) A (.builtin "list.__eq__.loop" ⟨[.ref a, .ref b, rawInt (i : Nat), rawInt 0], []⟩) R s := by
  refine codeAny_builtin entry_eq_loop ?_
  rw [Around.under_plainId plain_eq_loop _]
  obtain ⟨hp, g, d, tk, os⟩ := s
  wp_walk using wpAny_loadPart' hl, wpAny_loadPart' hb
  have hi1 : items[((i : Nat) : Int).toNat]? = none := by simpa using h1
  have hi2 : items2[((i : Nat) : Int).toNat]? = none := by simpa using h2
  rw [hi1, hi2]
  wp_walk using wpAny_loadPart' hl, wpAny_loadPart' hb
  exact h

theorem list_lt2 {dd dd2 : Option Addr} {sl sl2 : Array (Option Value)} (a b : Addr) (v t v' t' : Int) (tv tt tv' tt' : Tok) (n n2 : Nat) :
    Meets (Builtin.«list.__lt__» ⟨[.ref a, .ref b], []⟩)
      (fun A R s => s.heap.get? a = some { cls := .type "list", dict := dd, data := .seq #[.int v tv, .int t tt] n, slots := sl } ∧ s.heap.get? b = some { cls := .type "list", dict := dd2, data := .seq #[.int v' tv', .int t' tt'] n2, slots := sl2 } ∧
        R (.ok (.ret (.bool (plt v t v' t')))) s) := by
  intro prog w A R s h
  obtain ⟨hl, hb, h⟩ := h
  have key : codeAny (model prog w) A (.builtin "list.__eq__.loop" ⟨[.ref a, .ref b, rawInt (0 : Nat), rawInt 0], []⟩) R s := by
    refine lt_step' a b _ _ n n2 0 v v' tv tv' rfl rfl hl hb (fun e => ?_) (fun e => ?_)
    · refine lt_step' a b _ _ n n2 1 t t' tt tt' rfl rfl hl hb (fun e2 => ?_) (fun e2 => ?_)
      · refine lt_end a b _ _ n n2 2 rfl rfl hl hb ?_
        have : plt v t v' t' = decide ((#[Value.int v tv, Value.int t tt] : Array Value).size < (#[Value.int v' tv', Value.int t' tt'] : Array Value).size) := by
          subst e e2; simp [plt]
        rw [← this]; exact h
      · have : plt v t v' t' = decide (t < t') := by subst e; simp [plt]
        rw [← this]; exact h
    · have : plt v t v' t' = decide (v < v') := by simp [plt, e]
      rw [← this]; exact h
  obtain ⟨hp, g, d, tk, os⟩ := s
  have f3 := AutoSeq1.sub_list_list
  wp_walk using wpAny_loadPart' hl, wpAny_loadPart' hb
  exact ⟨plainId_quiet plain_eq_loop _, key⟩
end Mine
end

section
open PySem PySem.W PyProof.Rows PySem.Calls
set_option maxRecDepth 100000
set_option maxHeartbeats 2000000
namespace Mine

/-- a ledger in which `a` holds `o` anew -/
def lset (led : List (Addr × Obj)) (a : Addr) (o : Obj) : List (Addr × Obj) := (a, o) :: led.filter (fun p => !(p.1 == a))

theorem mem_lset {led : List (Addr × Obj)} {a : Addr} {o : Obj} {p : Addr × Obj} : p ∈ lset led a o ↔ p = (a, o) ∨ (p ∈ led ∧ p.1 ≠ a) := by
  unfold lset
  rw [List.mem_cons, List.mem_filter]
  simp

theorem lset_self {led : List (Addr × Obj)} {a : Addr} {o : Obj} : (a, o) ∈ lset led a o := mem_lset.mpr (.inl rfl)
theorem lset_other {led : List (Addr × Obj)} {a : Addr} {o : Obj} {p : Addr × Obj} (h : p ∈ led) (hn : p.1 ≠ a) : p ∈ lset led a o := mem_lset.mpr (.inr ⟨h, hn⟩)

theorem upd_lset (led : List (Addr × Obj)) (a : Addr) (o o' : Obj) : Upd a o o' (lset led a o) (lset led a o') :=
  Upd.head fun p hp => by
    have := (List.mem_filter.mp hp).2
    simpa using this

theorem news_lset {h₀ h : Heap} {L a : Addr} {o : Obj} {led : List (Addr × Obj)} (N : News h₀ L h led) (hm : (a, o) ∈ led) : News h₀ L h (lset led a o) := fun p hp => by
  rcases mem_lset.mp hp with rfl | ⟨h1, _⟩
  · exact N _ hm
  · exact N _ h1

section
variable {prog : Program} {w : World} {A : Around} {E : Value → Shared → Prop} {s : Shared} {h₀ : Heap} {L l : Addr} {m : Str → Option Value} {led : List (Addr × Obj)} {vs : List Value} {e : Nat} {k : Int} {u : Tok}

theorem N_len {Q : Value → Shared → Prop} (N : News h₀ L s.heap led) (hm : (l, listOf vs.toArray e) ∈ led) (hz : vs.length < 2 ^ 62) (h : Q (.int (vs.length : Nat) (s.toks + 1)) { s with toks := s.toks + 1 + 1 }) :
    wpAny (model prog w) A (call (.builtin "len") [.ref l]) Q E s := by
  have hl : s.heap.IsList l vs.toArray := News.isList N hm
  refine Calls.call_len_list hl (by rw [List.size_toArray]; omega) ?_
  rw [List.size_toArray]
  exact h

theorem N_item {value slice : PySem.Expr} {v : Value} {Q : Value → Shared → Prop} (N : News h₀ L s.heap led) (hm : (l, listOf vs.toArray e) ∈ led) (h0 : 0 ≤ k) (h1 : k < 2 ^ 63) (hx : vs[k.toNat]? = some v) (h : Q v s)
    (hs : subscripted slice false (.ref l) (.int k u) = operate [.ref l, .int k u] (getItem (.ref l) (.int k u)) := by with_unfolding_all rfl) :
    wpAny (model prog w) A (subscriptTail value slice (.ref l) (.int k u)) Q E s :=
  tail_any (News.isList N hm).typeIs slot_list_getitem.lookup (wpAny_getItem_list (News.isList N hm) h0 h1 (by simpa using hx) h) hs

theorem N_itemNeg {value slice : PySem.Expr} {v : Value} {Q : Value → Shared → Prop} (N : News h₀ L s.heap led) (hm : (l, listOf vs.toArray e) ∈ led) (h0 : k < 0) (h1 : -(vs.length : Int) ≤ k) (hf : -(2 ^ 63) ≤ k) (hx : vs[(k + vs.length).toNat]? = some v) (h : Q v s)
    (hs : subscripted slice false (.ref l) (.int k u) = operate [.ref l, .int k u] (getItem (.ref l) (.int k u)) := by with_unfolding_all rfl) :
    wpAny (model prog w) A (subscriptTail value slice (.ref l) (.int k u)) Q E s :=
  tail_any (News.isList N hm).typeIs slot_list_getitem.lookup (wpAny_getItem_list_neg (News.isList N hm) h0 (by simpa using h1) hf (by simpa using hx) h) hs

theorem N_set {v : Value} {Q : Unit → Shared → Prop} (F : Fr h₀ L s.heap m) (N : News h₀ L s.heap led) (hm : (l, listOf vs.toArray e) ∈ led) (h0 : 0 ≤ k) (hn : k < vs.length) (h1 : k < 2 ^ 63)
    (h : ∀ h', Fr h₀ L h' m → News h₀ L h' (lset led l (listOf (vs.set k.toNat v).toArray e)) → Q () { s with heap := h' }) : wpAny (model prog w) A (setItem (.ref l) (.int k u) v) Q E s := by
  have z := N _ hm
  refine ki_setAt z.1 h0 h1 (by rw [List.size_toArray]; exact hn) (h _ (F.change (Heap.SameBut.update ..) z.2.1 z.2.2) ?_)
  obtain ⟨pre, post, e1, e2, a, b⟩ := (upd_lset led l (listOf vs.toArray e) (listOf (vs.set k.toNat v).toArray e)).split
  rw [e2]
  have N' := news_lset N hm
  rw [e1] at N'
  refine ki_turn _ N' a b ?_ ?_
  · show vs.toArray.setIfInBounds k.toNat v = (vs.set k.toNat v).toArray
    apply Array.toList_inj.mp
    simp
  · simp

theorem N_append {v : Value} {Q : Value → Shared → Prop} (F : Fr h₀ L s.heap m) (N : News h₀ L s.heap led) (hm : (l, listOf vs.toArray e) ∈ led) (hz : vs.length < 2 ^ 24)
    (h : ∀ h', Fr h₀ L h' m → News h₀ L h' (lset led l (listOf (vs ++ [v]).toArray (e + 1))) → Q .none { s with heap := h' }) : wpAny (model prog w) A (call (.builtin "list.append") [.ref l, v]) Q E s := by
  refine append_K F (news_lset N hm) (upd_lset led l _ _) (fun h' F' N' => ?_) (by rw [List.size_toArray, sizeLine_eq]; omega)
  refine h h' F' ?_
  have e1 : vs.toArray.push v = (vs ++ [v]).toArray := by simp
  rw [e1] at N'
  exact N'

theorem N_insert {v : Value} {Q : Value → Shared → Prop} (F : Fr h₀ L s.heap m) (N : News h₀ L s.heap led) (hm : (l, listOf vs.toArray e) ∈ led) (hz : vs.length < 2 ^ 24) (h0 : 0 ≤ k) (hn : k ≤ vs.length)
    (h : ∀ h', Fr h₀ L h' m → News h₀ L h' (lset led l (listOf (vs.take k.toNat ++ v :: vs.drop k.toNat).toArray (e + 1))) → Q .none { s with heap := h' }) :
    wpAny (model prog w) A (call (.builtin "list.insert") [.ref l, .int k u, v]) Q E s := by
  refine kl_insert F (news_lset N hm) (fitsIndex_of h0 (by omega)) (l := vs.take k.toNat ++ v :: vs.drop k.toNat) ?_ (upd_lset led l _ _) ?_ (fun h' F' N' => h h' F' N')
  · unfold kl_ins
    have e1 : ¬ k < 0 := by omega
    simp only [e1, if_false]
    have e2 : min k.toNat vs.length = k.toNat := by omega
    simp [e2]
  · rw [sizeLine_eq]; simp; omega

theorem cut_of : ∀ (vs : List Value) (k : Nat) (v : Value), vs[k]? = some v → kl_cut vs k = some (vs.take k, v, vs.drop (k + 1))
  | [], _, _, h => by simp at h
  | x :: r, 0, v, h => by simp at h; subst h; rfl
  | x :: r, k + 1, v, h => by
    have := cut_of r k v (by simpa using h)
    show (match kl_cut r k with | some (p, y, q) => some (x :: p, y, q) | none => none) = _
    rw [this]; rfl

theorem N_pop {v : Value} {Q : Value → Shared → Prop} (F : Fr h₀ L s.heap m) (N : News h₀ L s.heap led) (hm : (l, listOf vs.toArray e) ∈ led) (hz : vs.length < 2 ^ 24) (h0 : 0 ≤ k) (hx : vs[k.toNat]? = some v)
    (h : ∀ h', Fr h₀ L h' m → News h₀ L h' (lset led l (listOf (vs.take k.toNat ++ vs.drop (k.toNat + 1)).toArray (e + 1))) → Q v { s with heap := h' }) :
    wpAny (model prog w) A (call (.builtin "list.pop") [.ref l, .int k u]) Q E s := by
  have hn : k.toNat < vs.length := by
    rcases Nat.lt_or_ge k.toNat vs.length with h1 | h1
    · exact h1
    · rw [List.getElem?_eq_none h1] at hx; cases hx
  refine kl_popAt F (news_lset N hm) (fitsIndex_of h0 (by omega)) (k := k.toNat) (seqIndex_of h0 (by rw [List.size_toArray]; omega)) (cut_of vs k.toNat v hx) (upd_lset led l _ _) ?_ (fun h' F' N' => h h' F' N')
  rw [sizeLine_eq]; simp; omega
end

section
variable {prog : Program} {w : World} {A : Around} {E : Value → Shared → Prop} {s : Shared} {h₀ : Heap} {L a b : Addr} {led : List (Addr × Obj)} {v t v' t' : Int} {tv tt tv' tt' : Tok} {n n2 : Nat}

theorem N_lt_call {dd dd2 : Option Addr} {sl sl2 : Array (Option Value)} {Q : Value → Shared → Prop} (ha : s.heap.get? a = some { cls := .type "list", dict := dd, data := .seq #[.int v tv, .int t tt] n, slots := sl }) (hb : s.heap.get? b = some { cls := .type "list", dict := dd2, data := .seq #[.int v' tv', .int t' tt'] n2, slots := sl2 }) (h : Q (.bool (plt v t v' t')) s) :
    wpAny (model prog w) A (call (.builtin "list.__lt__") [.ref a, .ref b]) Q E s :=
  call_meets (slot_list_lt') ⟨_, ha, rfl⟩ PySem.F.entry_list_lt (PySem.F.args_list_lt_2 _ _) (list_lt2 a b v t v' t' tv tt tv' tt' n n2) ⟨ha, hb, h⟩
where slot_list_lt' : Slot "list" (cmpInfo .Lt).2.1 "list.__lt__" := PySem.F.slot_list_lt

theorem N_lt {Q : Value → Shared → Prop} (hu : A.units < cLine) (ha : s.heap.get? a = some (listOf #[.int v tv, .int t tt] n)) (hb : s.heap.get? b = some (listOf #[.int v' tv', .int t' tt'] n2)) (h : Q (.bool (plt v t v' t')) s) :
    wpAny (model prog w) A (compareOp .Lt (.ref a) (.ref b)) Q E s :=
  show wpAny (model prog w) A (richCompare .Lt (.ref a) (.ref b)) Q E s from
  wpAny_richCompare_same_room (op := .Lt) ⟨_, ha, rfl⟩ ⟨_, hb, rfl⟩ PySem.F.slot_list_lt (N_lt_call ha hb ⟨(fun e => nomatch e), h⟩) hu
end
end Mine
end

section
open PySem PySem.W PyProof.Rows PySem.Calls
set_option maxRecDepth 100000
set_option maxHeartbeats 2000000
namespace Mine

structure It where
  v : Int
  t : Int
  g : Int
  d : Int

def Inner (x : It) (o : Obj) : Prop := ∃ tv tt tg td e, o = listOf #[.int x.v tv, .int x.t tt, .int x.g tg, .int x.d td] e

structure SumAt (led : List (Addr × Obj)) (l : Addr) (as : List Addr) (xs : List It) : Prop where
  main : ∃ e, (l, listOf (as.map Value.ref).toArray e) ∈ led
  len : as.length = xs.length
  nodup : as.Nodup
  out : l ∉ as
  each : ∀ (i : Nat) (a : Addr) (x : It), as[i]? = some a → xs[i]? = some x → ∃ o, (a, o) ∈ led ∧ Inner x o

theorem SumAt.at {led : List (Addr × Obj)} {l : Addr} {as : List Addr} {xs : List It} (S : SumAt led l as xs) {i : Nat} (h : i < xs.length) :
    ∃ a x, as[i]? = some a ∧ (as.map Value.ref)[i]? = some (.ref a) ∧ xs[i]? = some x ∧ ∃ tv tt tg td e, (a, listOf #[.int x.v tv, .int x.t tt, .int x.g tg, .int x.d td] e) ∈ led := by
  have h1 : i < as.length := by rw [S.len]; exact h
  obtain ⟨o, ho, tv, tt, tg, td, e, rfl⟩ := S.each i as[i] xs[i] (by simp [h1]) (by simp [h])
  exact ⟨as[i], xs[i], by simp [h1], by simp [h1], by simp [h], tv, tt, tg, td, e, ho⟩

theorem SumAt.mono {led led' : List (Addr × Obj)} {l : Addr} {as : List Addr} {xs : List It} (S : SumAt led l as xs) (h : ∀ p ∈ led, p ∈ led') : SumAt led' l as xs :=
  ⟨let ⟨e, he⟩ := S.main; ⟨e, h _ he⟩, S.len, S.nodup, S.out, fun i a x h1 h2 => let ⟨o, ho, hi⟩ := S.each i a x h1 h2; ⟨o, h _ ho, hi⟩⟩
theorem SumAt.addr_mem {led : List (Addr × Obj)} {l : Addr} {as : List Addr} {xs : List It} (S : SumAt led l as xs) {a : Addr} (h : a ∈ as) : ∃ o, (a, o) ∈ led := by
  obtain ⟨i, hi⟩ := List.mem_iff_getElem?.mp h
  have h1 : i < as.length := by
    rcases Nat.lt_or_ge i as.length with h1 | h1
    · exact h1
    · rw [List.getElem?_eq_none h1] at hi; cases hi
  obtain ⟨o, ho, _⟩ := S.each i a (xs[i]'(by rw [← S.len]; exact h1)) hi (by simp)
  exact ⟨o, ho⟩

/-- the new entry at a place -/
def newIt (xs : List It) (p : Nat) (v t : Int) : It := ⟨v, t, 1, if p = 0 then 0 else match xs[p]? with | some y => y.g + y.d - 1 | none => 0⟩
def putIt (xs : List It) (p : Nat) (v t : Int) : List It := xs.take p ++ newIt xs p v t :: xs.drop p

theorem SumAt.put {led : List (Addr × Obj)} {l b : Addr} {as : List Addr} {xs : List It} {y : It} {ob : Obj} {e : Nat} {p : Nat} (S : SumAt led l as xs) (hb : (b, ob) ∈ led) (hy : Inner y ob) (hbl : b ≠ l) (hba : b ∉ as) (hp : p ≤ xs.length) :
    SumAt (lset led l (listOf ((as.map Value.ref).take p ++ Value.ref b :: (as.map Value.ref).drop p).toArray e)) l (as.take p ++ b :: as.drop p) (xs.take p ++ y :: xs.drop p) := by
  have hlen := S.len
  refine ⟨⟨e, ?_⟩, ?_, ?_, ?_, ?_⟩
  · have e1 : (as.map Value.ref).take p ++ Value.ref b :: (as.map Value.ref).drop p = (as.take p ++ b :: as.drop p).map Value.ref := by simp
    rw [e1]; exact lset_self
  · simp [hlen]
  · have h0 := S.nodup
    rw [← List.take_append_drop p as] at h0 hba
    rw [List.nodup_append] at h0 ⊢
    obtain ⟨h1, h2, h3⟩ := h0
    rw [List.mem_append, not_or] at hba
    refine ⟨h1, List.nodup_cons.mpr ⟨hba.2, h2⟩, fun x hx z hz => ?_⟩
    rcases List.mem_cons.mp hz with rfl | hz
    · exact fun e => hba.1 (e ▸ hx)
    · exact h3 x hx z hz
  · intro hm
    rcases List.mem_append.mp hm with hm | hm
    · exact S.out (List.mem_of_mem_take hm)
    · rcases List.mem_cons.mp hm with hm | hm
      · exact hbl hm.symm
      · exact S.out (List.mem_of_mem_drop hm)
  · intro i a x h1 h2
    have keep : ∀ {j : Nat} {a : Addr} {x : It}, as[j]? = some a → xs[j]? = some x → ∃ o, (a, o) ∈ lset led l (listOf ((as.map Value.ref).take p ++ Value.ref b :: (as.map Value.ref).drop p).toArray e) ∧ Inner x o := by
      intro j a x g1 g2
      obtain ⟨o, ho, hi⟩ := S.each j a x g1 g2
      exact ⟨o, lset_other ho (fun q => S.out (q ▸ List.mem_of_getElem? g1)), hi⟩
    have hp' : p ≤ as.length := by rw [hlen]; exact hp
    rcases Nat.lt_trichotomy i p with h | h | h
    · rw [List.getElem?_append_left (by simp; omega)] at h1 h2
      rw [List.getElem?_take_of_lt h] at h1 h2
      exact keep h1 h2
    · subst h
      have a1 : (as.take i).length = i := by simp; omega
      have a2 : (xs.take i).length = i := by simp; omega
      rw [List.getElem?_append_right (by omega), a1] at h1
      rw [List.getElem?_append_right (by omega), a2] at h2
      simp at h1 h2
      subst h1 h2
      exact ⟨ob, lset_other hb hbl, hy⟩
    · have a1 : (as.take p).length = p := by simp; omega
      have a2 : (xs.take p).length = p := by simp; omega
      rw [List.getElem?_append_right (by omega), a1] at h1
      rw [List.getElem?_append_right (by omega), a2] at h2
      obtain ⟨j, hj⟩ : ∃ j, i - p = j + 1 := ⟨i - p - 1, by omega⟩
      rw [hj] at h1 h2
      rw [List.getElem?_cons_succ, List.getElem?_drop] at h1 h2
      exact keep h1 h2

theorem fr_pin {h₀ h : Heap} {L : Addr} {m : Str → Option Value} {x : Str} {v : Value} (hv : m x = some v) (F : Fr h₀ L h m) : Fr h₀ L h (fun y => if y = x then some v else m y) := by
  have e : (fun y => if y = x then some v else m y) = m := by
    funext y
    by_cases h1 : y = x
    · subst h1; simp [hv]
    · simp [h1]
  rw [e]; exact F

def pins (m : Str → Option Value) : List (Str × Value) → Str → Option Value
  | [] => m
  | p :: r => fun y => if y = p.1 then some p.2 else pins m r y
def pinsOk (m : Str → Option Value) : List (Str × Value) → Prop
  | [] => True
  | p :: r => m p.1 = some p.2 ∧ pinsOk m r
theorem pins_eq {m : Str → Option Value} : ∀ {ps : List (Str × Value)}, pinsOk m ps → pins m ps = m
  | [], _ => rfl
  | p :: r, h => by
    funext y
    show (if y = p.1 then some p.2 else pins m r y) = m y
    by_cases h1 : y = p.1
    · rw [if_pos h1, h1]; exact h.1.symm
    · rw [if_neg h1, pins_eq h.2]
theorem fr_pins {h₀ h : Heap} {L : Addr} {m : Str → Option Value} (ps : List (Str × Value)) (hp : pinsOk m ps) (F : Fr h₀ L h m) : Fr h₀ L h (pins m ps) := by
  rw [pins_eq hp]; exact F

theorem nil_news {h₀ h : Heap} {L : Addr} {led led' : List (Addr × Obj)} (N : News h₀ L h led') (hs : ∀ p ∈ led, p ∈ led') : News h₀ L h led := fun p hp => N p (hs p hp)

theorem ws2 {h₀ : Heap} {L : Addr} {s : Shared} {J : Nat → (Str → Option Value) → List (Addr × Obj) → Prop} {Q : Flow → Shared → Prop} {n n' : Nat} {h' : Heap} {tk : Nat} {m₂ : Str → Option Value} {led led' : List (Addr × Obj)}
    (F : Fr h₀ L h' m₂) (N : News h₀ L h' led') (hs : ∀ p ∈ led, p ∈ led') (hn : n' < n) (hJ : J n' m₂ led) : WhileStep2 h₀ L s J Q n .next { s with heap := h', toks := tk } :=
  ⟨h', tk, m₂, led, n', rfl, F, nil_news N hs, hn, hJ⟩

theorem plt_trans {a b c d e f : Int} (h1 : plt a b c d = true) (h2 : plt c d e f = true) : plt a b e f = true := by
  unfold plt at *
  simp only [decide_eq_true_eq] at *
  omega
theorem plt_asymm {a b c d : Int} (h1 : plt a b c d = true) : plt c d a b = false := by
  unfold plt at *
  simp only [decide_eq_true_eq, decide_eq_false_iff_not] at *
  omega
theorem sorted_lt {xs : List It} (hs : xs.Pairwise fun y z => plt y.v y.t z.v z.t = true) {i j : Nat} {y z : It} (hi : xs[i]? = some y) (hj : xs[j]? = some z) (h : i < j) : plt y.v y.t z.v z.t = true := by
  obtain ⟨h1, rfl⟩ := List.getElem?_eq_some_iff.mp hi
  obtain ⟨h2, rfl⟩ := List.getElem?_eq_some_iff.mp hj
  exact List.pairwise_iff_getElem.mp hs i j h1 h2 h
theorem sorted_below {xs : List It} (hs : xs.Pairwise fun y z => plt y.v y.t z.v z.t = true) {i j : Nat} {y z : It} {v t : Int} (hi : xs[i]? = some y) (hj : xs[j]? = some z) (h : i ≤ j) (hz : plt z.v z.t v t = true) : plt y.v y.t v t = true := by
  rcases Nat.lt_or_eq_of_le h with h | rfl
  · exact plt_trans (sorted_lt hs hi hj h) hz
  · rw [hi] at hj; cases hj; exact hz
theorem sorted_above {xs : List It} (hs : xs.Pairwise fun y z => plt y.v y.t z.v z.t = true) {i j : Nat} {y z : It} {v t : Int} (hi : xs[i]? = some y) (hj : xs[j]? = some z) (h : i ≤ j) (hz : plt y.v y.t v t = false) : plt z.v z.t v t = false := by
  cases hq : plt z.v z.t v t with
  | false => rfl
  | true => rw [sorted_below hs hi hj h hq] at hz; cases hz

end Mine
end

section
open PySem PySem.W PyProof.Rows PySem.Calls
set_option maxRecDepth 100000
set_option maxHeartbeats 2000000
namespace Mine

/-- what a turn leaves -/
def ForEnd (h₀ : Heap) (L : Addr) (keep : Addr → Prop) (J : (Str → Option Value) → List (Addr × Obj) → Prop) (own : List (Addr × Obj)) (s₁ s₂ : Shared) : Prop :=
  ∃ h' tk m' news' nx, s₂ = { s₁ with heap := h', toks := tk } ∧ Fr h₀ L h' m' ∧ News h₀ L h' news' ∧ (∀ p ∈ nx, p ∈ news') ∧ (∀ p ∈ own, p ∈ news') ∧ (∀ q ∈ own, keep q.1 ∨ ∀ p ∈ nx, p.1 ≠ q.1) ∧ J m' nx
def ForPost (h₀ : Heap) (L : Addr) (keep : Addr → Prop) (J : (Str → Option Value) → List (Addr × Obj) → Prop) (own : List (Addr × Obj)) (s₁ : Shared) (Q : Flow → Shared → Prop) (f : Flow) (s₂ : Shared) : Prop :=
  match f with
  | .ret v => Q (.ret v) s₂
  | .brk => Q .next s₂
  | _ => ForEnd h₀ L keep J own s₁ s₂

theorem for_end {h₀ : Heap} {L : Addr} {keep : Addr → Prop} {J : (Str → Option Value) → List (Addr × Obj) → Prop} {own news' nx : List (Addr × Obj)} {s₁ : Shared} {h' : Heap} {tk : Nat} {m' : Str → Option Value}
    (F : Fr h₀ L h' m') (N : News h₀ L h' news') (hn : ∀ p ∈ nx, p ∈ news') (ho : ∀ p ∈ own, p ∈ news') (hk : ∀ q ∈ own, keep q.1 ∨ ∀ p ∈ nx, p.1 ≠ q.1) (hj : J m' nx) : ForEnd h₀ L keep J own s₁ { s₁ with heap := h', toks := tk } :=
  ⟨h', tk, m', news', nx, rfl, F, N, hn, ho, hk, hj⟩

theorem for_next {h₀ : Heap} {L : Addr} {keep : Addr → Prop} {J : (Str → Option Value) → List (Addr × Obj) → Prop} {own news' nx : List (Addr × Obj)} {s₁ : Shared} {h' : Heap} {tk : Nat} {m' : Str → Option Value} {Q : Flow → Shared → Prop}
    (F : Fr h₀ L h' m') (N : News h₀ L h' news') (hn : ∀ p ∈ nx, p ∈ news') (ho : ∀ p ∈ own, p ∈ news') (hk : ∀ q ∈ own, keep q.1 ∨ ∀ p ∈ nx, p.1 ≠ q.1) (hj : J m' nx) : ForPost h₀ L keep J own s₁ Q .next { s₁ with heap := h', toks := tk } :=
  for_end F N hn ho hk hj

section
variable {prog : Program} {w : World} {A : Around} {E : Value → Shared → Prop} {s : Shared} {env : Env} {h₀ : Heap} {x : Str} {body : List Stmt} {Q : Flow → Shared → Prop}

theorem N_for {l : Addr} {vs : List Value} {e : Nat} {m₀ : Str → Option Value} {nx₀ : List (Addr × Obj)} (J : Nat → (Str → Option Value) → List (Addr × Obj) → Prop)
    (hh : A.handled = none) (F : Fr h₀ env.locals s.heap m₀) (N : News h₀ env.locals s.heap nx₀) (hm : (l, listOf vs.toArray e) ∈ nx₀) (hj : J 0 m₀ nx₀)
    (turn : ∀ i v m₁ nx h tk own, vs[i]? = some v → (∀ q ∈ own, q.1 = l ∨ ∀ p ∈ nx, p.1 ≠ q.1) → J i m₁ nx → Fr h₀ env.locals h (fun y => if y = x then some v else m₁ y) → News h₀ env.locals h (nx ++ own) →
      wpAny (model prog w) A (execs body env) (ForPost h₀ env.locals (· = l) (J (i + 1)) own { s with heap := h, toks := tk } Q) E { s with heap := h, toks := tk })
    (done : ∀ m₁ nx h tk, J vs.length m₁ nx → Fr h₀ env.locals h m₁ → News h₀ env.locals h nx → Q .next { s with heap := h, toks := tk }) :
    wpAny (model prog w) A (pyIter (.ref l)) (fun it s₂ => LoopAtV prog w A h₀ env x body Q E it s₂) E s := by
  have hls : s.heap.IsList l vs.toArray := News.isList N hm
  have hol := (N _ hm).1
  have hlt : l < s.heap.objs.size := Heap.lt_size hol
  have hne : l ≠ s.heap.objs.size := Nat.ne_of_lt hlt
  have hlL : l ≠ env.locals := (N _ hm).2.1
  refine wpAny_pyIter_list hls ?_
  have W := Walks.list (prog := prog) (w := w) hh s.heap.objs.size l hne vs.toArray
  have hlen : vs.toArray.size = vs.length := by simp
  rw [hlen] at W
  refine ⟨_, _, _, vs.length, _, _, m₀, nx₀, J, rfl, W, ?_, ?_, ?_, ⟨⟨_, Heap.get?_push_size _ rfl, rfl, rfl⟩, hls.at fun o e => Heap.get?_push_of_some _ e⟩, F.push _, (fun p hp => ⟨Heap.get?_push_of_some _ (N p hp).1, (N p hp).2⟩), hj, ?_, ?_⟩
  · intro hm
    rcases List.mem_cons.mp hm with e | hm
    · exact absurd F.ns.lt (e ▸ Nat.lt_irrefl _)
    · exact hlL (List.mem_singleton.mp hm).symm
  · intro b hb
    rw [List.mem_singleton.mp hb]
    exact next_is_new F
  · intro p hp hI
    exact absurd (Heap.lt_size (N p hp).1) ((List.mem_singleton.mp hI) ▸ Nat.lt_irrefl _)
  · rintro i v m₁ news₁ s₁ own ⟨hh', tk', rfl⟩ hin hP hJ hoff hown _ hmem hst F₁ N₁
    obtain ⟨⟨oi, hoi, _⟩, _⟩ := hst
    have hI : (s.heap.objs.size, oi) ∈ own := hmem _ (.head _) (next_is_new F) oi hoi
    have hsep : ∀ q ∈ own, q.1 = l ∨ ∀ p ∈ news₁, p.1 ≠ q.1 := by
      intro q hq
      rcases List.mem_cons.mp (hown q hq) with h1 | h1
      · exact .inr fun p hp e => hoff p hp (List.mem_singleton.mpr (e.trans h1))
      · exact .inl (List.mem_singleton.mp h1)
    have hv : vs[i]? = some v := by simpa using hP
    have N₂ : News h₀ env.locals hh' (news₁ ++ own) := fun p hp => N₁ p ((List.mem_append.mp hp).elim (fun h => List.mem_append.mpr (.inr h)) fun h => List.mem_append.mpr (.inl h))
    refine wpAny_mono (turn i v m₁ news₁ hh' tk' own hv hsep hJ F₁ N₂) (fun f s₂ p => ?_) fun _ _ e => e
    have fin : ForEnd h₀ env.locals (· = l) (J (i + 1)) own { s with heap := hh', toks := tk' } s₂ → LoopStepU h₀ env.locals [s.heap.objs.size] own (J (i + 1)) { s with heap := hh', toks := tk' } .next s₂ := by
      rintro ⟨h', tk, m', news', nx, e, F', N', hn, ho, ha, hm⟩
      refine ⟨rfl, h', tk, m', nx, e, F', fun p hp => N' p ((List.mem_append.mp hp).elim (ho p) (hn p)), fun p hp hq => ?_, hm⟩
      rcases ha _ hI with h1 | h1
      · exact hne h1.symm
      · exact h1 p hp (List.mem_singleton.mp hq)
    cases f with
    | ret v => exact .ret p
    | brk => exact .brk p
    | next => exact .next (fin p)
    | cont => exact .cont (fin p)
  · rintro h' tk m' news' F' N' _ hJ
    exact done m' news' h' tk hJ F' N'

theorem N_range {r : Addr} {a₀ b₀ : Int} {t₀ u₀ v₀ : Tok} {n : Nat} {m₀ : Str → Option Value} {nx₀ : List (Addr × Obj)} (J : Nat → (Str → Option Value) → List (Addr × Obj) → Prop)
    (hh : A.handled = none) (hr : IsRange s.heap r a₀ b₀ 1 t₀ u₀ v₀) (hsmall : Builtin.Range.small a₀ b₀ 1 = true) (hn : Builtin.Range.rangeSize a₀ b₀ 1 = (n : Int)) (F : Fr h₀ env.locals s.heap m₀) (N : News h₀ env.locals s.heap nx₀) (hj : J 0 m₀ nx₀)
    (turn : ∀ i t m₁ nx h tk own, i < n → (∀ q ∈ own, False ∨ ∀ p ∈ nx, p.1 ≠ q.1) → J i m₁ nx → Fr h₀ env.locals h (fun y => if y = x then some (.int (a₀ + (i : Nat)) t) else m₁ y) → News h₀ env.locals h (nx ++ own) →
      wpAny (model prog w) A (execs body env) (ForPost h₀ env.locals (fun _ => False) (J (i + 1)) own { s with heap := h, toks := tk } Q) E { s with heap := h, toks := tk })
    (done : ∀ m₁ nx h tk, J n m₁ nx → Fr h₀ env.locals h m₁ → News h₀ env.locals h nx → Q .next { s with heap := h, toks := tk }) :
    wpAny (model prog w) A (pyIter (.ref r)) (fun it s₂ => LoopAtV prog w A h₀ env x body Q E it s₂) E s := by
  refine wpAny_pyIter_range hr hsmall ?_
  have W : Walks prog w A s.heap.objs.size [s.heap.objs.size] [s.heap.objs.size] n (fun i v => i < n ∧ ∃ t, v = .int (a₀ + i * 1) t)
      (fun i h => IsRangeIter h s.heap.objs.size (a₀ + (i : Nat) * 1) ((n : Int) - (i : Nat)) 1) := (Walks.range hh _ a₀ 1 n).bound
  refine ⟨_, _, _, n, _, _, m₀, nx₀, J, rfl, W, ?_, ?_, ?_, (by show IsRangeIter _ _ _ _ _; rw [hn]; simpa using Heap.get?_push_size _ rfl), F.push _, (fun p hp => ⟨Heap.get?_push_of_some _ (N p hp).1, (N p hp).2⟩), hj, ?_, ?_⟩
  · intro hm
    exact absurd F.ns.lt ((List.mem_singleton.mp hm) ▸ Nat.lt_irrefl _)
  · intro b hb
    rw [List.mem_singleton.mp hb]
    exact next_is_new F
  · intro p hp hI
    exact absurd (Heap.lt_size (N p hp).1) ((List.mem_singleton.mp hI) ▸ Nat.lt_irrefl _)
  · rintro i v m₁ news₁ s₁ own ⟨hh', tk', rfl⟩ hin ⟨_, t, rfl⟩ hJ hoff hown _ hmem hst F₁ N₁
    have hI : ∃ oi, (s.heap.objs.size, oi) ∈ own := ⟨_, hmem _ (.head _) (next_is_new F) _ hst⟩
    have hsep : ∀ q ∈ own, False ∨ ∀ p ∈ news₁, p.1 ≠ q.1 := by
      intro q hq
      exact .inr fun p hp e => hoff p hp (List.mem_singleton.mpr (e.trans (List.mem_singleton.mp (hown q hq))))
    have N₂ : News h₀ env.locals hh' (news₁ ++ own) := fun p hp => N₁ p ((List.mem_append.mp hp).elim (fun h => List.mem_append.mpr (.inr h)) fun h => List.mem_append.mpr (.inl h))
    rw [Int.mul_one] at F₁
    refine wpAny_mono (turn i t m₁ news₁ hh' tk' own hin hsep hJ F₁ N₂) (fun f s₂ p => ?_) fun _ _ e => e
    have fin : ForEnd h₀ env.locals (fun _ => False) (J (i + 1)) own { s with heap := hh', toks := tk' } s₂ → LoopStepU h₀ env.locals [s.heap.objs.size] own (J (i + 1)) { s with heap := hh', toks := tk' } .next s₂ := by
      rintro ⟨h', tk, m', news', nx, e, F', N', hn, ho, ha, hm⟩
      refine ⟨rfl, h', tk, m', nx, e, F', fun p hp => N' p ((List.mem_append.mp hp).elim (ho p) (hn p)), fun p hp hq => ?_, hm⟩
      obtain ⟨oi, hI⟩ := hI
      rcases ha _ hI with h1 | h1
      · exact h1.elim
      · exact h1 p hp (List.mem_singleton.mp hq)
    cases f with
    | ret v => exact .ret p
    | brk => exact .brk p
    | next => exact .next (fin p)
    | cont => exact .cont (fin p)
  · rintro h' tk m' news' F' N' _ hJ
    exact done m' news' h' tk hJ F' N'
end
end Mine
end

section
open PySem PySem.W PyProof.Rows
set_option maxRecDepth 100000
set_option maxHeartbeats 8000000
namespace Mine
set_option pp.deepTerms false
set_option pp.maxSteps 3000

local macro_rules | `(tactic| k_room) => `(tactic| ktr_room)
local macro_rules | `(tactic| k_units) => `(tactic| ktr_units)
local macro_rules | `(tactic| ktr_enter) => `(tactic| (refine' code_def ?k1 ?k2 ?k3 ?k4 ?k5 ?kA ?kF ?kK ?k6 ?k7 ?k8 ?k9 ?kB ?_ ?c2 ?c3 ?c4 ?c5; (case kA => exact rfl); (case kF => exact rfl); (case kK => assumption); (case k1 => k_asm); (case k2 => k_asm); (case k3 => k_asm); (case k4 => k_asm); (case k5 => k_asm); (case k6 => k_is); (case k7 => k_is); (case k8 => ktr_room); (case k9 => first | exact BindsTo.of_eq rfl | (refine' kp_binds ?kx ?ke; (case kx => k_in); (case ke => exact fun _ => rfl))); (case c5 => decide); (case kB => exact locs rfl); (case c2 => exact rfl); (case c3 => exact rfl); (case c4 => exact rfl); k_whole; intro g' L' h' FG' F' N' B' X' T'; (try dsimp only); (try k_fold)))

theorem pair_says (w : World) (a : Addr) (v t g d : Int) (tv tt tg td : Tok) (e : Nat) (led : List (Addr × Obj))
   (hm : (a, listOf #[.int v tv, .int t tt, .int g tg, .int d td] e) ∈ led) :
   Says w 2 20 (.ref 39) [.ref a] [] led (fun r led' => ∃ D, r = .ref D ∧ led' = (D, listOf #[.int v tv, .int t tt] 0) :: led ∧ ∀ p ∈ led, p.1 < D) := by
  unfold Says
  k_fill
  intro dp un gd cn cs a ccd cl outer A₀ base h₀ L m mean mg mb s Q E B F X N T hk hdp hu hret
  refine wpAny_call ?_
  k_dflt ktr_enter
  k_steps
  exact hret _ _ _ _ (by assumption) (by assumption) ⟨_, rfl, rfl, by assumption⟩

/-- the place of bisect_left by the pair's key -/
def PlaceL (xs : List It) (v t : Int) (p : Nat) : Prop := p ≤ xs.length ∧ ∀ (i : Nat) (y : It), xs[i]? = some y → (i < p ↔ plt y.v y.t v t = true)

theorem bl_says (w : World) (l x : Addr) (as : List Addr) (xs : List It) (v t : Int) (tv tt : Tok) (led : List (Addr × Obj))
   (S : SumAt led l as xs) (hx : (x, listOf #[.int v tv, .int t tt] 0) ∈ led) (hz : xs.length < 2 ^ 20) (hs : xs.Pairwise fun y z => plt y.v y.t z.v z.t = true) :
   Says w 5 50 (.ref 32) [.ref l, .ref x] [(Str.ofString "key", .ref 39)] led (fun r led' => led' = led ∧ ∃ (p : Nat) (tk : Tok), r = .int p tk ∧ PlaceL xs v t p) := by
  unfold Says
  k_fill
  intro dp un gd cn cs a ccd cl outer A₀ base h₀ L m mean mg mb s Q E B F X N T hk hdp hu hret
  obtain ⟨e, hm⟩ := S.main
  have hlen : (as.map Value.ref).length = xs.length := by rw [List.length_map, S.len]
  refine wpAny_call ?_
  k_dflt ktr_enter
  (generalize hst : Stmt.While _ _ _ _ = st)
  (generalize hst2 : Stmt.While _ _ _ _ = st2)
  k_steps
  refine N_len (by assumption) hm (by omega) ?_
  k_steps
  subst hst2
  rename Fr _ _ _ _ => F1
  rename News _ _ _ _ => N1
  refine While_inv2 (fun n m₁ nx => nx = led ∧ ∃ (lo hi : Nat) (tl th : Tok), m₁ (Str.ofString "a") = some (.ref l) ∧ m₁ (Str.ofString "x") = some (.ref x) ∧ m₁ (Str.ofString "key") = some (.ref 39) ∧
    m₁ (Str.ofString "lo") = some (.int lo tl) ∧ m₁ (Str.ofString "hi") = some (.int hi th) ∧ n = hi - lo ∧ lo ≤ hi ∧ hi ≤ xs.length ∧
    (∀ (i : Nat) (y : It), xs[i]? = some y → i < lo → plt y.v y.t v t = true) ∧ (∀ (i : Nat) (y : It), xs[i]? = some y → hi ≤ i → plt y.v y.t v t = false)) (n₀ := xs.length) F1 N1 ?_ ?_
  · refine ⟨rfl, 0, xs.length, _, _, rfl, rfl, rfl, rfl, by rw [← hlen]; rfl, rfl, Nat.zero_le _, Nat.le_refl _, fun i y _ h => absurd h (Nat.not_lt_zero _), fun i y h1 h2 => ?_⟩
    rw [List.getElem?_eq_none h2] at h1; cases h1
  clear F1 N1
  rintro n m₁ nx h tk F2 N2 ⟨rfl, lo, hi, tl, th, ea, ex, ek, el, eh, en, hle, hhi, hA, hB⟩
  have F3 := fr_pins [(Str.ofString "a", .ref l), (Str.ofString "x", .ref x), (Str.ofString "key", .ref 39), (Str.ofString "lo", .int lo tl), (Str.ofString "hi", .int hi th)] ⟨ea, ex, ek, el, eh, trivial⟩ F2
  dsimp only [pins] at F3
  clear F2
  by_cases hlt : lo < hi
  · have hmid : (lo + hi) / 2 < xs.length := by omega
    obtain ⟨am, y, hga, hgv, hgx, tv', tt', tg', td', e', hmm⟩ := S.at hmid
    have hfd : ((lo : Int) + (hi : Int)).fdiv 2 = (((lo + hi) / 2 : Nat) : Int) := by
      rw [Int.fdiv_eq_ediv_of_nonneg _ (by decide)]; omega
    k_steps
    rw [hfd]
    refine N_item (by assumption) hm (by omega) (by omega) (v := .ref am) (by rw [Int.toNat_natCast]; exact hgv) ?_
    k_steps
    (rename News _ _ _ _ => N5)
    refine N_lt (by k_units) (N5.get (List.mem_cons_self ..)) (N5.get (List.mem_cons_of_mem _ hx)) ?_
    k_steps
    · rename plt _ _ _ _ = true => hp
      refine ws2 (n' := hi - ((lo + hi) / 2 + 1)) (by assumption) (by assumption) (fun p hp => List.mem_cons_of_mem _ hp) (by omega) ⟨rfl, (lo + hi) / 2 + 1, hi, _, _, rfl, rfl, rfl, (by show some (Value.int (((lo : Int) + (hi : Int)).fdiv 2 + 1) _) = _; rw [hfd]; rfl), rfl, rfl, by omega, hhi, fun i z hz h1 => ?_, hB⟩
      exact sorted_below hs hz hgx (by omega) hp
    · rename plt _ _ _ _ = false => hp
      refine ws2 (n' := (lo + hi) / 2 - lo) (by assumption) (by assumption) (fun p hp => List.mem_cons_of_mem _ hp) (by omega) ⟨rfl, lo, (lo + hi) / 2, _, _, rfl, rfl, rfl, rfl, (by show some (Value.int (((lo : Int) + (hi : Int)).fdiv 2) _) = _; rw [hfd]), rfl, by omega, by omega, hA, fun i z hz h1 => ?_⟩
      exact sorted_above hs hgx hz h1 hp
  · k_steps
    refine hret _ _ _ _ (by assumption) (by assumption) ⟨rfl, lo, _, rfl, by omega, fun i y hy => ⟨hA i y hy, fun h1 => ?_⟩⟩
    rcases Nat.lt_or_ge i lo with h2 | h2
    · exact h2
    · rw [hB i y hy (by omega)] at h1; cases h1
end Mine
end

section
open PySem PySem.W PyProof.Rows
set_option maxRecDepth 100000
set_option maxHeartbeats 8000000
namespace Mine
set_option pp.deepTerms false
set_option pp.maxSteps 3000

local macro_rules | `(tactic| k_room) => `(tactic| ktr_room)
local macro_rules | `(tactic| k_units) => `(tactic| ktr_units)
local macro_rules | `(tactic| ktr_enter) => `(tactic| (refine' code_def ?k1 ?k2 ?k3 ?k4 ?k5 ?kA ?kF ?kK ?k6 ?k7 ?k8 ?k9 ?kB ?_ ?c2 ?c3 ?c4 ?c5; (case kA => exact rfl); (case kF => exact rfl); (case kK => assumption); (case k1 => k_asm); (case k2 => k_asm); (case k3 => k_asm); (case k4 => k_asm); (case k5 => k_asm); (case k6 => k_is); (case k7 => k_is); (case k8 => ktr_room); (case k9 => first | exact BindsTo.of_eq rfl | (refine' kp_binds ?kx ?ke; (case kx => k_in); (case ke => exact fun _ => rfl))); (case c5 => decide); (case kB => exact locs rfl); (case c2 => exact rfl); (case c3 => exact rfl); (case c4 => exact rfl); k_whole; intro g' L' h' FG' F' N' B' X' T'; (try dsimp only); (try k_fold)))


theorem ints_at {vs : List Value} {ns : List Int} (hi : IntsAre vs ns) {i : Nat} (h : i < ns.length) : ∃ y t, ns[i]? = some y ∧ vs[i]? = some (.int y t) := by
  obtain ⟨t, ht⟩ := hi.get i ns[i] (by simp [h])
  exact ⟨ns[i], t, by simp [h], ht⟩
theorem ints_mono {ns : List Int} (hs : ns.Pairwise (· ≤ ·)) {i j : Nat} {y z : Int} (hi : ns[i]? = some y) (hj : ns[j]? = some z) (h : i ≤ j) : y ≤ z := by
  obtain ⟨h1, rfl⟩ := List.getElem?_eq_some_iff.mp hi
  obtain ⟨h2, rfl⟩ := List.getElem?_eq_some_iff.mp hj
  rcases Nat.lt_or_eq_of_le h with h | rfl
  · exact List.pairwise_iff_getElem.mp hs i j h1 h2 h
  · exact Int.le_refl _

theorem bl0_says (w : World) (l : Addr) (vs : List Value) (ns : List Int) (e : Nat) (q : Int) (tq : Tok) (led : List (Addr × Obj))
   (hm : (l, listOf vs.toArray e) ∈ led) (hi : IntsAre vs ns) (hz : ns.length < 2 ^ 20) (hs : ns.Pairwise (· ≤ ·)) :
   Says w 5 50 (.ref 32) [.ref l, .int q tq] [] led (fun r led' => led' = led ∧ ∃ (p : Nat) (tk : Tok), r = .int p tk ∧ p ≤ ns.length ∧ ∀ (i : Nat) (y : Int), ns[i]? = some y → (i < p ↔ y < q)) := by
  unfold Says
  k_fill
  intro dp un gd cn cs a ccd cl outer A₀ base h₀ L m mean mg mb s Q E B F X N T hk hdp hu hret
  have hlen : vs.length = ns.length := hi.length
  refine wpAny_call ?_
  k_dflt ktr_enter
  (generalize hst : Stmt.While _ _ _ _ = st)
  (generalize hst2 : Stmt.While _ _ _ _ = st2)
  k_steps
  refine N_len (by assumption) hm (by omega) ?_
  k_steps
  subst hst
  rename Fr _ _ _ _ => F1
  rename News _ _ _ _ => N1
  refine While_inv2 (fun n m₁ nx => nx = led ∧ ∃ (lo hi : Nat) (tl th : Tok), m₁ (Str.ofString "a") = some (.ref l) ∧ m₁ (Str.ofString "x") = some (.int q tq) ∧
    m₁ (Str.ofString "lo") = some (.int lo tl) ∧ m₁ (Str.ofString "hi") = some (.int hi th) ∧ n = hi - lo ∧ lo ≤ hi ∧ hi ≤ ns.length ∧
    (∀ (i : Nat) (y : Int), ns[i]? = some y → i < lo → y < q) ∧ (∀ (i : Nat) (y : Int), ns[i]? = some y → hi ≤ i → ¬ (y < q))) (n₀ := ns.length) F1 N1 ?_ ?_
  · refine ⟨rfl, 0, ns.length, _, _, rfl, rfl, rfl, by rw [← hlen]; rfl, rfl, Nat.zero_le _, Nat.le_refl _, fun i y _ h => absurd h (Nat.not_lt_zero _), fun i y h1 h2 => ?_⟩
    rw [List.getElem?_eq_none h2] at h1; cases h1
  clear F1 N1
  rintro n m₁ nx h tk F2 N2 ⟨rfl, lo, hi, tl, th, ea, ex, el, eh, en, hle, hhi, hA, hB⟩
  have F3 := fr_pins [(Str.ofString "a", .ref l), (Str.ofString "x", .int q tq), (Str.ofString "lo", .int lo tl), (Str.ofString "hi", .int hi th)] ⟨ea, ex, el, eh, trivial⟩ F2
  dsimp only [pins] at F3
  clear F2
  by_cases hlt : lo < hi
  · have hmid : (lo + hi) / 2 < ns.length := by omega
    obtain ⟨ym, tm, hgx, hgv⟩ := ints_at ‹IntsAre vs ns› hmid
    have hfd : ((lo : Int) + (hi : Int)).fdiv 2 = (((lo + hi) / 2 : Nat) : Int) := by
      rw [Int.fdiv_eq_ediv_of_nonneg _ (by decide)]; omega
    have hgd : ns.getD (((lo : Int) + (hi : Int)).fdiv 2).toNat 0 = ym := by
      rw [hfd, Int.toNat_natCast, List.getD_eq_getElem?_getD, hgx]; rfl
    k_steps
    · (rename List.getD _ _ _ < q => hp)
      rw [hgd] at hp
      refine ws2 (n' := hi - ((lo + hi) / 2 + 1)) (by assumption) (by assumption) (fun p hp => hp) (by omega) ⟨rfl, (lo + hi) / 2 + 1, hi, _, _, rfl, rfl, (by show some (Value.int (((lo : Int) + (hi : Int)).fdiv 2 + 1) _) = _; rw [hfd]; rfl), rfl, rfl, by omega, hhi, fun i z hz h1 => ?_, hB⟩
      have := ints_mono hs hz hgx (by omega)
      omega
    · (rename ¬ List.getD _ _ _ < q => hp)
      rw [hgd] at hp
      refine ws2 (n' := (lo + hi) / 2 - lo) (by assumption) (by assumption) (fun p hp => hp) (by omega) ⟨rfl, lo, (lo + hi) / 2, _, _, rfl, rfl, rfl, (by show some (Value.int (((lo : Int) + (hi : Int)).fdiv 2) _) = _; rw [hfd]), rfl, by omega, by omega, hA, fun i z hz h1 => ?_⟩
      have := ints_mono hs hgx hz h1
      omega
  · k_steps
    refine hret _ _ _ _ (by assumption) (by assumption) ⟨rfl, lo, _, rfl, by omega, fun i y hy => ⟨hA i y hy, fun h1 => ?_⟩⟩
    rcases Nat.lt_or_ge i lo with h2 | h2
    · exact h2
    · exact absurd h1 (hB i y hy (by omega))

theorem br_says (w : World) (l : Addr) (vs : List Value) (ns : List Int) (e : Nat) (q : Int) (tq : Tok) (led : List (Addr × Obj))
   (hm : (l, listOf vs.toArray e) ∈ led) (hi : IntsAre vs ns) (hz : ns.length < 2 ^ 20) (hs : ns.Pairwise (· ≤ ·)) :
   Says w 5 50 (.ref 23) [.ref l, .int q tq] [] led (fun r led' => led' = led ∧ ∃ (p : Nat) (tk : Tok), r = .int p tk ∧ p ≤ ns.length ∧ ∀ (i : Nat) (y : Int), ns[i]? = some y → (i < p ↔ y ≤ q)) := by
  unfold Says
  k_fill
  intro dp un gd cn cs a ccd cl outer A₀ base h₀ L m mean mg mb s Q E B F X N T hk hdp hu hret
  have hlen : vs.length = ns.length := hi.length
  refine wpAny_call ?_
  k_dflt ktr_enter
  (generalize hst : Stmt.While _ _ _ _ = st)
  (generalize hst2 : Stmt.While _ _ _ _ = st2)
  k_steps
  refine N_len (by assumption) hm (by omega) ?_
  k_steps
  subst hst
  rename Fr _ _ _ _ => F1
  rename News _ _ _ _ => N1
  refine While_inv2 (fun n m₁ nx => nx = led ∧ ∃ (lo hi : Nat) (tl th : Tok), m₁ (Str.ofString "a") = some (.ref l) ∧ m₁ (Str.ofString "x") = some (.int q tq) ∧
    m₁ (Str.ofString "lo") = some (.int lo tl) ∧ m₁ (Str.ofString "hi") = some (.int hi th) ∧ n = hi - lo ∧ lo ≤ hi ∧ hi ≤ ns.length ∧
    (∀ (i : Nat) (y : Int), ns[i]? = some y → i < lo → y ≤ q) ∧ (∀ (i : Nat) (y : Int), ns[i]? = some y → hi ≤ i → ¬ (y ≤ q))) (n₀ := ns.length) F1 N1 ?_ ?_
  · refine ⟨rfl, 0, ns.length, _, _, rfl, rfl, rfl, by rw [← hlen]; rfl, rfl, Nat.zero_le _, Nat.le_refl _, fun i y _ h => absurd h (Nat.not_lt_zero _), fun i y h1 h2 => ?_⟩
    rw [List.getElem?_eq_none h2] at h1; cases h1
  clear F1 N1
  rintro n m₁ nx h tk F2 N2 ⟨rfl, lo, hi, tl, th, ea, ex, el, eh, en, hle, hhi, hA, hB⟩
  have F3 := fr_pins [(Str.ofString "a", .ref l), (Str.ofString "x", .int q tq), (Str.ofString "lo", .int lo tl), (Str.ofString "hi", .int hi th)] ⟨ea, ex, el, eh, trivial⟩ F2
  dsimp only [pins] at F3
  clear F2
  by_cases hlt : lo < hi
  · have hmid : (lo + hi) / 2 < ns.length := by omega
    obtain ⟨ym, tm, hgx, hgv⟩ := ints_at ‹IntsAre vs ns› hmid
    have hfd : ((lo : Int) + (hi : Int)).fdiv 2 = (((lo + hi) / 2 : Nat) : Int) := by
      rw [Int.fdiv_eq_ediv_of_nonneg _ (by decide)]; omega
    have hgd : ns.getD (((lo : Int) + (hi : Int)).fdiv 2).toNat 0 = ym := by
      rw [hfd, Int.toNat_natCast, List.getD_eq_getElem?_getD, hgx]; rfl
    k_steps
    · (rename q < List.getD _ _ _ => hp)
      rw [hgd] at hp
      refine ws2 (n' := (lo + hi) / 2 - lo) (by assumption) (by assumption) (fun p hp => hp) (by omega) ⟨rfl, lo, (lo + hi) / 2, _, _, rfl, rfl, rfl, (by show some (Value.int (((lo : Int) + (hi : Int)).fdiv 2) _) = _; rw [hfd]), rfl, by omega, by omega, hA, fun i z hz h1 => ?_⟩
      have := ints_mono hs hgx hz h1
      omega
    · (rename ¬ q < List.getD _ _ _ => hp)
      rw [hgd] at hp
      refine ws2 (n' := hi - ((lo + hi) / 2 + 1)) (by assumption) (by assumption) (fun p hp => hp) (by omega) ⟨rfl, (lo + hi) / 2 + 1, hi, _, _, rfl, rfl, (by show some (Value.int (((lo : Int) + (hi : Int)).fdiv 2 + 1) _) = _; rw [hfd]; rfl), rfl, rfl, by omega, hhi, fun i z hz h1 => ?_, hB⟩
      have := ints_mono hs hz hgx (by omega)
      omega
  · k_steps
    refine hret _ _ _ _ (by assumption) (by assumption) ⟨rfl, lo, _, rfl, by omega, fun i y hy => ⟨hA i y hy, fun h1 => ?_⟩⟩
    rcases Nat.lt_or_ge i lo with h2 | h2
    · exact h2
    · exact absurd h1 (hB i y hy (by omega))

end Mine
end

section
open PySem PySem.W PyProof.Rows
set_option maxRecDepth 100000
set_option maxHeartbeats 8000000
namespace Mine
set_option pp.deepTerms false
set_option pp.maxSteps 3000

local macro_rules | `(tactic| k_room) => `(tactic| ktr_room)
local macro_rules | `(tactic| k_units) => `(tactic| ktr_units)
local macro_rules | `(tactic| ktr_enter) => `(tactic| (refine' code_def ?k1 ?k2 ?k3 ?k4 ?k5 ?kA ?kF ?kK ?k6 ?k7 ?k8 ?k9 ?kB ?_ ?c2 ?c3 ?c4 ?c5; (case kA => exact rfl); (case kF => exact rfl); (case kK => assumption); (case k1 => k_asm); (case k2 => k_asm); (case k3 => k_asm); (case k4 => k_asm); (case k5 => k_asm); (case k6 => k_is); (case k7 => k_is); (case k8 => ktr_room); (case k9 => first | exact BindsTo.of_eq rfl | (refine' kp_binds ?kx ?ke; (case kx => k_in); (case ke => exact fun _ => rfl))); (case c5 => decide); (case kB => exact locs rfl); (case c2 => exact rfl); (case c3 => exact rfl); (case c4 => exact rfl); k_whole; intro g' L' h' FG' F' N' B' X' T'; (try dsimp only); (try k_fold)))


local macro_rules | `(tactic| walk_at "call ref") => `(tactic| (k_here; (with_reducible show wpAny _ _ (call (Value.ref 32) _ _) _ _ _); k_dflt (refine' says_use (bl_says _ _ _ _ _ _ _ _ _ _ ?S ?hx ?hz ?hs) ?k1 ?k2 ?k3 ?k4 ?k5 ?k6 ?k7 ?k8 ?_; (case k2 => k_asm); (case k4 => k_asm); (case k1 => k_asm); (case k3 => k_asm); (case k5 => k_asm); (case k6 => exact rfl); (case k7 => ktr_room); (case k8 => ktr_units); (case S => exact SumAt.mono (by assumption) (fun _ hp => List.mem_cons_of_mem _ hp)); (case hx => k_mem); (case hz => assumption); (case hs => assumption)); (rintro r' led' h' tk' F' N' ⟨eL, p', tp', eR, hP'⟩); (subst eL); (subst eR); (try dsimp only)))
local macro_rules | `(tactic| walk_at "call builtin:len") => `(tactic| (k_here; (with_reducible show wpAny _ _ (call (Value.builtin "len") [Value.ref _]) _ _ _); k_dflt (refine' N_len ?N ?m ?z ?_; (case N => k_asm); (case m => k_mem); (case z => omega))))

local macro_rules | `(tactic| k_mem) => `(tactic| first | assumption | exact List.Mem.tail _ (by assumption) | exact List.Mem.tail _ (List.Mem.tail _ (by assumption)) | exact List.Mem.tail _ (List.Mem.tail _ (List.Mem.tail _ (by assumption))) | exact List.Mem.head _ | exact List.Mem.tail _ (List.Mem.head _))
theorem put_end {led : List (Addr × Obj)} {l b : Addr} {as : List Addr} {xs : List It} {v t : Int} {p e : Nat} {ob : Obj} {pd : Addr × Obj} (S : SumAt led l as xs) (hP : PlaceL xs v t p) (hy : Inner (newIt xs p v t) ob) (hb : AllLt b led) :
    PlaceL xs v t p ∧ (∀ q ∈ led, q.1 < b) ∧ SumAt (lset ((b, ob) :: pd :: led) l (listOf ((as.map Value.ref).take p ++ Value.ref b :: (as.map Value.ref).drop p).toArray e)) l (as.take p ++ b :: as.drop p) (putIt xs p v t) ∧
      ∀ q ∈ led, q.1 ≠ l → q ∈ lset ((b, ob) :: pd :: led) l (listOf ((as.map Value.ref).take p ++ Value.ref b :: (as.map Value.ref).drop p).toArray e) := by
  have hlt := tb_ltOf hb
  refine ⟨hP, hlt, SumAt.put (S.mono fun q hq => List.mem_cons_of_mem _ (List.mem_cons_of_mem _ hq)) (List.mem_cons_self ..) hy ?_ ?_ hP.1, fun q hq hn => lset_other (List.mem_cons_of_mem _ (List.mem_cons_of_mem _ hq)) hn⟩
  · intro h
    obtain ⟨e0, h0⟩ := S.main
    exact Nat.lt_irrefl _ (h ▸ hlt _ h0)
  · intro h
    obtain ⟨o, ho⟩ := S.addr_mem h
    exact Nat.lt_irrefl _ (hlt _ ho)

theorem newIt_none {xs : List It} {p : Nat} {v t : Int} (h : p = 0 ∨ p = xs.length) : newIt xs p v t = ⟨v, t, 1, 0⟩ := by
  unfold newIt
  rcases h with h | h
  · rw [if_pos h]
  · by_cases h0 : p = 0
    · rw [if_pos h0]
    · rw [if_neg h0, List.getElem?_eq_none (by omega)]
theorem newIt_some {xs : List It} {p : Nat} {v t : Int} {y : It} (h : p ≠ 0) (hy : xs[p]? = some y) : newIt xs p v t = ⟨v, t, 1, y.g + y.d - 1⟩ := by
  unfold newIt
  rw [if_neg h, hy]

theorem at_place {led : List (Addr × Obj)} {l : Addr} {as : List Addr} {xs : List It} {v t : Int} {p : Nat} (S : SumAt led l as xs) (hP : PlaceL xs v t p) (h1 : (p : Int) ≠ (((as.map Value.ref).length : Nat) : Int)) :
    p < xs.length ∧ ∃ a y, (as.map Value.ref)[((p : Nat) : Int).toNat]? = some (.ref a) ∧ xs[p]? = some y ∧ ∃ tv tt tg td e, (a, listOf #[.int y.v tv, .int y.t tt, .int y.g tg, .int y.d td] e) ∈ led := by
  have h0 := hP.1
  have hl : (as.map Value.ref).length = xs.length := by rw [List.length_map, S.len]
  have h2 : p < xs.length := by omega
  obtain ⟨a, y, _, g1, g2, r⟩ := S.at h2
  exact ⟨h2, a, y, by rw [Int.toNat_natCast]; exact g1, g2, r⟩

local macro_rules | `(tactic| walk_at "subscriptTail") => `(tactic| (k_here; (with_reducible show wpAny _ _ (subscriptTail _ _ (Value.ref _) (Value.int _ _)) _ _ _); k_dflt (refine' N_item ?N ?m ?h0 ?h1 ?hx ?_ ?hs; (case N => k_asm); (case m => k_mem); (case hx => first | assumption | exact rfl); (case h0 => first | decide | omega); (case h1 => first | decide | omega); (case hs => with_unfolding_all rfl)); (try dsimp only)))

theorem put_says (w : World) (l : Addr) (as : List Addr) (xs : List It) (v t : Int) (tv tt : Tok) (led : List (Addr × Obj))
   (S : SumAt led l as xs) (hz : xs.length < 2 ^ 20) (hs : xs.Pairwise fun y z => plt y.v y.t z.v z.t = true) :
   Says w 10 100 (.ref 46) [.ref l, .int v tv, .int t tt] [] led (fun r led' => r = .none ∧ ∃ (p : Nat) (b : Addr), PlaceL xs v t p ∧ (∀ q ∈ led, q.1 < b) ∧
     SumAt led' l (as.take p ++ b :: as.drop p) (putIt xs p v t) ∧ ∀ q ∈ led, q.1 ≠ l → q ∈ led') := by
  unfold Says
  k_fill
  intro dp un gd cn cs a ccd cl outer A₀ base h₀ L m mean mg mb s Q E B F X N T hk hdp hu hret
  obtain ⟨e, hm⟩ := S.main
  have hlen : (as.map Value.ref).length = xs.length := by rw [List.length_map, S.len]
  refine wpAny_call ?_
  k_dflt ktr_enter
  k_steps
  · (rename PlaceL _ _ _ _ => hP)
    (rename _ ∧ AllLt _ led => hB)
    have h0 := hP.1
    refine N_insert (by assumption) (by assumption) (by k_mem) (by omega) (by omega) (by omega) ?_
    intro h' F' N'
    rw [Int.toNat_natCast] at N'
    k_steps
    exact hret _ _ _ _ (by assumption) (by assumption) ⟨rfl, _, _, put_end S hP (by rw [newIt_none (.inl (by omega))]; exact ⟨_, _, _, _, _, rfl⟩) hB.2⟩
  · (rename PlaceL _ _ _ _ => hP)
    (rename _ ∧ AllLt _ led => hB)
    have h0 := hP.1
    refine N_insert (by assumption) (by assumption) (by k_mem) (by omega) (by omega) (by omega) ?_
    intro h' F' N'
    rw [Int.toNat_natCast] at N'
    k_steps
    exact hret _ _ _ _ (by assumption) (by assumption) ⟨rfl, _, _, put_end S hP (by rw [newIt_none (.inr (by omega))]; exact ⟨_, _, _, _, _, rfl⟩) hB.2⟩
  · (rename PlaceL _ _ _ _ => hP)
    have h0 := hP.1
    obtain ⟨hpl, am, y, hgv, hgx, tv', tt', tg', td', e', hmm⟩ := at_place S hP (by assumption)
    k_steps
    (rename _ ∧ AllLt _ led => hB)
    refine N_insert (by assumption) (by assumption) (by k_mem) (by omega) (by omega) (by omega) ?_
    intro h' F' N'
    rw [Int.toNat_natCast] at N'
    k_steps
    exact hret _ _ _ _ (by assumption) (by assumption) ⟨rfl, _, _, put_end S hP (by rw [newIt_some (by omega) hgx]; exact ⟨_, _, _, _, _, rfl⟩) hB.2⟩
end Mine
end

section
open PySem PySem.W PyProof.Rows PySem.Calls
set_option maxRecDepth 100000
set_option maxHeartbeats 2000000
namespace Mine

/-- one step of the squeeze at k -/
def sqStep (cap : Int) (k : Nat) (xs : List It) : List It :=
  match xs[k]?, xs[k + 1]? with
  | some x, some y => if x.g + y.g + y.d ≤ cap then xs.take k ++ { y with g := y.g + x.g } :: xs.drop (k + 2) else xs
  | _, _ => xs
def sqz (cap : Int) : Nat → List It → List It
  | 0, xs => xs
  | k + 1, xs => sqz cap k (sqStep cap (k + 1) xs)

theorem sqStep_yes {cap : Int} {k : Nat} {xs : List It} {x y : It} (hx : xs[k]? = some x) (hy : xs[k + 1]? = some y) (h : x.g + y.g + y.d ≤ cap) :
    sqStep cap k xs = xs.take k ++ { y with g := y.g + x.g } :: xs.drop (k + 2) := by
  unfold sqStep; rw [hx, hy]; simp only; rw [if_pos h]
theorem sqStep_no {cap : Int} {k : Nat} {xs : List It} {x y : It} (hx : xs[k]? = some x) (hy : xs[k + 1]? = some y) (h : ¬ x.g + y.g + y.d ≤ cap) :
    sqStep cap k xs = xs := by
  unfold sqStep; rw [hx, hy]; simp only; rw [if_neg h]

theorem sqz_pos {cap : Int} {k : Nat} {xs : List It} (h : 1 ≤ k) : sqz cap k xs = sqz cap (k - 1) (sqStep cap k xs) := by
  obtain ⟨j, rfl⟩ : ∃ j, k = j + 1 := ⟨k - 1, by omega⟩
  rfl
theorem sqStep_len {k : Nat} {xs : List It} {y' : It} (h : k + 1 < xs.length) : (xs.take k ++ y' :: xs.drop (k + 2)).length = xs.length - 1 := by
  simp; omega

theorem nodup_at {as : List Addr} (h : as.Nodup) {i j : Nat} {a b : Addr} (hi : as[i]? = some a) (hj : as[j]? = some b) (hn : i ≠ j) : a ≠ b := by
  rintro rfl
  obtain ⟨h1, e1⟩ := List.getElem?_eq_some_iff.mp hi
  exact hn ((List.getElem?_inj h1 h).mp (hi.trans hj.symm))

theorem SumAt.merge {led : List (Addr × Obj)} {l b : Addr} {as : List Addr} {xs : List It} {y' : It} {ob : Obj} {e k : Nat} (S : SumAt led l as xs) (hk : k + 1 < xs.length) (hb : as[k + 1]? = some b) (hy : Inner y' ob) :
    SumAt (lset (lset led b ob) l (listOf ((as.map Value.ref).take k ++ (as.map Value.ref).drop (k + 1)).toArray e)) l (as.take k ++ as.drop (k + 1)) (xs.take k ++ y' :: xs.drop (k + 2)) := by
  have hlen := S.len
  have hbl : b ≠ l := fun q => S.out (q ▸ List.mem_of_getElem? hb)
  refine ⟨⟨e, ?_⟩, ?_, ?_, ?_, ?_⟩
  · have e1 : (as.map Value.ref).take k ++ (as.map Value.ref).drop (k + 1) = (as.take k ++ as.drop (k + 1)).map Value.ref := by simp
    rw [e1]; exact lset_self
  · simp [hlen]; omega
  · rw [← List.eraseIdx_eq_take_drop_succ]
    exact S.nodup.sublist (List.eraseIdx_sublist _ _)
  · intro hm
    rcases List.mem_append.mp hm with hm | hm
    · exact S.out (List.mem_of_mem_take hm)
    · exact S.out (List.mem_of_mem_drop hm)
  · intro i a x h1 h2
    have keep : ∀ {j : Nat} {a : Addr} {x : It}, j ≠ k + 1 → as[j]? = some a → xs[j]? = some x → ∃ o, (a, o) ∈ lset (lset led b ob) l (listOf ((as.map Value.ref).take k ++ (as.map Value.ref).drop (k + 1)).toArray e) ∧ Inner x o := by
      intro j a x hj g1 g2
      obtain ⟨o, ho, hi⟩ := S.each j a x g1 g2
      exact ⟨o, lset_other (lset_other ho (nodup_at S.nodup g1 hb hj)) (fun q => S.out (q ▸ List.mem_of_getElem? g1)), hi⟩
    rcases Nat.lt_trichotomy i k with h | h | h
    · rw [List.getElem?_append_left (by simp; omega)] at h1 h2
      rw [List.getElem?_take_of_lt h] at h1 h2
      exact keep (by omega) h1 h2
    · subst h
      have a1 : (as.take i).length = i := by simp; omega
      have a2 : (xs.take i).length = i := by simp; omega
      rw [List.getElem?_append_right (by omega), a1] at h1
      rw [List.getElem?_append_right (by omega), a2] at h2
      rw [List.getElem?_drop] at h1
      simp at h1 h2
      rw [hb] at h1
      cases h1; cases h2
      exact ⟨ob, lset_other lset_self hbl, hy⟩
    · have a1 : (as.take k).length = k := by simp; omega
      have a2 : (xs.take k).length = k := by simp; omega
      rw [List.getElem?_append_right (by omega), a1] at h1
      rw [List.getElem?_append_right (by omega), a2] at h2
      obtain ⟨j, hj⟩ : ∃ j, i - k = j + 1 := ⟨i - k - 1, by omega⟩
      rw [hj] at h1 h2
      rw [List.getElem?_drop] at h1
      rw [List.getElem?_cons_succ, List.getElem?_drop] at h2
      rw [show k + 1 + (j + 1) = k + 2 + j by omega] at h1
      exact keep (by omega) h1 h2
end Mine
end

section
open PySem PySem.W PyProof.Rows
set_option maxRecDepth 100000
set_option maxHeartbeats 8000000
namespace Mine
set_option pp.deepTerms false
set_option pp.maxSteps 3000

local macro_rules | `(tactic| k_room) => `(tactic| ktr_room)
local macro_rules | `(tactic| k_units) => `(tactic| ktr_units)
local macro_rules | `(tactic| ktr_enter) => `(tactic| (refine' code_def ?k1 ?k2 ?k3 ?k4 ?k5 ?kA ?kF ?kK ?k6 ?k7 ?k8 ?k9 ?kB ?_ ?c2 ?c3 ?c4 ?c5; (case kA => exact rfl); (case kF => exact rfl); (case kK => assumption); (case k1 => k_asm); (case k2 => k_asm); (case k3 => k_asm); (case k4 => k_asm); (case k5 => k_asm); (case k6 => k_is); (case k7 => k_is); (case k8 => ktr_room); (case k9 => first | exact BindsTo.of_eq rfl | (refine' kp_binds ?kx ?ke; (case kx => k_in); (case ke => exact fun _ => rfl))); (case c5 => decide); (case kB => exact locs rfl); (case c2 => exact rfl); (case c3 => exact rfl); (case c4 => exact rfl); k_whole; intro g' L' h' FG' F' N' B' X' T'; (try dsimp only); (try k_fold)))


local macro_rules | `(tactic| walk_at "call builtin:len") => `(tactic| (k_here; (with_reducible show wpAny _ _ (call (Value.builtin "len") [Value.ref _]) _ _ _); k_dflt (refine' N_len ?N ?m ?z ?_; (case N => k_asm); (case m => k_mem); (case z => omega))))

local macro_rules | `(tactic| k_mem) => `(tactic| first | assumption | exact List.Mem.tail _ (by assumption) | exact List.Mem.tail _ (List.Mem.tail _ (by assumption)) | exact lset_self | exact lset_other (by assumption) (by assumption) | exact List.Mem.head _ | exact List.Mem.tail _ (List.Mem.head _))
local macro_rules | `(tactic| walk_at "subscriptTail") => `(tactic| (k_here; (with_reducible show wpAny _ _ (subscriptTail _ _ (Value.ref _) (Value.int _ _)) _ _ _); k_dflt (refine' N_item ?N ?m ?h0 ?h1 ?hx ?_ ?hs; (case N => k_asm); (case m => k_mem); (case hx => first | assumption | exact rfl); (case h0 => first | decide | omega); (case h1 => first | decide | omega); (case hs => with_unfolding_all rfl)); (try dsimp only)))


theorem squeeze_says (w : World) (l : Addr) (as : List Addr) (xs : List It) (cap : Int) (tc : Tok) (led : List (Addr × Obj))
   (S : SumAt led l as xs) (hz : xs.length < 2 ^ 20) :
   Says w 10 100 (.ref 53) [.ref l, .int cap tc] [] led (fun r led' => r = .none ∧ ∃ (as' : List Addr), (∀ a ∈ as', a ∈ as) ∧ SumAt led' l as' (sqz cap (xs.length - 2) xs) ∧ ∀ q ∈ led, q.1 ≠ l → q.1 ∉ as → q ∈ led') := by
  unfold Says
  k_fill
  intro dp un gd cn cs a ccd cl outer A₀ base h₀ L m mean mg mb s Q E B F X N T hk hdp hu hret
  obtain ⟨e, hm⟩ := S.main
  have hlen : (as.map Value.ref).length = xs.length := by rw [List.length_map, S.len]
  refine wpAny_call ?_
  k_dflt ktr_enter
  (generalize hst : Stmt.While _ _ _ _ = st)
  k_steps
  subst hst
  rename Fr _ _ _ _ => F1
  rename News _ _ _ _ => N1
  refine While_inv2 (fun n m₁ nx => ∃ (k : Int) (tk : Tok) (xs' : List It) (as' : List Addr), m₁ (Str.ofString "items") = some (.ref l) ∧ m₁ (Str.ofString "cap") = some (.int cap tc) ∧ m₁ (Str.ofString "k") = some (.int k tk) ∧
    n = k.toNat ∧ SumAt nx l as' xs' ∧ (∀ a ∈ as', a ∈ as) ∧ (∀ q ∈ led, q.1 ≠ l → q.1 ∉ as → q ∈ nx) ∧ sqz cap k.toNat xs' = sqz cap (xs.length - 2) xs ∧ (1 ≤ k → k + 1 < (xs'.length : Int)) ∧ xs'.length < 2 ^ 20 ∧ -10 < k) (n₀ := xs.length - 2) F1 N1 ?_ ?_
  · refine ⟨(xs.length : Int) - 2, _, xs, as, rfl, rfl, (by rw [← hlen]; rfl), by omega, S, fun _ h => h, fun q hq _ _ => hq, by congr 1; omega, fun _ => by omega, hz, by omega⟩
  clear F1 N1
  rintro n m₁ nx h tk F2 N2 ⟨k, tk', xs', as', ea, ec, ek, en, S', hsub, hkeep, hsq, hk1, hz', hk10⟩
  have F3 := fr_pins [(Str.ofString "items", .ref l), (Str.ofString "cap", .int cap tc), (Str.ofString "k", .int k tk')] ⟨ea, ec, ek, trivial⟩ F2
  dsimp only [pins] at F3
  clear F2
  by_cases hlt : 1 ≤ k
  · obtain ⟨kn, rfl⟩ : ∃ kn : Nat, k = (kn : Int) := ⟨k.toNat, by omega⟩
    have hkn := hk1 hlt
    obtain ⟨e', hm'⟩ := S'.main
    have hlen' : (as'.map Value.ref).length = xs'.length := by rw [List.length_map, S'.len]
    obtain ⟨a1, x1, hga1, hgv1, hgx1, tv1, tt1, tg1, td1, e1, hmm1⟩ := S'.at (i := kn) (by omega)
    obtain ⟨a2, x2, hga2, hgv2, hgx2, tv2, tt2, tg2, td2, e2, hmm2⟩ := S'.at (i := kn + 1) (by omega)
    have hv1 : (as'.map Value.ref)[((kn : Nat) : Int).toNat]? = some (.ref a1) := by rw [Int.toNat_natCast]; exact hgv1
    have hv2 : (as'.map Value.ref)[((kn : Nat) + 1 : Int).toNat]? = some (.ref a2) := by rw [show ((kn : Nat) + 1 : Int).toNat = kn + 1 by omega]; exact hgv2
    have hne1 : l ≠ a1 := fun q => S'.out (q ▸ List.mem_of_getElem? hga1)
    have hne2 : l ≠ a2 := fun q => S'.out (q ▸ List.mem_of_getElem? hga2)
    have hne3 : a1 ≠ a2 := nodup_at S'.nodup hga1 hga2 (by omega)
    k_steps
    · refine N_set (by assumption) (by assumption) hmm2 (by decide) (by simp) (by decide) ?_
      intro h' F' N'
      dsimp only
      k_steps
      refine N_pop (by assumption) (by assumption) (lset_other hm' hne2) (by omega) (by omega) hv1 ?_
      intro h'' F'' N''
      rw [Int.toNat_natCast] at N''
      dsimp only
      k_steps
      (rename _ ≤ cap => hc)
      have hk2 : kn + 1 < xs'.length := by omega
      have hl2 := sqStep_len (y' := { x2 with g := x2.g + x1.g }) hk2
      refine ws2 (n' := kn - 1) (by assumption) (by assumption) (fun _ hp => hp) (by omega) ⟨(kn : Int) - 1, _, xs'.take kn ++ { x2 with g := x2.g + x1.g } :: xs'.drop (kn + 2), as'.take kn ++ as'.drop (kn + 1), rfl, rfl, rfl, by omega, S'.merge hk2 hga2 ⟨_, _, _, _, _, rfl⟩, ?_, ?_, ?_, by omega, by omega, by omega⟩
      · intro z hz1
        rcases List.mem_append.mp hz1 with hz1 | hz1
        · exact hsub _ (List.mem_of_mem_take hz1)
        · exact hsub _ (List.mem_of_mem_drop hz1)
      · intro q hq hq1 hq2
        exact lset_other (lset_other (hkeep q hq hq1 hq2) (fun e => hq2 (e ▸ hsub _ (List.mem_of_getElem? hga2)))) hq1
      · rw [← hsq, Int.toNat_natCast, sqz_pos (by omega : 1 ≤ kn), sqStep_yes hgx1 hgx2 hc, show ((kn : Int) - 1).toNat = kn - 1 by omega]
    · (rename ¬ _ ≤ cap => hc)
      refine ws2 (n' := kn - 1) (by assumption) (by assumption) (fun _ hp => hp) (by omega) ⟨(kn : Int) - 1, _, xs', as', rfl, rfl, rfl, by omega, S', hsub, hkeep, ?_, by omega, hz', by omega⟩
      rw [← hsq, Int.toNat_natCast, sqz_pos (by omega : 1 ≤ kn), sqStep_no hgx1 hgx2 hc, show ((kn : Int) - 1).toNat = kn - 1 by omega]
  · k_steps
    exact hret _ _ _ _ (by assumption) (by assumption) ⟨rfl, as', hsub, (by rw [← hsq, show k.toNat = 0 by omega]; exact S'), hkeep⟩
end Mine
end

section
open PySem PySem.W PyProof.Rows PySem.Calls
set_option maxRecDepth 100000
set_option maxHeartbeats 2000000
namespace Mine

abbrev prg : Program := PySem.Challenge.rw_dj5003_01.row.prog
abbrev kT (w : World) : HeapKind prg w (List Int) := tupleKind (intKind prg w)

/-- a tuple of ints -/
def TupInts (ks : List Int) (o : Obj) : Prop := ∃ vs n, o = { cls := .type "tuple", data := .seq vs n } ∧ IntsAre vs.toList ks

theorem ints_items {prog : Program} {w : World} : ∀ {vs : List Value} {ks : List Int}, IntsAre vs ks → ItemsAre (intKind prog w) ks vs
  | _, _, .nil => .nil
  | _, _, .cons k t r => .cons (by show Value.isInt k (.int k t) = true; simp [Value.isInt]) (ints_items r)

theorem TupInts.key {w : World} {h : Heap} {a : Addr} {o : Obj} {ks : List Int} (ho : h.get? a = some o) (T : TupInts ks o) : (kT w).is h ks a := by
  obtain ⟨vs, n, rfl, hi⟩ := T
  exact ⟨_, vs, n, ho, rfl, rfl, ints_items hi⟩

structure DictIn (w : World) (led : List (Addr × Obj)) (d : Addr) (es : List (List Int × Addr × Value)) : Prop where
  main : ∃ ob ents ep, (d, ob) ∈ led ∧ ob.ExactDict ∧ ob.data = .dict ents ep ∧ ents.toList = es.map (entryOfKey (kT w))
  keys : ∀ x ∈ es, ∃ o, (x.2.1, o) ∈ led ∧ TupInts x.1 o
  nodup : (es.map (·.1)).Nodup

theorem DictIn.mono {w : World} {led led' : List (Addr × Obj)} {d : Addr} {es : List (List Int × Addr × Value)} (D : DictIn w led d es) (h : ∀ p ∈ led, p ∈ led') : DictIn w led' d es :=
  ⟨let ⟨ob, ents, ep, h1, h2⟩ := D.main; ⟨ob, ents, ep, h _ h1, h2⟩, fun x hx => let ⟨o, h1, h2⟩ := D.keys x hx; ⟨o, h _ h1, h2⟩, D.nodup⟩

theorem DictIn.at {w : World} {led : List (Addr × Obj)} {d : Addr} {es : List (List Int × Addr × Value)} {h₀ h : Heap} {L : Addr} (D : DictIn w led d es) (N : News h₀ L h led) : h.DictOfH (kT w) d es := by
  obtain ⟨ob, ents, ep, h1, h2, h3, h4⟩ := D.main
  refine ⟨ob, ents, ep, (N _ h1).1, h2, h3, h4, fun x hx => ?_, D.nodup⟩
  obtain ⟨o, ho, ht⟩ := D.keys x hx
  exact ht.key (N _ ho).1

/-- the dict of ranks of the points D, in their order -/
def RankAt (w : World) (led : List (Addr × Obj)) (rk : Addr) (D : List (Int × Int)) : Prop :=
  ∃ es, DictIn w led rk es ∧ ∀ (i : Nat) (q : Int × Int), D[i]? = some q → ∃ a t, es[i]? = some ([q.1, q.2], a, .int ((i : Int) + 1) t)

theorem RankAt.mono {w : World} {led led' : List (Addr × Obj)} {rk : Addr} {D : List (Int × Int)} (R : RankAt w led rk D) (h : ∀ p ∈ led, p ∈ led') : RankAt w led' rk D :=
  let ⟨es, h1, h2⟩ := R; ⟨es, h1.mono h, h2⟩

def rankOf (D : List (Int × Int)) (v t : Int) : Int := (D.idxOf (v, t) : Int) + 1

theorem rank_idx {D : List (Int × Int)} {v t : Int} (h : (v, t) ∈ D) : D[D.idxOf (v, t)]? = some (v, t) := by
  have h1 := List.idxOf_lt_length_of_mem h
  rw [List.getElem?_eq_getElem h1]
  simp

section
variable {w : World} {A : Around} {E : Value → Shared → Prop} {s : Shared} {h₀ : Heap} {L rk a : Addr} {m : Str → Option Value} {led : List (Addr × Obj)}

theorem N_rank {value slice : PySem.Expr} {D : List (Int × Int)} {v t : Int} {oa : Obj} {Q : Value → Shared → Prop} (N : News h₀ L s.heap led) (hu : A.units + 1 < cLine) (R : RankAt w led rk D) (hd : (v, t) ∈ D) (ha : (a, oa) ∈ led) (ht : TupInts [v, t] oa)
    (h : ∀ tk tk', Q (.int (rankOf D v t) tk) { s with toks := tk' })
    (hs : subscripted slice false (.ref rk) (.ref a) = operate [.ref rk, .ref a] (getItem (.ref rk) (.ref a)) := by with_unfolding_all rfl) :
    wpAny (model prg w) A (subscriptTail value slice (.ref rk) (.ref a)) Q E s := by
  obtain ⟨es, DI, hR⟩ := R
  obtain ⟨a', t', he⟩ := hR _ _ (rank_idx hd)
  have hm := DI.at N
  refine tail_any hm.typeIs slot_dict_getitem.lookup ?_ hs
  refine wpAny_getItem_heap (p := (a', .int ((D.idxOf (v, t) : Nat) + 1) t')) (k := [v, t]) (show (kT w).room A.in1 from hu) (ht.key (N _ ha).1) hm (atKey_of_get DI.nodup he) ?_
  exact h _ _

theorem N_dictSet {k : List Int} {v : Value} {es : List (List Int × Addr × Value)} {oa : Obj} {Q : Unit → Shared → Prop} (F : Fr h₀ L s.heap m) (N : News h₀ L s.heap led) (hu : A.units + 1 < cLine) (DI : DictIn w led rk es) (ha : (a, oa) ∈ led) (ht : TupInts k oa)
    (hnew : ∀ x ∈ es, x.1 ≠ k) (hz : es.length < 2 ^ 20)
    (h : ∀ h' tk ob, Fr h₀ L h' m → News h₀ L h' (lset led rk ob) → DictIn w (lset led rk ob) rk (es ++ [(k, a, v)]) → Q () { s with heap := h', toks := tk }) :
    wpAny (model prg w) A (setItem (.ref rk) (.ref a) v) Q E s := by
  obtain ⟨ob0, ents, ep, h1, h2, h3, h4⟩ := DI.main
  have hm := DI.at N
  have z := N _ h1
  refine wpAny_setItem_heap (k := k) (show (kT w).room A.in1 from hu) (ht.key (N _ ha).1) hm (fun h' hm' hs' => ?_) (by rw [sizeLine_eq]; omega)
  have hst : storedH es k a v = es ++ [(k, a, v)] := storedH_new (atKey_none_of_get fun j p hj => hnew _ (List.mem_of_getElem? hj) rfl) a v
  rw [hst] at hm'
  obtain ⟨ob, ents', ep', g1, g2, g3, g4, g5, g6⟩ := hm'
  have tupne : ∀ {b : Addr} {o : Obj} {ks : List Int}, (b, o) ∈ led → TupInts ks o → b ≠ rk := by
    rintro b o ks hb ⟨vs, n, rfl, _⟩ rfl
    have e1 := (N _ hb).1
    rw [z.1] at e1
    cases e1
    cases h3
  have F' : Fr h₀ L h' m := F.change hs' z.2.1 z.2.2
  have N' : News h₀ L h' (lset led rk ob) := fun p hp => by
    rcases mem_lset.mp hp with rfl | ⟨q1, q2⟩
    · exact ⟨g1, z.2⟩
    · exact ⟨(hs'.2 _ q2).trans (N _ q1).1, (N _ q1).2⟩
  refine h h' _ ob F' N' ⟨⟨ob, ents', ep', lset_self, g2, g3, g4⟩, fun x hx => ?_, g6⟩
  rcases List.mem_append.mp hx with hx | hx
  · obtain ⟨o, ho, hto⟩ := DI.keys x hx
    exact ⟨o, lset_other ho (tupne ho hto), hto⟩
  · rw [List.mem_singleton.mp hx]
    exact ⟨oa, lset_other ha (tupne ha ht), ht⟩
end

/-- the least ranks: the sums of g up to i -/
def lowAt (xs : List It) (i : Nat) : Int := ((xs.take (i + 1)).map (·.g)).sum

/-- what _law_holds looks at -/
structure HoldsOk (xs : List It) (D : List (Int × Int)) (count bound : Int) : Prop where
  mem : ∀ (i : Nat) (x : It), xs[i]? = some x → (x.v, x.t) ∈ D
  rk : ∀ (i : Nat) (x : It), xs[i]? = some x → lowAt xs i ≤ rankOf D x.v x.t ∧ rankOf D x.v x.t ≤ lowAt xs i + x.d ∧ x.g + x.d ≤ bound
  sorted : xs.Pairwise fun y z => plt y.v y.t z.v z.t = true
  first : ∀ x, xs[0]? = some x → rankOf D x.v x.t = 1
  last : ∀ x, xs[xs.length - 1]? = some x → rankOf D x.v x.t = count
  sum : (xs.map (·.g)).sum = count
  ne : 0 < xs.length
end Mine
end

section
open PySem PySem.W PyProof.Rows PySem.Calls
set_option maxRecDepth 100000
set_option maxHeartbeats 2000000
namespace Mine

def LstP (x : It) (o : Obj) : Prop := o.cls = .type "list" ∧ ∃ tv tt n, o.data = .seq #[.int x.v tv, .int x.t tt] n

structure PairsAt (led : List (Addr × Obj)) (D : Addr) (Ts : List Addr) (xs : List It) : Prop where
  main : ∃ n, (D, listOf (Ts.map Value.ref).toArray n) ∈ led
  len : Ts.length = xs.length
  each : ∀ (i : Nat) (T : Addr) (x : It), Ts[i]? = some T → xs[i]? = some x → ∃ o, (T, o) ∈ led ∧ LstP x o

theorem paired_get {α β : Type} {F : α → β → Prop} : ∀ {l₁ : List α} {l₂ : List β}, Paired F l₁ l₂ → l₁.length = l₂.length ∧ ∀ (i : Nat) (a : α), l₁[i]? = some a → ∃ b, l₂[i]? = some b ∧ F a b
  | _, _, .nil => ⟨rfl, fun i a h => by simp at h⟩
  | _, _, .cons h t => by
    obtain ⟨h1, h2⟩ := paired_get t
    refine ⟨by simp [h1], fun i a hi => ?_⟩
    cases i with
    | zero => simp at hi; subst hi; exact ⟨_, by simp, h⟩
    | succ j => simpa using h2 j a (by simpa using hi)

section
variable {prog : Program} {w : World} {A : Around} {E : Value → Shared → Prop} {s : Shared} {env : Env} {h₀ : Heap} {m : Str → Option Value} {led : List (Addr × Obj)} {l : Addr} {as : List Addr} {xs : List It}

theorem N_comp {x y : Str} {kk : Nat} {iter : Expr} {px px2 py pc pp pos1 pos spos : Pos} {scope : Scope} {cl : List (Str × Addr)} {Q : Flow → Shared → Prop}
    (hh : A.handled = none) (F : Fr h₀ env.locals s.heap m) (N : News h₀ env.locals s.heap led) (S : SumAt led l as xs) (hz : xs.length < 2 ^ 20)
    (hit : ∀ Q' : Value → Shared → Prop, Q' (.ref l) s → wpAny (model prog w) A (eval iter env) Q' E s)
    (hsw : swapsWith (.ListComp (.Subscript (.Name x px2) (.Slice none (some (.Constant (.int 2) kk pc)) none pp) pos1) [⟨.Name x px, iter, [], 0⟩] scope pos) (some (.Name y py)) spos.line env = pure true)
    (hclos : closureFor scope env = pure cl) (hcell : ∀ z ∈ scope.names, z.2 ≠ .cell) (hkind : scope.kind = .function)
    (hnames : ∀ z ∈ scope.names, z.2 = .local → scope.names.lookup z.1 = some .local) (hx : scope.names.lookup x = some .local) (hxd : (x == ("__debug__" : Str)) = false)
    (hy : env.kindOf y = some .local) (hp : (env.scope.kind == .class || (env.scope.kind == .module && env.locals != env.globals)) = false)
    (hs : ∀ x, foldedSetIterable iter env x = pure x)
    (hQ : ∀ D Ts h' tk led', Fr h₀ env.locals h' (fun z => if z = y then some (.ref D) else m z) → News h₀ env.locals h' led' → (∀ p ∈ led, p ∈ led') → PairsAt led' D Ts xs → Q .next { s with heap := h', toks := tk }) :
    wpAny (model prog w) A (exec (.Assign [.Name y py] (.ListComp (.Subscript (.Name x px2) (.Slice none (some (.Constant (.int 2) kk pc)) none pp) pos1) [⟨.Name x px, iter, [], 0⟩] scope pos) spos) env) Q E s := by
  obtain ⟨e, hm⟩ := S.main
  have hls : s.heap.IsList l (as.map Value.ref).toArray := News.isList N hm
  have hol := (N _ hm).1
  have hlt : l < s.heap.objs.size := Heap.lt_size hol
  have hne : l ≠ s.heap.objs.size := Nat.ne_of_lt hlt
  have hlen := S.len
  rw [exec_Assign_Name_used _ _ _ _ hsw]
  refine wpAny_bind (wpAny_standAt (wpAny_bind ?_))
  show wpAny _ A (do let _ ← comprehension (.ListComp (.Subscript (.Name x px2) (.Slice none (some (.Constant (.int 2) kk pc)) none pp) pos1) [⟨.Name x px, iter, [], 0⟩] scope pos) scope env _ (newList []) false (eval iter env) (some (assign (.Name y py) env))) _ _ s
  refine wpAny_bind (wpAny_mono (wpAny_comprehension_free (use := some (assign (.Name y py) env)) (Q := fun _ s' => Q .next s') rfl hs hclos hkind hnames
    (hit _ ?_)) (fun _ s' hq => wpAny_pure (wpAny_pure hq)) fun _ _ e => e)
  refine wpAny_pyIter_list hls ?_
  have W := Walks.list (prog := prog) (w := w) hh s.heap.objs.size l hne (as.map Value.ref).toArray
  have hsz : (as.map Value.ref).toArray.size = xs.length := by simp [hlen]
  rw [hsz] at W
  have up : ∀ b o, s.heap.get? b = some o → (s.heap.push { cls := .type "list_iterator", data := .fields #[.ref l, .int 0 0] }).get? b = some o := fun b o e => Heap.get?_push_of_some _ e
  refine comp_block_walkCO (RR := fun acc C => compPost (model prog w) A E (some (assign (.Name y py) env)) (fun _ s' => Q .next s') acc C) W (by rw [sizeLine_eq]; omega) (fun _ => true)
    (fun v its => ∃ (i : Nat) (z : It) (tv tt : Tok), (as.map Value.ref)[i]? = some v ∧ xs[i]? = some z ∧ its = #[.int z.v tv, .int z.t tt])
    (fun i h st => ?_) hcell hkind hx ⟨⟨_, Heap.get?_push_size _ rfl, rfl, rfl⟩, hls.at fun o e => up _ o e⟩ (fun b hb => ?_) ⟨?_, ?_⟩ ?_
  · intro b hb
    obtain ⟨⟨oi, hoi, _⟩, _⟩ := st
    rw [List.mem_singleton.mp hb]; exact ⟨oi, hoi⟩
  · show b < (s.heap.push _).objs.size
    rw [Heap.size_push]
    rcases List.mem_cons.mp hb with rfl | hb
    · exact Nat.lt_succ_self _
    · rw [List.mem_singleton.mp hb]; exact Nat.lt_succ_of_lt hlt
  · intro C i v s₃ m₃ E' hC hP hn hv hk ht
    exact wpAny_pure ⟨rfl, s₃.heap, s₃.toks, rfl, fun _ _ e => e⟩
  · intro C i v s₃ m₃ E' hC hP _ hn hv hk ht
    have hP' : (as.map Value.ref)[i]? = some v := by simpa using hP
    have hi : i < xs.length := by
      rcases Nat.lt_or_ge i xs.length with h1 | h1
      · exact h1
      · rw [List.getElem?_eq_none (by rw [List.length_map, hlen]; exact h1)] at hP'; cases hP'
    obtain ⟨a, z, g1, g2, g3, tv, tt, tg, td, en, ho⟩ := S.at hi
    obtain rfl : v = .ref a := by rw [g2] at hP'; exact (Option.some.inj hP').symm
    have ha : s₃.heap.get? a = some (listOf #[.int z.v tv, .int z.t tt, .int z.g tg, .int z.d td] en) := by
      have e1 := (N _ ho).1
      refine hk _ _ (fun hm => ?_) (up _ _ e1)
      rw [List.mem_singleton.mp hm] at e1
      exact Nat.lt_irrefl _ (Heap.lt_size e1)
    refine wpAny_Subscript_list_slice (wpAny_Name (wpAny_loadName_local (by simp [compEnvC, relabel, hkind]) (lookup_relabel_local hx) hn hv ?_) hxd)
    refine evalPart_none_step (evalPart_some_step (wpAny_Constant_int ?_))
    refine ⟨a, #[.int z.v tv, .int z.t tt, .int z.g tg, .int z.d td], none, some 2, rfl, ⟨_, ha, rfl, _, rfl⟩, by rw [sizeLine_eq]; simp, .none, .int _ _, ?_, ?_⟩
    · refine ⟨_, _, rfl, ?_, ⟨_, by rw [← Heap.size_push]; exact Heap.get?_push_size _ rfl, rfl, _, rfl⟩, i, z, tv, tt, g2, g3, ?_⟩
      · exact Heap.get?_none_of_le (Nat.le_succ _)
      · rfl
    · exact ⟨_, _, rfl, fun b o e => Heap.get?_push_of_some _ (Heap.get?_push_of_some _ e)⟩
  · intro D C h' tk m' ys vs hD hC hDC hnC hlD hplD hlenv hP hF hnd hk
    have hvs : vs = as.map Value.ref := by
      have := walked_is (items := (as.map Value.ref).toArray) (by rw [hlenv, hsz]) hP
      simpa using this
    subst hvs
    have hLs : ∃ o, s.heap.get? env.locals = some o := let ⟨o, _, _, ho, _⟩ := F.ns; ⟨o, ho⟩
    obtain ⟨oL, hoL⟩ := hLs
    have hLI : env.locals ∉ [s.heap.objs.size] := fun q => by rw [List.mem_singleton.mp q] at hoL; exact Nat.lt_irrefl _ (Heap.lt_size hoL)
    have hLC : env.locals ≠ C := by rintro rfl; rw [up _ _ hoL] at hC; cases hC
    have hLD : env.locals ≠ D := by rintro rfl; rw [up _ _ hoL] at hD; cases hD
    have nsL : h'.Ns env.locals m := F.ns.at' fun o e => hk _ o hLI (up _ _ e)
    have sk : ∀ b o, s.heap.get? b = some o → h'.get? b = some o := fun b o e => hk b o (fun q => by rw [List.mem_singleton.mp q] at e; exact Nat.lt_irrefl _ (Heap.lt_size e)) (up _ _ e)
    show wpAny _ A (assign (.Name y py) env (.ref D)) _ _ _
    refine wpAny_assign_Name (wpAny_storeName_local hy nsL (fun h₂ hn₂ hs₂ => ?_) hp)
    refine ⟨m', hnC.sameBut hs₂ (Ne.symm hLC), fun h₃ hs₃ => ?_⟩
    have k3 : ∀ b o, b ≠ env.locals → b ≠ C → h'.get? b = some o → h₃.get? b = some o := fun b o q1 q2 e => hs₃.extBut b o q2 (hs₂.extBut b o q1 e)
    have notC : ∀ b o, s.heap.get? b = some o → b ≠ C := fun b o e q => by rw [q] at e; rw [up _ _ e] at hC; cases hC
    have newL : ∀ b, (s.heap.push { cls := .type "list_iterator", data := .fields #[.ref l, .int 0 0] }).get? b = none → h₀.get? b = none := fun b q => by
      cases e : h₀.get? b with
      | none => rfl
      | some o => rw [up _ _ (F.keep b o e)] at q; cases q
    have F₃ : Fr h₀ env.locals h₃ (fun z => if z = y then some (.ref D) else m z) := by
      refine ⟨hn₂.sameBut hs₃ hLC, fun b o e => ?_, F.above⟩
      have e1 := F.keep b o e
      exact k3 b o (Nat.ne_of_lt (Nat.lt_of_lt_of_le (Heap.lt_size e) F.above)) (notC b o e1) (sk b o e1)
    rw [List.filter_eq_self.mpr (fun _ _ => rfl)] at hF
    obtain ⟨hl1, hget⟩ := paired_get hF
    -- the addresses of the new lists
    have hTs : ∃ Ts : List Addr, ys.toList = Ts.map Value.ref := by
      have : ∀ v ∈ ys.toList, ∃ T, v = Value.ref T := by
        intro v hv
        obtain ⟨i, hi⟩ := List.mem_iff_getElem?.mp hv
        have hi' : i < (as.map Value.ref).length := by
          rw [hl1]
          rcases Nat.lt_or_ge i ys.toList.length with h1 | h1
          · exact h1
          · rw [List.getElem?_eq_none h1] at hi; cases hi
        obtain ⟨b, hb, T, its, rfl, _⟩ := hget i _ (List.getElem?_eq_getElem hi')
        rw [hi] at hb
        exact ⟨T, Option.some.inj hb⟩
      clear hget hl1 hF hplD hlD hnd
      generalize ys.toList = L at this
      induction L with
      | nil => exact ⟨[], rfl⟩
      | cons v r ih =>
        obtain ⟨T, rfl⟩ := this v (List.mem_cons_self ..)
        obtain ⟨Ts, hTs⟩ := ih fun u hu => this u (List.mem_cons_of_mem _ hu)
        exact ⟨T :: Ts, by simp [hTs]⟩
    obtain ⟨Ts, hTs⟩ := hTs
    obtain ⟨nD, hpl⟩ := hplD
    have hys : ys = (Ts.map Value.ref).toArray := by rw [← hTs]
    have hTlen : Ts.length = xs.length := by
      have : (as.map Value.ref).length = (Ts.map Value.ref).length := by rw [← hTs]; exact hl1
      rw [List.length_map, List.length_map] at this; omega
    have each : ∀ (i : Nat) (T : Addr) (z : It), Ts[i]? = some T → xs[i]? = some z → ∃ o, h₃.get? T = some o ∧ T ≠ env.locals ∧ h₀.get? T = none ∧ LstP z o := by
      intro i T z hT hz'
      have hi : i < xs.length := by
        rcases Nat.lt_or_ge i xs.length with h1 | h1
        · exact h1
        · rw [List.getElem?_eq_none h1] at hz'; cases hz'
      have hia : i < as.length := by omega
      have hva : (as.map Value.ref)[i]? = some (.ref as[i]) := by simp [hia]
      obtain ⟨b, hb, T', its, rfl, hnone, hTC, hTw, hTD, hlT, j, z', tv, tt, gj, gz, rfl⟩ := hget i _ hva
      have hTT : T' = T := by
        rw [hTs] at hb
        simp [hT] at hb
        exact hb.symm
      subst hTT
      have hij : i = j := by
        have h1 : as[i]? = some as[i] := by simp [hia]
        have ga : as[j]? = some as[i] := by simpa using gj
        cases Classical.em (i = j) with
        | inl h => exact h
        | inr h => exact absurd rfl (nodup_at S.nodup h1 ga h)
      subst hij
      rw [hz'] at gz
      cases gz
      obtain ⟨o, ho, hc, n, hd⟩ := hlT
      have hTL : T' ≠ env.locals := fun q => by rw [q] at hnone; rw [up _ _ hoL] at hnone; cases hnone
      exact ⟨o, k3 T' o hTL hTC ho, hTL, newL T' hnone, hc, tv, tt, n, hd⟩
    refine hQ D Ts h₃ _ ((D, listOf (Ts.map Value.ref).toArray nD) :: (Ts.map (fun T => (T, (h₃.get? T).getD default)) ++ led)) F₃ (fun p hp => ?_) (fun p hp => List.mem_cons_of_mem _ (List.mem_append_right _ hp)) ⟨⟨nD, List.mem_cons_self ..⟩, hTlen, fun i T z h1 h2 => ?_⟩
    · rcases List.mem_cons.mp hp with rfl | hp
      · exact ⟨by rw [← hys]; exact k3 D _ (Ne.symm hLD) hDC hpl, Ne.symm hLD, newL D hD⟩
      · rcases List.mem_append.mp hp with hp | hp
        · obtain ⟨T, hT, rfl⟩ := List.mem_map.mp hp
          obtain ⟨i, hi⟩ := List.mem_iff_getElem?.mp hT
          have hi' : i < xs.length := by
            rcases Nat.lt_or_ge i xs.length with h1 | h1
            · exact h1
            · rw [List.getElem?_eq_none (by omega)] at hi; cases hi
          obtain ⟨o, g1, g2, g3, _⟩ := each i T xs[i] hi (by simp [hi'])
          exact ⟨by simp [g1], g2, g3⟩
        · have z := N p hp
          exact ⟨k3 _ _ z.2.1 (notC _ _ z.1) (sk _ _ z.1), z.2⟩
    · obtain ⟨o, g1, g2, g3, g4⟩ := each i T z h1 h2
      refine ⟨o, List.mem_cons_of_mem _ (List.mem_append_left _ (List.mem_map.mpr ⟨T, List.mem_of_getElem? h1, ?_⟩)), g4⟩
      simp [g1]
end
end Mine
end

section
open PySem PySem.W PyProof.Rows PySem.Calls
set_option maxRecDepth 100000
set_option maxHeartbeats 2000000
namespace Mine

/-- every question lies within n, and the answers by `ans` lead to `post` -/
def KGood {α : Type} (n : Nat) (ans : Nat → Nat → Bool) (post : α → Prop) : KasT α → Prop
  | .ret a => post a
  | .ask i j k => i < n ∧ j < n ∧ KGood n ans post (k (ans i j))

theorem kgood_bind {α β : Type} {n : Nat} {ans : Nat → Nat → Bool} {post : β → Prop} {f : α → KasT β} : ∀ {t : KasT α}, KGood n ans (fun a => KGood n ans post (f a)) t → KGood n ans post (t.bind f)
  | .ret _, h => h
  | .ask _ _ _, ⟨h1, h2, h3⟩ => ⟨h1, h2, kgood_bind h3⟩

theorem kgood_mono {α : Type} {n : Nat} {ans : Nat → Nat → Bool} {post post' : α → Prop} (hp : ∀ a, post a → post' a) : ∀ {t : KasT α}, KGood n ans post t → KGood n ans post' t
  | .ret _, h => hp _ h
  | .ask _ _ _, ⟨h1, h2, h3⟩ => ⟨h1, h2, kgood_mono hp h3⟩

theorem kgood_wp {α : Type} {n : Nat} {ans : Nat → Nat → Bool} {post : α → Prop} {cmp : Nat → Nat → (Bool → Shared → Prop) → Shared → Prop} {Q : α → Shared → Prop} {s : Shared}
    (hc : ∀ i j, i < n → j < n → ∀ C : Bool → Shared → Prop, C (ans i j) s → cmp i j C s) (hq : ∀ a, post a → Q a s) : ∀ {t : KasT α}, KGood n ans post t → t.kasWp cmp Q s
  | .ret _, h => hq _ h
  | .ask _ _ _, ⟨h1, h2, h3⟩ => hc _ _ h1 h2 _ (kgood_wp hc hq h3)

abbrev pk (p : Array Nat) (i : Nat) : Nat := p.getD i 0

structure PermN (n : Nat) (p : Array Nat) : Prop where
  size : p.size = n
  lt : ∀ i, i < n → pk p i < n
  inj : ∀ i j, i < n → j < n → pk p i = pk p j → i = j

structure TotalOn (n : Nat) (ans : Nat → Nat → Bool) : Prop where
  irr : ∀ i, i < n → ans i i = false
  tr : ∀ i j k, i < n → j < n → k < n → ans i j = true → ans j k = true → ans i k = true
  tot : ∀ i j, i < n → j < n → i ≠ j → ans i j = false → ans j i = true

def Asc (ans : Nat → Nat → Bool) (p : Array Nat) (k : Nat) : Prop := ∀ a b, a < b → b < k → ans (pk p a) (pk p b) = true
def Dsc (ans : Nat → Nat → Bool) (p : Array Nat) (k : Nat) : Prop := ∀ a b, a < b → b < k → ans (pk p b) (pk p a) = true

theorem pk_of {p q : Array Nat} {i j : Nat} (h : p[i]? = q[j]?) : pk p i = pk q j := by
  unfold pk
  rw [Array.getD_eq_getD_getElem?, Array.getD_eq_getD_getElem?, h]

theorem pk_rev {p : Array Nat} {j : Nat} (hj : j ≤ p.size) (k : Nat) : pk (kas_rev p 0 j) k = if k < j then pk p (j - 1 - k) else pk p k := by
  have e := getElem?_mirror_all (i := 0) hj k
  by_cases h : k < j
  · rw [if_pos h]
    rw [if_pos ⟨Nat.zero_le _, h⟩] at e
    rw [show 0 + j - 1 - k = j - 1 - k by omega] at e
    exact pk_of e
  · rw [if_neg h]
    rw [if_neg (fun q => h q.2)] at e
    exact pk_of e

theorem pk_bubble {p : Array Nat} {k l : Nat} (hk : k < p.size) (hl : l ≤ k) (i : Nat) : pk (bubble p k (k - l)) i = if i = l then pk p k else if l < i ∧ i ≤ k then pk p (i - 1) else pk p i := by
  have e := getElem?_bubble hk (k - l) (by omega) i
  rw [show k - (k - l) = l by omega] at e
  by_cases h1 : i = l
  · rw [if_pos h1]; rw [if_pos h1] at e; exact pk_of e
  · rw [if_neg h1]; rw [if_neg h1] at e
    by_cases h2 : l < i ∧ i ≤ k
    · rw [if_pos h2]; rw [if_pos h2] at e; exact pk_of e
    · rw [if_neg h2]; rw [if_neg h2] at e; exact pk_of e

section
variable {n : Nat} {ans : Nat → Nat → Bool}

theorem perm_rev {p : Array Nat} {j : Nat} (hj : j ≤ n) (P : PermN n p) : PermN n (kas_rev p 0 j) := by
  have hs := P.size
  refine ⟨by rw [← hs]; exact mirror_size _ _ _ _, fun i hi => ?_, fun a b ha hb h => ?_⟩
  · rw [pk_rev (by omega)]
    split
    · exact P.lt _ (by omega)
    · exact P.lt _ hi
  · rw [pk_rev (by omega), pk_rev (by omega)] at h
    split at h <;> split at h
    · have := P.inj _ _ (by omega) (by omega) h; omega
    · have := P.inj _ _ (by omega) (by omega) h; omega
    · have := P.inj _ _ (by omega) (by omega) h; omega
    · exact P.inj _ _ ha hb h

theorem perm_bubble {p : Array Nat} {k l : Nat} (hk : k < n) (hl : l ≤ k) (P : PermN n p) : PermN n (bubble p k (k - l)) := by
  have hs := P.size
  refine ⟨by rw [← hs]; exact bubble_size _ _ _, fun i hi => ?_, fun a b ha hb h => ?_⟩
  · rw [pk_bubble (by omega) hl]
    split
    · exact P.lt _ hk
    · split
      · exact P.lt _ (by omega)
      · exact P.lt _ hi
  · rw [pk_bubble (by omega) hl, pk_bubble (by omega) hl] at h
    repeat' split at h
    all_goals (have := P.inj _ _ (by omega) (by omega) h; omega)

theorem asc_snoc (T : TotalOn n ans) {p : Array Nat} {k : Nat} (P : PermN n p) (hk : k < n) (h1 : 1 ≤ k) (h : Asc ans p k) (hc : ans (pk p k) (pk p (k - 1)) = false) : Asc ans p (k + 1) := by
  have last : ans (pk p (k - 1)) (pk p k) = true := T.tot _ _ (P.lt _ hk) (P.lt _ (by omega)) (fun e => by have := P.inj _ _ hk (by omega) e; omega) hc
  intro a b hab hb
  rcases Nat.lt_or_ge b k with hbk | hbk
  · exact h a b hab hbk
  · have : b = k := by omega
    subst this
    rcases Nat.lt_or_ge a (b - 1) with ha | ha
    · exact T.tr _ _ _ (P.lt _ (by omega)) (P.lt _ (by omega)) (P.lt _ hk) (h a (b - 1) ha (by omega)) last
    · have : a = b - 1 := by omega
      subst this; exact last

theorem good_asc (T : TotalOn n ans) {p : Array Nat} (P : PermN n p) : ∀ (f k : Nat), 1 ≤ k → k + f ≤ n → Asc ans p k →
    KGood n ans (fun m => k ≤ m ∧ m ≤ k + f ∧ Asc ans p m ∧ (m < k + f → ans (pk p m) (pk p (m - 1)) = true)) (kas_asc p f k)
  | 0, k, _, _, h => ⟨Nat.le_refl _, Nat.le_refl _, h, fun q => absurd q (Nat.lt_irrefl _)⟩
  | f + 1, k, h1, hf, h => by
    refine ⟨P.lt _ (by omega), P.lt _ (by omega), ?_⟩
    show KGood n ans _ (if ans (pk p k) (pk p (k - 1)) = true then KasT.ret k else kas_asc p f (k + 1))
    cases hc : ans (pk p k) (pk p (k - 1)) with
    | true => simp only [if_true]; exact ⟨Nat.le_refl _, by omega, h, fun _ => hc⟩
    | false =>
      simp only [Bool.false_eq_true, if_false]
      refine kgood_mono (fun m hm => ?_) (good_asc T P f (k + 1) (by omega) (by omega) (asc_snoc T P (by omega) h1 h hc))
      exact ⟨by omega, by omega, hm.2.2.1, fun q => hm.2.2.2 (by omega)⟩

theorem dsc_snoc (T : TotalOn n ans) {p : Array Nat} {k : Nat} (P : PermN n p) (hk : k < n) (h1 : 1 ≤ k) (h : Dsc ans p k) (hc : ans (pk p k) (pk p (k - 1)) = true) : Dsc ans p (k + 1) := by
  intro a b hab hb
  rcases Nat.lt_or_ge b k with hbk | hbk
  · exact h a b hab hbk
  · have : b = k := by omega
    subst this
    rcases Nat.lt_or_ge a (b - 1) with ha | ha
    · exact T.tr _ _ _ (P.lt _ hk) (P.lt _ (by omega)) (P.lt _ (by omega)) hc (h a (b - 1) ha (by omega))
    · have : a = b - 1 := by omega
      subst this; exact hc

theorem good_desc (T : TotalOn n ans) {p : Array Nat} (P : PermN n p) : ∀ (f k : Nat), 1 ≤ k → k + f ≤ n → Dsc ans p k →
    KGood n ans (fun r => r.1 = p ∧ r.2.2 = 0 ∧ k ≤ r.2.1 ∧ r.2.1 ≤ k + f ∧ Dsc ans p r.2.1) (kas_desc f p k 0)
  | 0, k, _, _, h => ⟨rfl, rfl, Nat.le_refl _, Nat.le_refl _, h⟩
  | f + 1, k, h1, hf, h => by
    refine ⟨P.lt _ (by omega), P.lt _ (by omega), ?_⟩
    show KGood n ans _ (if ans (pk p k) (pk p (k - 1)) = true then (if 0 > 0 then kas_desc f (kas_rev p (k - (0 + 1)) k) (k + 1) 0 else kas_desc f p (k + 1) 0)
      else .ask (pk p (k - 1)) (pk p k) fun d => if d = true then .ret (p, k, 0) else kas_desc f p (k + 1) (0 + 1))
    cases hc : ans (pk p k) (pk p (k - 1)) with
    | true =>
      simp only [if_true]
      rw [if_neg (by omega)]
      refine kgood_mono (fun r hr => ?_) (good_desc T P f (k + 1) (by omega) (by omega) (dsc_snoc T P (by omega) h1 h hc))
      exact ⟨hr.1, hr.2.1, by omega, by omega, hr.2.2.2.2⟩
    | false =>
      simp only [Bool.false_eq_true, if_false]
      refine ⟨P.lt _ (by omega), P.lt _ (by omega), ?_⟩
      rw [T.tot _ _ (P.lt _ (by omega)) (P.lt _ (by omega)) (fun e => by have := P.inj _ _ (by omega) (by omega) e; omega) hc]
      simp only [if_true]
      exact ⟨rfl, rfl, Nat.le_refl _, Nat.le_add_right _ _, h⟩

theorem asc_rev {p : Array Nat} {j : Nat} (hj : j ≤ p.size) (h : Dsc ans p j) : Asc ans (kas_rev p 0 j) j := by
  intro a b hab hb
  rw [pk_rev hj, pk_rev hj, if_pos (show a < j by omega), if_pos hb]
  exact h (j - 1 - b) (j - 1 - a) (by omega) (by omega)

theorem good_count (T : TotalOn n ans) {p : Array Nat} (P : PermN n p) (hn : 1 ≤ n) : KGood n ans (fun r => 1 ≤ r.1 ∧ r.1 ≤ n ∧ PermN n r.2 ∧ Asc ans r.2 r.1) (kas_count n p) := by
  unfold kas_count
  refine kgood_bind (kgood_mono (fun m hm => ?_) (good_asc T P (n - 1) 1 (Nat.le_refl _) (by omega) (fun a b hab hb => by omega)))
  obtain ⟨h1, h2, h3, h4⟩ := hm
  show KGood n ans _ (if (m == n) = true then _ else _)
  by_cases e : m = n
  · rw [if_pos (by simp [e])]
    exact ⟨h1, by omega, P, h3⟩
  · rw [if_neg (by simp [e])]
    by_cases e1 : m > 1
    · rw [if_pos e1]
      refine ⟨P.lt _ (by omega), P.lt _ (by omega), ?_⟩
      rw [h3 0 (m - 1) (by omega) (by omega)]
      simp only [if_true]
      exact ⟨h1, by omega, P, h3⟩
    · rw [if_neg e1]
      have hm1 : m = 1 := by omega
      subst hm1
      have h10 := h4 (by omega)
      unfold kas_descPart
      refine kgood_bind (kgood_mono (fun r hr => ?_) (good_desc T P (n - 2) 2 (by omega) (by omega) (fun a b hab hb => ?_)))
      · obtain ⟨r1, r2, r3⟩ := r
        obtain ⟨q1, q2, q3, q4, q5⟩ := hr
        dsimp only at q1 q2 q3 q4 q5 ⊢
        subst q1 q2
        rw [if_neg (by omega)]
        unfold kas_tail3
        have hsz := P.size
        refine kgood_bind (kgood_mono (fun m' hm' => ?_) (good_asc T (perm_rev (j := r2) (by omega) P) (n - r2) r2 (by omega) (by omega) (asc_rev (by omega) q5)))
        exact ⟨by omega, by omega, perm_rev (by omega) P, hm'.2.2.1⟩
      · have hb' : b = 1 := by omega
        have ha' : a = 0 := by omega
        subst hb' ha'
        exact h10

theorem good_place (T : TotalOn n ans) {p : Array Nat} {k : Nat} (P : PermN n p) (hk : k < n) (hs : Asc ans p k) : ∀ (f l r : Nat), l ≤ r → r ≤ k → r - l ≤ f → (∀ i, i < l → ans (pk p i) (pk p k) = true) → (∀ i, r ≤ i → i < k → ans (pk p k) (pk p i) = true) →
    KGood n ans (fun l => l ≤ k ∧ (∀ i, i < l → ans (pk p i) (pk p k) = true) ∧ (∀ i, l ≤ i → i < k → ans (pk p k) (pk p i) = true)) (kas_place p k f l r)
  | 0, l, r, hlr, hr, hf, h1, h2 => ⟨by omega, h1, fun i hi hik => h2 i (by omega) hik⟩
  | f + 1, l, r, hlr, hr, hf, h1, h2 => by
    unfold kas_place
    by_cases h : l ≥ r
    · rw [if_pos h]
      exact ⟨by omega, h1, fun i hi hik => h2 i (by omega) hik⟩
    · rw [if_neg h]
      have hm : (l + r) / 2 < k := by omega
      refine ⟨P.lt _ hk, P.lt _ (by omega), ?_⟩
      cases hc : ans (pk p k) (pk p ((l + r) / 2)) with
      | true =>
        simp only [if_true]
        refine good_place T P hk hs f l ((l + r) / 2) (by omega) (by omega) (by omega) h1 fun i hi hik => ?_
        rcases Nat.lt_or_eq_of_le hi with h3 | h3
        · exact T.tr _ _ _ (P.lt _ hk) (P.lt _ (by omega)) (P.lt _ (by omega)) hc (hs _ _ h3 hik)
        · subst h3; exact hc
      | false =>
        simp only [Bool.false_eq_true, if_false]
        have hmk := T.tot _ _ (P.lt _ hk) (P.lt _ (by omega)) (fun e => by have := P.inj _ _ hk (by omega) e; omega) hc
        refine good_place T P hk hs f ((l + r) / 2 + 1) r (by omega) hr (by omega) (fun i hi => ?_) h2
        rcases Nat.lt_or_eq_of_le (Nat.le_of_lt_succ hi) with h3 | h3
        · exact T.tr _ _ _ (P.lt _ (by omega)) (P.lt _ (by omega)) (P.lt _ hk) (hs _ _ h3 hm) hmk
        · subst h3; exact hmk

theorem asc_bubble {p : Array Nat} {k l : Nat} (hk : k < p.size) (hl : l ≤ k) (hs : Asc ans p k) (h1 : ∀ i, i < l → ans (pk p i) (pk p k) = true) (h2 : ∀ i, l ≤ i → i < k → ans (pk p k) (pk p i) = true) : Asc ans (bubble p k (k - l)) (k + 1) := by
  intro a b hab hb
  rw [pk_bubble hk hl, pk_bubble hk hl]
  by_cases ha : a = l
  · rw [if_pos ha, if_neg (show ¬ b = l by omega), if_pos (show l < b ∧ b ≤ k by omega)]
    exact h2 (b - 1) (by omega) (by omega)
  · rw [if_neg ha]
    by_cases ha2 : l < a ∧ a ≤ k
    · rw [if_pos ha2, if_neg (show ¬ b = l by omega), if_pos (show l < b ∧ b ≤ k by omega)]
      exact hs (a - 1) (b - 1) (by omega) (by omega)
    · rw [if_neg ha2]
      by_cases hb1 : b = l
      · rw [if_pos hb1]; exact h1 a (by omega)
      · rw [if_neg hb1]
        by_cases hb2 : l < b ∧ b ≤ k
        · rw [if_pos hb2]; exact hs a (b - 1) (by omega) (by omega)
        · rw [if_neg hb2]; exact hs a b hab (by omega)

theorem good_bin (T : TotalOn n ans) : ∀ (f : Nat) (p : Array Nat) (k : Nat), PermN n p → k + f = n → Asc ans p k → KGood n ans (fun p => PermN n p ∧ Asc ans p n) (kas_bin f p k)
  | 0, p, k, P, hk, hs => ⟨P, by rw [← hk]; exact hs⟩
  | f + 1, p, k, P, hk, hs => by
    have hsz := P.size
    show KGood n ans _ ((kas_place p k k 0 k).bind fun l => kas_bin f (bubble p k (k - l)) (k + 1))
    refine kgood_bind (kgood_mono (fun l hl => ?_) (good_place T P (by omega) hs k 0 k (by omega) (by omega) (by omega) (fun i hi => by omega) (fun i h1 h2 => by omega)))
    exact good_bin T f _ (k + 1) (perm_bubble (by omega) hl.1 P) (by omega) (asc_bubble (by omega) hl.1 hs hl.2.1 hl.2.2)

theorem perm_range (n : Nat) : PermN n (List.toArray (List.range n)) := by
  have e : ∀ i, i < n → pk (List.toArray (List.range n)) i = i := fun i hi => by
    unfold pk
    rw [Array.getD_eq_getD_getElem?]
    simp [hi]
  exact ⟨by simp, fun i hi => by rw [e i hi]; exact hi, fun i j hi hj h => by rw [e i hi, e j hj] at h; exact h⟩

theorem good_sort (T : TotalOn n ans) (hn : 1 ≤ n) : KGood n ans (fun p => PermN n p ∧ Asc ans p n) (kas_sort n) := by
  unfold kas_sort
  refine kgood_bind (kgood_mono (fun r hr => ?_) (good_count T (perm_range n) hn))
  obtain ⟨h1, h2, h3, h4⟩ := hr
  show KGood n ans _ (if r.1 < n then kas_bin (n - max r.1 1) r.2 (max r.1 1) else .ret r.2)
  by_cases h : r.1 < n
  · rw [if_pos h]
    have : max r.1 1 = r.1 := by omega
    rw [this]
    exact good_bin T _ _ _ h3 (by omega) h4
  · rw [if_neg h]
    have : r.1 = n := by omega
    exact ⟨h3, this ▸ h4⟩
end
end Mine
end

section
open PySem PySem.W PyProof.Rows PySem.Calls
set_option maxRecDepth 100000
set_option maxHeartbeats 2000000
namespace Mine

section
variable {prog : Program} {w : World} {A : Around} {E : Value → Shared → Prop} {s : Shared} {h₀ : Heap} {L l : Addr} {m : Str → Option Value} {led : List (Addr × Obj)} {vs : List Value} {e : Nat}

theorem N_sorted (κ : SortKind) (ans : Nat → Nat → Bool) {Q : Value → Shared → Prop} (F : Fr h₀ L s.heap m) (N : News h₀ L s.heap led) (hm : (l, listOf vs.toArray e) ∈ led) (h2 : 2 ≤ vs.length) (h64 : vs.length < 64) (T : TotalOn vs.length ans)
    (hkind : ∀ (s' : Shared) (Q' : SortKind → Shared → Prop), News h₀ L s'.heap led → Q' κ s' → wpAny (model prog w) A.in1.in1 (keyKind' vs.toArray) Q' (fun _ _ => False) s')
    (hlt : ∀ (s' : Shared), News h₀ L s'.heap led → ∀ i j, i < vs.length → j < vs.length → ∀ C : Bool → Shared → Prop, C (ans i j) s' → wpAny (model prog w) A.in1.in1 (keyLt' κ (vs.getD i Value.none) (vs.getD j Value.none)) C (fun _ _ => False) s')
    (h : ∀ D p c h', PermN vs.length p → Asc ans p vs.length → Fr h₀ L h' m → News h₀ L h' ((D, listOf (p.toList.map fun i => vs.getD i Value.none).toArray c) :: led) → (∀ q ∈ led, q.1 < D) → Q (.ref D) { s with heap := h' }) :
    wpAny (model prog w) A (call (.builtin "sorted") [.ref l]) Q E s := by
  refine kat_sorted F N (News.isList N hm) h2 h64 fun D e1 h' F' N' hD => ?_
  have N1 : News h₀ L h' led := fun p hp => N' p (List.mem_cons_of_mem _ hp)
  refine hkind _ _ N1 ?_
  refine kgood_wp (fun i j hi hj C hC => hlt _ N1 i j hi hj C hC) (fun p hp => ?_) (good_sort T (by omega))
  exact KasFin.intro F' N' (UpdF.head fun q hq => Nat.ne_of_lt (hD q hq)) fun h'' c F'' N'' => h D p c h'' hp.1 hp.2 F'' N'' hD

theorem N_sorted1 {v : Value} {Q : Value → Shared → Prop} (F : Fr h₀ L s.heap m) (N : News h₀ L s.heap led) (hm : (l, listOf [v].toArray e) ∈ led)
    (h : ∀ D c h', Fr h₀ L h' m → News h₀ L h' ((D, listOf [v].toArray c) :: led) → (∀ q ∈ led, q.1 < D) → Q (.ref D) { s with heap := h' }) :
    wpAny (model prog w) A (call (.builtin "sorted") [.ref l]) Q E s := by
  have hl : s.heap.IsList l [v].toArray := News.isList N hm
  refine Calls.call_function_entry kind_sorted plain_sorted entry_sorted (args_sorted1 _) ?_
  unfold Builtin.«sorted»
  refine wpAny_bind (m := checkCount "sorted" 1 1 _) (wpAny_pure ?_)
  refine wpAny_bind (collect_list hl ?_ (by rw [sizeLine_eq]; simp))
  refine wpAny_bind (wpAny_newList ?_ (by rw [sizeLine_eq]; simp))
  have hsz : ((s.heap.push (seqObj "list" #[] 0)).update s.heap.objs.size (Obj.mapSeq (· ++ [v].toArray))).objs.size = s.heap.objs.size + 1 := by
    rw [Heap.size_update, size_push']
  have hoL : (((s.heap.push (seqObj "list" #[] 0)).update s.heap.objs.size (Obj.mapSeq (· ++ [v].toArray))).push (seqObj "list" [v].toArray 0)).get? (s.heap.objs.size + 1) = some (seqObj "list" [v].toArray 0) := by
    rw [← hsz]; exact Heap.get?_push_size _ rfl
  have keep : ∀ b o, s.heap.get? b = some o → (((s.heap.push (seqObj "list" #[] 0)).update s.heap.objs.size (Obj.mapSeq (· ++ [v].toArray))).push (seqObj "list" [v].toArray 0)).get? b = some o := fun b o q => by
    have hlt : b < s.heap.objs.size := Heap.lt_size q
    rw [Heap.get?_push_ne _ _ _ (by rw [hsz]; exact Nat.ne_of_lt (Nat.lt_succ_of_lt hlt)), Heap.get?_update_ne _ _ _ _ (Nat.ne_of_lt hlt), Heap.get?_push_ne _ _ _ (Nat.ne_of_lt hlt)]
    exact q
  have hL : L < s.heap.objs.size := F.ns.lt
  show wpAny _ _ _ _ _ { s with heap := ((s.heap.push (seqObj "list" #[] 0)).update s.heap.objs.size (Obj.mapSeq (· ++ [v].toArray))).push (seqObj "list" [v].toArray 0) }
  rw [hsz]
  generalize ((s.heap.push (seqObj "list" #[] 0)).update s.heap.objs.size (Obj.mapSeq (· ++ [v].toArray))).push (seqObj "list" [v].toArray 0) = H at hoL keep ⊢
  have F1 : Fr h₀ L H m := F.kept keep
  have N1 : News h₀ L H led := N.grown keep
  have haL : s.heap.objs.size + 1 ≠ L := Nat.ne_of_gt (Nat.lt_succ_of_lt hL)
  have ha0 : h₀.get? (s.heap.objs.size + 1) = none := Heap.get?_none_of_le (Nat.le_trans F.above (Nat.le_succ_of_le (Nat.le_of_lt hL)))
  have hna : ∀ p ∈ led, p.1 < s.heap.objs.size + 1 := fun p hp => Nat.lt_succ_of_lt (Heap.lt_size (N p hp).1)
  generalize s.heap.objs.size + 1 = a at hoL haL ha0 hna ⊢
  refine wpAny_bind (wpAny_holding (wpAny_call_entry slot_list_sort ⟨_, hoL, rfl⟩ entry_list_sort ?_ (args_list_sort _)))
  rw [list_sort_plain]
  have ha : a < H.objs.size := Heap.lt_size hoL
  have s1 := Heap.SameBut.update H a (Obj.mapSeq fun _ => (#[] : Array Value))
  obtain ⟨e1, ho1⟩ : ∃ e1, (H.update a (Obj.mapSeq fun _ => (#[] : Array Value))).get? a = some (seqObj "list" #[] e1) := ⟨_, get?_update_seq hoL fun _ => #[]⟩
  have F3 : Fr h₀ L (((H.update a (Obj.mapSeq fun _ => (#[] : Array Value))).push (seqObj "tuple" [v].toArray 0)).push (seqObj "list" #[] 0)) m := ((kas_fr F1 s1 haL ha0).push _).push _
  have N2 : News h₀ L (((H.update a (Obj.mapSeq fun _ => (#[] : Array Value))).push (seqObj "tuple" [v].toArray 0)).push (seqObj "list" #[] 0)) led :=
    (kas_news N1 s1 fun p hp => Nat.ne_of_lt (hna p hp)).grown fun b x e => Heap.get?_push_of_some _ (Heap.get?_push_of_some _ e)
  have ho6 : (((H.update a (Obj.mapSeq fun _ => (#[] : Array Value))).push (seqObj "tuple" [v].toArray 0)).push (seqObj "list" #[] 0)).get? a = some (seqObj "list" #[] e1) := Heap.get?_push_of_some _ (Heap.get?_push_of_some _ ho1)
  refine wpAny_bind (listItems_at hoL rfl ?_)
  refine wpAny_bind (listUpdate_at hoL rfl ?_ (by rw [sizeLine_eq]; simp) (Nat.zero_le _))
  refine wpAny_bind (seqEpoch_at ho1 rfl ?_)
  refine wpAny_bind (wpAny_newTuple ?_ (by show 1 ≤ _; rw [sizeLine_eq]; decide))
  refine wpAny_bind (wpAny_newList ?_ (Nat.zero_le _))
  refine wpAny_holding ?_
  show wpAny (model prog w) _ _ _ E { s with heap := ((H.update a (Obj.mapSeq fun _ => (#[] : Array Value))).push (seqObj "tuple" [v].toArray 0)).push (seqObj "list" #[] 0) }
  dsimp only
  have hn2 : [v].toArray.size < 2 := by simp
  rw [if_pos hn2, if_pos hn2]
  refine wpAny_bind (wpAny_pure ?_)
  rw [StateT.run_pure]
  refine wpAny_bind (wpAny_pure ?_)
  dsimp only
  refine wpAny_bind (seqEpoch_at ho6 rfl ?_)
  have hout : (arrOf (SortSt.mk' general' ([v].toArray.zip [v].toArray) #[] 7 none)).map (·.2) = [v].toArray := by
    show (([v].toArray.zip [v].toArray).map (·.2)) = _
    simp
  rw [hout]
  refine wpAny_bind (listUpdate_at ho6 rfl ?_ (Nat.zero_le _) (by rw [sizeLine_eq]; simp))
  simp only [bne_self_eq_false, Bool.false_eq_true, if_false]
  have s2 := Heap.SameBut.update (((H.update a (Obj.mapSeq fun _ => (#[] : Array Value))).push (seqObj "tuple" [v].toArray 0)).push (seqObj "list" #[] 0)) a (Obj.mapSeq fun _ => [v].toArray)
  obtain ⟨c2, hc2⟩ : ∃ c2, ((((H.update a (Obj.mapSeq fun _ => (#[] : Array Value))).push (seqObj "tuple" [v].toArray 0)).push (seqObj "list" #[] 0)).update a (Obj.mapSeq fun _ => [v].toArray)).get? a = some (seqObj "list" [v].toArray c2) := ⟨_, get?_update_seq ho6 fun _ => [v].toArray⟩
  refine wpAny_pure ⟨_, rfl, wpAny_pure ⟨_, rfl, h a c2 _ (kas_fr F3 s2 haL ha0) (fun p hp => ?_) hna⟩⟩
  rcases List.mem_cons.mp hp with rfl | hp
  · exact ⟨hc2, haL, ha0⟩
  · exact kas_news N2 s2 (fun p hp => Nat.ne_of_lt (hna p hp)) p hp
end
end Mine
end

section
open PySem PySem.W PyProof.Rows PySem.Calls
set_option maxRecDepth 100000
set_option maxHeartbeats 2000000
namespace Mine

theorem asc_id {n : Nat} {p : Array Nat} (P : PermN n p) (h : Asc (fun i j => decide (i < j)) p n) : ∀ i, i < n → pk p i = i := by
  have lo : ∀ i, i < n → i ≤ pk p i := by
    intro i
    induction i with
    | zero => intro _; exact Nat.zero_le _
    | succ i ih =>
      intro hi
      have h1 := ih (by omega)
      have h2 := of_decide_eq_true (h i (i + 1) (Nat.lt_succ_self _) hi)
      omega
  have hi : ∀ k i, i + k + 1 = n → pk p i ≤ i := by
    intro k
    induction k with
    | zero => intro i hi; have := P.lt i (by omega); omega
    | succ k ih =>
      intro i hi
      have h1 := ih (i + 1) (by omega)
      have h2 := of_decide_eq_true (h i (i + 1) (Nat.lt_succ_self _) (by omega))
      omega
  intro i h1
  have := lo i h1
  have := hi (n - i - 1) i (by omega)
  omega

theorem perm_map_id {n : Nat} {p : Array Nat} {vs : List Value} (P : PermN n p) (hn : vs.length = n) (h : ∀ i, i < n → pk p i = i) : (p.toList.map fun i => vs.getD i Value.none) = vs := by
  have hs := P.size
  apply List.ext_getElem
  · simp [hs, hn]
  · intro i h1 h2
    have hi : i < n := by omega
    have e := h i hi
    have e2 : p[i]'(by omega) = i := by
      unfold pk at e
      rw [Array.getD_eq_getD_getElem?, Array.getElem?_eq_getElem (by omega)] at e
      simpa using e
    simp [e2, List.getD_eq_getElem?_getD, h2]

theorem total_lt (n : Nat) : TotalOn n (fun i j => decide (i < j)) :=
  ⟨fun i _ => by simp, fun i j k _ _ _ h1 h2 => by simp at *; omega, fun i j _ _ hn h => by simp at *; omega⟩

section
variable {prog : Program} {w : World} {A : Around} {E : Value → Shared → Prop} {s : Shared} {h₀ : Heap} {L D : Addr} {m : Str → Option Value} {led : List (Addr × Obj)} {Ts : List Addr} {xs : List It}

theorem N_oneLt {a b : Addr} {oa ob : Obj} {x y : It} {Q : Bool → Shared → Prop} (hu : A.units < cLine) (ha : s.heap.get? a = some oa) (hb : s.heap.get? b = some ob) (pa : LstP x oa) (pb : LstP y ob) (h : Q (plt x.v x.t y.v y.t) s) :
    wpAny (model prog w) A (oneLt' true (.ref a) (.ref b)) Q E s := by
  obtain ⟨ca, tv, tt, n, da⟩ := pa
  obtain ⟨cb, tv', tt', n', db⟩ := pb
  obtain ⟨c1, d1, dt1, sl1⟩ := oa
  obtain ⟨c2, d2, dt2, sl2⟩ := ob
  dsimp only at ca cb da db
  subst ca cb da db
  rw [oneLt'_eq]
  simp only [if_true]
  refine wpAny_bind (wpAny_cRoomFor hu ?_)
  refine wpAny_bind (wpAny_callSpecialIfBound?_slot ⟨_, ha, rfl⟩ PySem.F.slot_list_lt (N_lt_call ha hb ?_))
  exact wpAny_truthy_bool h

/-- sorted(pairs), where the pairs stand in their order -/
theorem N_sorted_pairs {Q : Value → Shared → Prop} (F : Fr h₀ L s.heap m) (N : News h₀ L s.heap led) (P : PairsAt led D Ts xs) (hu : A.units + 2 < cLine) (h1 : 1 ≤ xs.length) (h64 : xs.length < 64) (hs : xs.Pairwise fun y z => plt y.v y.t z.v z.t = true)
    (h : ∀ D' c h', Fr h₀ L h' m → News h₀ L h' ((D', listOf (Ts.map Value.ref).toArray c) :: led) → (∀ q ∈ led, q.1 < D') → Q (.ref D') { s with heap := h' }) :
    wpAny (model prog w) A (call (.builtin "sorted") [.ref D]) Q E s := by
  obtain ⟨n, hm⟩ := P.main
  have hlen : (Ts.map Value.ref).length = xs.length := by rw [List.length_map, P.len]
  have each : ∀ i, i < xs.length → ∃ T x o, Ts[i]? = some T ∧ (Ts.map Value.ref).getD i Value.none = .ref T ∧ xs[i]? = some x ∧ (T, o) ∈ led ∧ LstP x o := by
    intro i hi
    have hi' : i < Ts.length := by rw [P.len]; exact hi
    obtain ⟨o, ho, hp⟩ := P.each i Ts[i] xs[i] (by simp [hi']) (by simp [hi])
    exact ⟨Ts[i], xs[i], o, by simp [hi'], by simp [List.getD_eq_getElem?_getD, hi'], by simp [hi], ho, hp⟩
  rcases Nat.lt_or_ge xs.length 2 with h2 | h2
  · obtain ⟨v, hv⟩ : ∃ v, Ts.map Value.ref = [v] := by
      match hq : Ts.map Value.ref, hlen with
      | [], hl => simp at hl; omega
      | [v], _ => exact ⟨v, rfl⟩
      | _ :: _ :: _, hl => simp at hl; omega
    rw [hv] at hm h
    exact N_sorted1 F N hm h
  · refine N_sorted oneType' (fun i j => decide (i < j)) F N hm (by omega) (by omega) (total_lt _) (fun s' Q' N' hq => ?_) (fun s' N' i j hi hj C hC => ?_) (fun D' p c h' hp ha F' N' hD => ?_)
    · refine kas_kind (T := .type "list") (by omega) (fun v hv => ?_) rfl rfl hq
      obtain ⟨i, hi⟩ := List.mem_iff_getElem?.mp hv
      have hi' : i < xs.length := by
        rcases Nat.lt_or_ge i xs.length with h3 | h3
        · exact h3
        · rw [List.getElem?_eq_none (by omega)] at hi; cases hi
      obtain ⟨T, x, o, g1, g2, g3, g4, g5⟩ := each i hi'
      have : v = .ref T := by rw [List.getD_eq_getElem?_getD, hi] at g2; exact g2
      subst this
      have z : Looks (model prog w) s'.heap (typeOf (.ref T)) o.cls := (Looks.ld (N' _ g4).1).andThen .now
      rw [g5.1] at z
      exact z
    · rw [hlen] at hi hj
      obtain ⟨T, x, o, g1, g2, g3, g4, g5⟩ := each i hi
      obtain ⟨T', x', o', g1', g2', g3', g4', g5'⟩ := each j hj
      rw [g2, g2', keyLt'_oneType]
      refine N_oneLt (show A.in1.in1.units < cLine from hu) (N' _ g4).1 (N' _ g4').1 g5 g5' ?_
      have e : plt x.v x.t x'.v x'.t = decide (i < j) := by
        rcases Nat.lt_trichotomy i j with hij | hij | hij
        · rw [sorted_lt hs g3 g3' hij]; simp [hij]
        · subst hij
          rw [g3] at g3'; cases g3'
          simp [plt]
        · rw [plt_asymm (sorted_lt hs g3' g3 hij)]; simp; omega
      rw [e]; exact hC
    · rw [perm_map_id hp rfl (asc_id hp ha)] at N'
      exact h D' c h' F' N' hD

/-- two lists of the very same objects -/
theorem N_ne_same {vs : List Value} {a b : Addr} {n n2 : Nat} {Q : Value → Shared → Prop} (hu : A.units < cLine) (N : News h₀ L s.heap led) (hv : ∀ v ∈ vs, ∃ T, v = Value.ref T) (ha : (a, listOf vs.toArray n) ∈ led) (hb : (b, listOf vs.toArray n2) ∈ led) (h : Q (.bool false) s) :
    wpAny (model prog w) A (compareOp .NotEq (.ref a) (.ref b)) Q E s := by
  refine show wpAny (model prog w) A (richCompare .NotEq (.ref a) (.ref b)) Q E s from
    wpAny_richCompare_same_room (op := .NotEq) ⟨_, (N _ ha).1, rfl⟩ ⟨_, (N _ hb).1, rfl⟩ PySem.F.slot_list_ne
      (call_meets PySem.F.slot_list_ne ⟨_, (N _ ha).1, rfl⟩ PySem.F.entry_list_ne (PySem.F.args_list_ne_2 _ _) (PySem.SeqAt.list_neAt a b vs.toArray vs.toArray n n2 none none #[] #[] rfl (fun _ => true))
        ⟨(N _ ha).1, (N _ hb).1, fun j h1 h2 => ?_, (fun e => nomatch e), ?_⟩) hu
  · obtain ⟨T, hT⟩ := hv (vs.toArray[j]) (by simp)
    rw [hT]
    intro prog' w' E' Q' hq
    unfold eqBool
    try with_reducible refine wpAny_holding ?_
    show wpAny _ _ (if (Value.ref T == Value.ref T) = true then _ else _) _ _ s
    rw [if_pos (by simp)]
    exact wpAny_bind (wpAny_rule (wpAny_pure hq))
  · have e : ((List.range vs.toArray.size).all fun _ => true) = true := List.all_eq_true.mpr fun _ _ => rfl
    show Q (.bool (!((List.range vs.toArray.size).all fun _ => true))) s
    rw [e]; exact h
end
end Mine
end

section
open PySem PySem.W PyProof.Rows
set_option maxRecDepth 100000
set_option maxHeartbeats 8000000
namespace Mine
set_option pp.deepTerms false
set_option pp.maxSteps 3000

local macro_rules | `(tactic| k_room) => `(tactic| ktr_room)
local macro_rules | `(tactic| k_units) => `(tactic| ktr_units)
local macro_rules | `(tactic| ktr_enter) => `(tactic| (refine' code_def ?k1 ?k2 ?k3 ?k4 ?k5 ?kA ?kF ?kK ?k6 ?k7 ?k8 ?k9 ?kB ?_ ?c2 ?c3 ?c4 ?c5; (case kA => exact rfl); (case kF => exact rfl); (case kK => assumption); (case k1 => k_asm); (case k2 => k_asm); (case k3 => k_asm); (case k4 => k_asm); (case k5 => k_asm); (case k6 => k_is); (case k7 => k_is); (case k8 => ktr_room); (case k9 => first | exact BindsTo.of_eq rfl | (refine' kp_binds ?kx ?ke; (case kx => k_in); (case ke => exact fun _ => rfl))); (case c5 => decide); (case kB => exact locs rfl); (case c2 => exact rfl); (case c3 => exact rfl); (case c4 => exact rfl); k_whole; intro g' L' h' FG' F' N' B' X' T'; (try dsimp only); (try k_fold)))


local macro_rules | `(tactic| walk_at "call builtin:len") => `(tactic| (k_here; (with_reducible show wpAny _ _ (call (Value.builtin "len") [Value.ref _]) _ _ _); k_dflt (refine' N_len ?N ?m ?z ?_; (case N => k_asm); (case m => k_mem); (case z => omega))))

local macro_rules | `(tactic| k_mem) => `(tactic| first | assumption | exact List.Mem.tail _ (by assumption) | exact List.Mem.tail _ (List.Mem.tail _ (by assumption)) | exact List.Mem.tail _ (List.Mem.tail _ (List.Mem.tail _ (by assumption))) | exact List.Mem.head _ | exact List.Mem.tail _ (List.Mem.head _))
local macro_rules | `(tactic| walk_at "subscriptTail") => `(tactic| (k_here; (with_reducible show wpAny _ _ (subscriptTail _ _ (Value.ref _) (Value.int _ _)) _ _ _); k_dflt (refine' N_item ?N ?m ?h0 ?h1 ?hx ?_ ?hs; (case N => k_asm); (case m => k_mem); (case hx => first | assumption | exact rfl); (case h0 => first | decide | omega); (case h1 => first | decide | omega); (case hs => with_unfolding_all rfl)); (try dsimp only)))

local macro_rules | `(tactic| walk_at "subscriptTail") => `(tactic| (k_here; (with_reducible show wpAny _ _ (subscriptTail _ _ (Value.ref _) (Value.ref _)) _ _ _); k_dflt (refine' N_rank ?N ?u ?R ?d ?a ?t ?_ ?hs; (case N => k_asm); (case u => k_units); (case R => first | assumption | exact RankAt.mono (by assumption) (fun _ hp => List.mem_cons_of_mem _ hp) | exact RankAt.mono (by assumption) (fun _ hp => List.mem_cons_of_mem _ (List.mem_cons_of_mem _ hp)) | exact RankAt.mono (by assumption) (fun _ hp => List.mem_cons_of_mem _ (List.mem_cons_of_mem _ (List.mem_cons_of_mem _ hp)))); (case a => exact List.Mem.head _); (case t => exact ⟨_, _, rfl, IntsAre.cons _ _ (IntsAre.cons _ _ IntsAre.nil)⟩); (case d => assumption); (case hs => with_unfolding_all rfl)); intro _ _; (try dsimp only)))
local macro_rules | `(tactic| walk_at "subscriptTail") => `(tactic| (k_here; (with_reducible show wpAny _ _ (subscriptTail _ (PySem.Expr.UnaryOp _ _ _) (Value.ref _) (Value.int _ _)) _ _ _); k_dflt (refine' N_itemNeg ?N ?m ?h0 ?h1 ?hf ?hx ?_ ?hs; (case N => k_asm); (case m => k_mem); (case hx => assumption); (case h0 => decide); (case hf => decide); (case h1 => omega); (case hs => with_unfolding_all rfl)); (try dsimp only)))

def lowPre (xs : List It) (i : Nat) : Int := ((xs.take i).map (·.g)).sum
theorem lowPre_succ {xs : List It} {i : Nat} {x : It} (h : xs[i]? = some x) : lowPre xs (i + 1) = lowPre xs i + x.g := by
  unfold lowPre
  rw [List.take_add_one, h]
  simp

theorem holds_says (w : World) (l rk : Addr) (as : List Addr) (xs : List It) (D : List (Int × Int)) (count bound : Int) (tc tb : Tok) (led : List (Addr × Obj))
   (S : SumAt led l as xs) (R : RankAt w led rk D) (H : HoldsOk xs D count bound) (hz6 : xs.length < 64) :
   Says w 10 100 (.ref 58) [.ref l, .ref rk, .int count tc, .int bound tb] [] led (fun r led' => r = .bool true ∧ ∀ q ∈ led, q ∈ led') := by
  unfold Says
  k_fill
  intro dp un gd cn cs a ccd cl outer A₀ base h₀ L m mean mg mb s Q E B F X N T hk hdp hu hret
  obtain ⟨e, hm⟩ := S.main
  have hz : xs.length < 2 ^ 20 := by omega
  have hlen : (as.map Value.ref).length = xs.length := by rw [List.length_map, S.len]
  refine wpAny_call ?_
  k_dflt ktr_enter
  (generalize hst : Stmt.For _ _ _ _ _ = st)
  (generalize hst2 : Stmt.Assign _ (Expr.ListComp _ _ _ _) _ = st2)
  k_steps
  subst hst
  rename Fr _ _ _ _ => F1
  rename News _ _ _ _ => N1
  with_unfolding_all refine' For_invVF F1 ?k1 ?k2 ?_
  case k1 => exact rfl
  case k2 => exact rfl
  walk1
  refine N_for (fun i m₁ nx => nx = led ∧ m₁ (Str.ofString "items") = some (.ref l) ∧ m₁ (Str.ofString "ranks") = some (.ref rk) ∧ m₁ (Str.ofString "count") = some (.int count tc) ∧ m₁ (Str.ofString "bound") = some (.int bound tb) ∧
    ∃ tl, m₁ (Str.ofString "low") = some (.int (lowPre xs i) tl)) (by rfl) F1 N1 hm ⟨rfl, rfl, rfl, rfl, rfl, _, rfl⟩ ?_ ?_
  · clear F1 N1
    rintro i v m₁ nx h tk own hv hown ⟨rfl, ei, er, ec, eb, tl, el⟩ F2 N2
    have F3 := fr_pins (m := fun y => if y = Str.ofString "item" then some v else m₁ y) [(Str.ofString "item", v), (Str.ofString "items", .ref l), (Str.ofString "ranks", .ref rk), (Str.ofString "count", .int count tc), (Str.ofString "bound", .int bound tb), (Str.ofString "low", .int (lowPre xs i) tl)] ⟨rfl, ei, er, ec, eb, el, trivial⟩ F2
    dsimp only [pins] at F3
    clear F2
    obtain ⟨led₁, hled⟩ : ∃ x, x = nx ++ own := ⟨_, rfl⟩
    rw [← hled] at N2
    have hsub : ∀ p ∈ nx, p ∈ led₁ := fun p hp => hled ▸ List.mem_append_left _ hp
    have hsub2 : ∀ p ∈ own, p ∈ led₁ := fun p hp => hled ▸ List.mem_append_right _ hp
    have hi : i < xs.length := by
      rcases Nat.lt_or_ge i xs.length with h1 | h1
      · exact h1
      · rw [List.getElem?_eq_none (by omega)] at hv; cases hv
    obtain ⟨a1, x1, hga1, hgv1, hgx1, tv1, tt1, tg1, td1, e1, hmm1⟩ := (S.mono hsub).at hi
    obtain rfl : v = .ref a1 := by rw [hgv1] at hv; exact (Option.some.inj hv).symm
    have R1 := R.mono hsub
    have hmem := H.mem i x1 hgx1
    obtain ⟨hr1, hr2, hr3⟩ := H.rk i x1 hgx1
    have hlow : lowAt xs i = lowPre xs i + x1.g := lowPre_succ hgx1
    rw [hlow] at hr1 hr2
    clear R S hret
    k_steps
    exact for_next (by assumption) (by assumption) (fun p hp => List.mem_cons_of_mem _ (hsub p hp)) (fun p hp => List.mem_cons_of_mem _ (hsub2 p hp)) hown ⟨rfl, rfl, rfl, rfl, rfl, _, (by rw [lowPre_succ hgx1]; rfl)⟩
  · clear F1 N1
    rintro m₁ nx h tk ⟨rfl, ei, er, ec, eb, tl, el⟩ F2 N2
    have F3 := fr_pins [(Str.ofString "items", .ref l), (Str.ofString "ranks", .ref rk), (Str.ofString "count", .int count tc), (Str.ofString "bound", .int bound tb), (Str.ofString "low", .int (lowPre xs (as.map Value.ref).length) tl)] ⟨ei, er, ec, eb, el, trivial⟩ F2
    dsimp only [pins] at F3
    clear F2
    dsimp only
    k_steps
    subst hst2
    (rename Fr _ _ _ _ => F4)
    (rename News _ _ _ _ => N4)
    refine N_comp (by rfl) F4 N4 S hz (fun Q' hq => ?_) (by with_unfolding_all rfl) (by with_unfolding_all rfl) (by decide) (by rfl) (by decide) (by rfl) (by decide) (by rfl) (by rfl) (by intro _; rfl) ?_
    · walk1
      exact hq
    intro D' Ts h5 tk5 led5 F5 N5 hsub5 P5
    clear F4 N4
    have S5 := S.mono hsub5
    obtain ⟨e5, hm5⟩ := S5.main
    have hne := H.ne
    obtain ⟨a0, x0, hga0, hgv0, hgx0, tv0, tt0, tg0, td0, en0, hmm0⟩ := S5.at (i := 0) hne
    obtain ⟨al, xl, hgal, hgvl, hgxl, tvl, ttl, tgl, tdl, enl, hmml⟩ := S5.at (i := xs.length - 1) (by omega)
    have hvl : (List.map Value.ref as)[((-1 : Int) + ((List.map Value.ref as).length : Nat)).toNat]? = some (.ref al) := by
      rw [hlen, show ((-1 : Int) + (xs.length : Nat)).toNat = xs.length - 1 by omega]; exact hgvl
    have hmem0 := H.mem 0 x0 hgx0
    have hmeml := H.mem _ xl hgxl
    have hr0 := H.first x0 hgx0
    have hrl := H.last xl hgxl
    have hlc : lowPre xs (List.map Value.ref as).length = count := by
      rw [hlen]; unfold lowPre; rw [List.take_length]; exact H.sum
    dsimp only
    k_steps
    refine N_sorted_pairs (by assumption) (by assumption) P5 (by k_units) hne hz6 H.sorted (fun D2 c h6 F6 N6 hD2 => ?_)
    clear F5
    have R6 : RankAt w ((D2, listOf (Ts.map Value.ref).toArray c) :: led5) rk D := R.mono (fun p hp => List.mem_cons_of_mem _ (hsub5 p hp))
    dsimp only
    k_steps
    obtain ⟨n5, hP5⟩ := P5.main
    refine N_ne_same (by k_units) N6 (fun v hv => ?_) (List.mem_cons_of_mem _ hP5) (List.mem_cons_self ..) ?_
    · obtain ⟨T, _, rfl⟩ := List.mem_map.mp hv
      exact ⟨T, rfl⟩
    clear R S P5
    k_steps
    · exfalso; omega
    · rw [show (rankOf D xl.v xl.t == count) = true by simp [hrl]]
      exact hret _ _ _ _ (by assumption) (by assumption) ⟨rfl, fun q hq => List.mem_cons_of_mem _ (List.mem_cons_of_mem _ (List.mem_cons_of_mem _ (hsub5 q hq)))⟩
    · exfalso; omega
end Mine
end

section
open PySem PySem.W PyProof.Rows
set_option maxRecDepth 100000
set_option maxHeartbeats 8000000
namespace Mine
set_option pp.deepTerms false
set_option pp.maxSteps 3000

local macro_rules | `(tactic| k_room) => `(tactic| ktr_room)
local macro_rules | `(tactic| k_units) => `(tactic| ktr_units)
local macro_rules | `(tactic| ktr_enter) => `(tactic| (refine' code_def ?k1 ?k2 ?k3 ?k4 ?k5 ?kA ?kF ?kK ?k6 ?k7 ?k8 ?k9 ?kB ?_ ?c2 ?c3 ?c4 ?c5; (case kA => exact rfl); (case kF => exact rfl); (case kK => assumption); (case k1 => k_asm); (case k2 => k_asm); (case k3 => k_asm); (case k4 => k_asm); (case k5 => k_asm); (case k6 => k_is); (case k7 => k_is); (case k8 => ktr_room); (case k9 => first | exact BindsTo.of_eq rfl | (refine' kp_binds ?kx ?ke; (case kx => k_in); (case ke => exact fun _ => rfl))); (case c5 => decide); (case kB => exact locs rfl); (case c2 => exact rfl); (case c3 => exact rfl); (case c4 => exact rfl); k_whole; intro g' L' h' FG' F' N' B' X' T'; (try dsimp only); (try k_fold)))


local macro_rules | `(tactic| walk_at "call builtin:len") => `(tactic| (k_here; (with_reducible show wpAny _ _ (call (Value.builtin "len") [Value.ref _]) _ _ _); k_dflt (refine' N_len ?N ?m ?z ?_; (case N => k_asm); (case m => k_mem); (case z => omega))))

local macro_rules | `(tactic| k_mem) => `(tactic| first | assumption | exact List.Mem.tail _ (by assumption) | exact List.Mem.tail _ (List.Mem.tail _ (by assumption)) | exact List.Mem.tail _ (List.Mem.tail _ (List.Mem.tail _ (by assumption))) | exact lset_other (by assumption) (by assumption) | exact List.Mem.head _ | exact List.Mem.tail _ (List.Mem.head _))
local macro_rules | `(tactic| walk_at "subscriptTail") => `(tactic| (k_here; (with_reducible show wpAny _ _ (subscriptTail _ _ (Value.ref _) (Value.int _ _)) _ _ _); k_dflt (refine' N_item ?N ?m ?h0 ?h1 ?hx ?_ ?hs; (case N => k_asm); (case m => k_mem); (case hx => first | assumption | exact rfl); (case h0 => first | decide | omega); (case h1 => first | decide | omega); (case hs => with_unfolding_all rfl)); (try dsimp only)))

local macro_rules | `(tactic| walk_at "subscriptTail") => `(tactic| (k_here; (with_reducible show wpAny _ _ (subscriptTail _ _ (Value.ref _) (Value.ref _)) _ _ _); k_dflt (refine' N_rank ?N ?u ?R ?d ?a ?t ?_ ?hs; (case N => k_asm); (case u => k_units); (case R => first | assumption | exact RankAt.mono (by assumption) (fun _ hp => List.mem_cons_of_mem _ hp) | exact RankAt.mono (by assumption) (fun _ hp => List.mem_cons_of_mem _ (List.mem_cons_of_mem _ hp)) | exact RankAt.mono (by assumption) (fun _ hp => List.mem_cons_of_mem _ (List.mem_cons_of_mem _ (List.mem_cons_of_mem _ hp)))); (case a => exact List.Mem.head _); (case t => exact ⟨_, _, rfl, IntsAre.cons _ _ (IntsAre.cons _ _ IntsAre.nil)⟩); (case d => assumption); (case hs => with_unfolding_all rfl)); intro _ _; (try dsimp only)))
local macro_rules | `(tactic| walk_at "subscriptTail") => `(tactic| (k_here; (with_reducible show wpAny _ _ (subscriptTail _ (PySem.Expr.UnaryOp _ _ _) (Value.ref _) (Value.int _ _)) _ _ _); k_dflt (refine' N_itemNeg ?N ?m ?h0 ?h1 ?hf ?hx ?_ ?hs; (case N => k_asm); (case m => k_mem); (case hx => assumption); (case h0 => decide); (case hf => decide); (case h1 => omega); (case hs => with_unfolding_all rfl)); (try dsimp only)))

local macro_rules | `(tactic| walk_at "call ref") => `(tactic| (k_here; (with_reducible show wpAny _ _ (call (Value.ref 23) _ _) _ _ _); k_dflt (refine' says_use (br_says _ _ _ _ _ _ _ _ ?m ?i ?z ?s) ?k1 ?k2 ?k3 ?k4 ?k5 ?k6 ?k7 ?k8 ?_; (case k2 => k_asm); (case k4 => k_asm); (case k1 => k_asm); (case k3 => k_asm); (case k5 => k_asm); (case k6 => exact rfl); (case k7 => ktr_room); (case k8 => ktr_units); (case m => k_mem); (case i => assumption); (case z => assumption); (case s => assumption)); (rintro r' led' h' tk' F' N' ⟨eL, p', tp', eR, hp', hP'⟩); (subst eL); (subst eR); (try dsimp only)))
local macro_rules | `(tactic| walk_at "call ref") => `(tactic| (k_here; (with_reducible show wpAny _ _ (call (Value.ref 32) _ _) _ _ _); k_dflt (refine' says_use (bl0_says _ _ _ _ _ _ _ _ ?m ?i ?z ?s) ?k1 ?k2 ?k3 ?k4 ?k5 ?k6 ?k7 ?k8 ?_; (case k2 => k_asm); (case k4 => k_asm); (case k1 => k_asm); (case k3 => k_asm); (case k5 => k_asm); (case k6 => exact rfl); (case k7 => ktr_room); (case k8 => ktr_units); (case m => k_mem); (case i => assumption); (case z => assumption); (case s => assumption)); (rintro r' led' h' tk' F' N' ⟨eL, p', tp', eR, hp', hP'⟩); (subst eL); (subst eR); (try dsimp only)))

def lowsOf (xs : List It) (i : Nat) : List Int := (List.range i).map (lowAt xs)
def topAt (xs : List It) (i : Nat) : Int := lowAt xs i + (match xs[i]? with | some x => x.d | none => 0)
def topsOf (xs : List It) (i : Nat) : List Int := (List.range i).map (topAt xs)

theorem ints_snoc {vs : List Value} {ns : List Int} {y : Int} {t : Tok} (h : IntsAre vs ns) : IntsAre (vs ++ [.int y t]) (ns ++ [y]) := IntsAre.append h (.cons _ _ .nil)
theorem lows_succ (xs : List It) (i : Nat) : lowsOf xs (i + 1) = lowsOf xs i ++ [lowAt xs i] := by
  unfold lowsOf; rw [List.range_succ, List.map_append]; rfl
theorem tops_succ (xs : List It) (i : Nat) : topsOf xs (i + 1) = topsOf xs i ++ [topAt xs i] := by
  unfold topsOf; rw [List.range_succ, List.map_append]; rfl
theorem lows_get {xs : List It} {n i : Nat} (h : i < n) : (lowsOf xs n)[i]? = some (lowAt xs i) := by
  unfold lowsOf; simp [h]
theorem tops_get {xs : List It} {n i : Nat} (h : i < n) : (topsOf xs n)[i]? = some (topAt xs i) := by
  unfold topsOf; simp [h]
theorem lows_len (xs : List It) (n : Nat) : (lowsOf xs n).length = n := by unfold lowsOf; simp
theorem tops_len (xs : List It) (n : Nat) : (topsOf xs n).length = n := by unfold topsOf; simp

/-- what _law_told looks at -/
structure ToldOk (xs : List It) (D : List (Int × Int)) (count reach : Int) : Prop where
  ne : 0 < xs.length
  pos : 0 ≤ count ∧ count < 2 ^ 40
  mem : ∀ (i : Nat) (x : It), xs[i]? = some x → (x.v, x.t) ∈ D
  lows : (lowsOf xs xs.length).Pairwise (· ≤ ·)
  tops : (topsOf xs xs.length).Pairwise (· ≤ ·)
  one : ∀ (r : Int) (p : Nat), 1 ≤ r → r ≤ count → p ≤ xs.length → (∀ i, i < xs.length → (i < p ↔ topAt xs i ≤ r + reach)) → 1 ≤ p ∧ ∀ x, xs[p - 1]? = some x → rankOf D x.v x.t - r ≤ reach ∧ -(rankOf D x.v x.t - r) ≤ reach
  other : ∀ (r : Int) (p : Nat), 1 ≤ r → r ≤ count → p ≤ xs.length → (∀ i, i < xs.length → (i < p ↔ lowAt xs i < r - reach)) → p < xs.length ∧ ∀ x, xs[p]? = some x → rankOf D x.v x.t - r ≤ reach ∧ -(rankOf D x.v x.t - r) ≤ reach
  last : topAt xs (xs.length - 1) = count

theorem one_at {xs : List It} {D : List (Int × Int)} {count reach r : Int} {p : Nat} {led : List (Addr × Obj)} {l : Addr} {as : List Addr} (S : SumAt led l as xs) (H : ToldOk xs D count reach) (h1 : 1 ≤ r) (h2 : r ≤ count)
    (hp : p ≤ (topsOf xs xs.length).length) (hP : ∀ (i : Nat) (y : Int), (topsOf xs xs.length)[i]? = some y → (i < p ↔ y ≤ r + reach)) :
    1 ≤ p ∧ ∃ (a : Addr) (x : It), (as.map Value.ref)[((p : Int) - 1).toNat]? = some (.ref a) ∧ (x.v, x.t) ∈ D ∧ rankOf D x.v x.t - r ≤ reach ∧ -(rankOf D x.v x.t - r) ≤ reach ∧ ∃ tv tt tg td e, (a, listOf #[.int x.v tv, .int x.t tt, .int x.g tg, .int x.d td] e) ∈ led := by
  rw [tops_len] at hp
  obtain ⟨q1, q2⟩ := H.one r p h1 h2 hp fun i hi => hP i _ (tops_get hi)
  obtain ⟨a, x, _, g1, g2, g3⟩ := S.at (i := p - 1) (by omega)
  exact ⟨q1, a, x, by rw [show ((p : Int) - 1).toNat = p - 1 by omega]; exact g1, H.mem _ x g2, (q2 x g2).1, (q2 x g2).2, g3⟩
theorem other_at {xs : List It} {D : List (Int × Int)} {count reach r : Int} {p : Nat} {led : List (Addr × Obj)} {l : Addr} {as : List Addr} (S : SumAt led l as xs) (H : ToldOk xs D count reach) (h1 : 1 ≤ r) (h2 : r ≤ count)
    (hp : p ≤ (lowsOf xs xs.length).length) (hP : ∀ (i : Nat) (y : Int), (lowsOf xs xs.length)[i]? = some y → (i < p ↔ y < r - reach)) :
    ∃ (a : Addr) (x : It), (as.map Value.ref)[((p : Nat) : Int).toNat]? = some (.ref a) ∧ (x.v, x.t) ∈ D ∧ rankOf D x.v x.t - r ≤ reach ∧ -(rankOf D x.v x.t - r) ≤ reach ∧ ∃ tv tt tg td e, (a, listOf #[.int x.v tv, .int x.t tt, .int x.g tg, .int x.d td] e) ∈ led := by
  rw [lows_len] at hp
  obtain ⟨q1, q2⟩ := H.other r p h1 h2 hp fun i hi => hP i _ (lows_get hi)
  obtain ⟨a, x, _, g1, g2, g3⟩ := S.at (i := p) q1
  exact ⟨a, x, by rw [Int.toNat_natCast]; exact g1, H.mem _ x g2, (q2 x g2).1, (q2 x g2).2, g3⟩

theorem namesA {h₀ h : Heap} {L a b : Addr} {o o2 : Obj} {led : List (Addr × Obj)} (N : News h₀ L h ((a, o) :: (b, o2) :: led)) : ∃ a' b', a' = a ∧ b' = b := ⟨a, b, rfl, rfl⟩

theorem told_turn {h₀ : Heap} {L l Dl Dt : Addr} {J : (Str → Option Value) → List (Addr × Obj) → Prop} {own led led₁ : List (Addr × Obj)} {X Y X0 Y0 : Obj} {s₁ : Shared} {h' : Heap} {tk : Nat} {m' : Str → Option Value} {Q : Flow → Shared → Prop}
    (F : Fr h₀ L h' m') (N : News h₀ L h' (lset (lset led₁ Dl X) Dt Y)) (hDD : Dl ≠ Dt) (hsub : ∀ p ∈ led, p ∈ led₁) (hsub2 : ∀ p ∈ own, p ∈ led₁) (hlt1 : ∀ q ∈ led, q.1 < Dl) (hlt2 : ∀ q ∈ led, q.1 < Dt)
    (hoDl : ∀ p ∈ own, p.1 ≠ Dl) (hoDt : ∀ p ∈ own, p.1 ≠ Dt) (hown : ∀ q ∈ own, q.1 = l ∨ ∀ p ∈ (Dt, Y0) :: (Dl, X0) :: led, p.1 ≠ q.1) (hj : J m' ((Dt, Y) :: (Dl, X) :: led)) :
    ForPost h₀ L (· = l) J own s₁ Q .next { s₁ with heap := h', toks := tk } := by
  refine for_next F N (fun p hp => ?_) (fun p hp => lset_other (lset_other (hsub2 p hp) (hoDl p hp)) (hoDt p hp)) (fun q hq => ?_) hj
  · rcases List.mem_cons.mp hp with rfl | hp
    · exact lset_self
    · rcases List.mem_cons.mp hp with rfl | hp
      · exact lset_other lset_self hDD
      · exact lset_other (lset_other (hsub p hp) (Nat.ne_of_lt (hlt1 p hp))) (Nat.ne_of_lt (hlt2 p hp))
  · refine (hown q hq).imp id fun h1 p hp => ?_
    rcases List.mem_cons.mp hp with rfl | hp
    · exact (hoDt q hq).symm
    · rcases List.mem_cons.mp hp with rfl | hp
      · exact (hoDl q hq).symm
      · exact h1 p (List.mem_cons_of_mem _ (List.mem_cons_of_mem _ hp))

theorem told_says (w : World) (l rk : Addr) (as : List Addr) (xs : List It) (D : List (Int × Int)) (count reach : Int) (tc tr : Tok) (led : List (Addr × Obj))
   (S : SumAt led l as xs) (R : RankAt w led rk D) (H : ToldOk xs D count reach) (hz6 : xs.length < 64) :
   Says w 20 200 (.ref 65) [.ref l, .ref rk, .int count tc, .int reach tr] [] led (fun r led' => r = .bool true ∧ ∀ q ∈ led, q ∈ led') := by
  unfold Says
  k_fill
  intro dp un gd cn cs a ccd cl outer A₀ base h₀ L m mean mg mb s Q E B F X N T hk hdp hu hret
  obtain ⟨e, hm⟩ := S.main
  have hz : xs.length < 2 ^ 20 := by omega
  have hlen : (as.map Value.ref).length = xs.length := by rw [List.length_map, S.len]
  refine wpAny_call ?_
  k_dflt ktr_enter
  (generalize hst : Stmt.For _ (Expr.Name _ _) _ _ _ = st)
  (generalize hst2 : Stmt.For _ (Expr.Call _ _ _ _) _ _ _ = st2)
  k_steps
  subst hst
  rename Fr _ _ _ _ => F1
  rename News _ _ _ _ => N1
  obtain ⟨Dt, Dl, ea, eb⟩ := namesA N1
  subst ea eb
  rename Dl < Dt ∧ AllLt Dt led => hl2
  have hlt1 : ∀ q ∈ led, q.1 < Dl := by first | assumption | exact tb_ltOf (by assumption)
  have hlt2 : ∀ q ∈ led, q.1 < Dt := tb_ltOf hl2.2
  have hDD : Dl ≠ Dt := Nat.ne_of_lt hl2.1
  have hlDl : l ≠ Dl := Nat.ne_of_lt (hlt1 _ hm)
  have hlDt : l ≠ Dt := Nat.ne_of_lt (hlt2 _ hm)
  with_unfolding_all refine' For_invVF F1 ?k1 ?k2 ?_
  case k1 => exact rfl
  case k2 => exact rfl
  walk1
  refine N_for (fun i m₁ nx => ∃ (vl vt : List Value) (el et : Nat), nx = (Dt, listOf vt.toArray et) :: (Dl, listOf vl.toArray el) :: led ∧ IntsAre vl (lowsOf xs i) ∧ IntsAre vt (topsOf xs i) ∧
    m₁ (Str.ofString "items") = some (.ref l) ∧ m₁ (Str.ofString "ranks") = some (.ref rk) ∧ m₁ (Str.ofString "count") = some (.int count tc) ∧ m₁ (Str.ofString "reach") = some (.int reach tr) ∧ m₁ (Str.ofString "lows") = some (.ref Dl) ∧
    m₁ (Str.ofString "tops") = some (.ref Dt) ∧ ∃ tl, m₁ (Str.ofString "low") = some (.int (lowPre xs i) tl)) (by rfl) F1 N1 (List.mem_cons_of_mem _ (List.mem_cons_of_mem _ hm))
    ⟨[], [], 0, 0, rfl, .nil, .nil, rfl, rfl, rfl, rfl, rfl, rfl, _, rfl⟩ ?_ ?_
  · clear F1 N1 hl2
    rintro i v m₁ nx h tk own hv hown ⟨vl, vt, el, et, rfl, hvl, hvt, ei, er, ec, eb, elo, eto, tl, elw⟩ F2 N2
    have F3 := fr_pins (m := fun y => if y = Str.ofString "item" then some v else m₁ y) [(Str.ofString "item", v), (Str.ofString "items", .ref l), (Str.ofString "ranks", .ref rk), (Str.ofString "count", .int count tc), (Str.ofString "reach", .int reach tr), (Str.ofString "lows", .ref Dl), (Str.ofString "tops", .ref Dt), (Str.ofString "low", .int (lowPre xs i) tl)] ⟨rfl, ei, er, ec, eb, elo, eto, elw, trivial⟩ F2
    dsimp only [pins] at F3
    clear F2
    obtain ⟨led₁, hled⟩ : ∃ x, x = (Dt, listOf vt.toArray et) :: (Dl, listOf vl.toArray el) :: led ++ own := ⟨_, rfl⟩
    rw [← hled] at N2
    have hDt1 : (Dt, listOf vt.toArray et) ∈ led₁ := hled ▸ List.mem_cons_self ..
    have hDl1 : (Dl, listOf vl.toArray el) ∈ led₁ := hled ▸ List.mem_cons_of_mem _ (List.mem_cons_self ..)
    have hsub : ∀ p ∈ led, p ∈ led₁ := fun p hp => hled ▸ List.mem_append_left _ (List.mem_cons_of_mem _ (List.mem_cons_of_mem _ hp))
    have hsub2 : ∀ p ∈ own, p ∈ led₁ := fun p hp => hled ▸ List.mem_append_right _ hp
    have hoDl : ∀ p ∈ own, p.1 ≠ Dl := fun p hp q => (hown p hp).elim (fun h1 => hlDl (h1.symm.trans q)) fun h1 => h1 _ (List.mem_cons_of_mem _ (List.mem_cons_self ..)) q.symm
    have hoDt : ∀ p ∈ own, p.1 ≠ Dt := fun p hp q => (hown p hp).elim (fun h1 => hlDt (h1.symm.trans q)) fun h1 => h1 _ (List.mem_cons_self ..) q.symm
    have hi : i < xs.length := by
      rcases Nat.lt_or_ge i xs.length with h1 | h1
      · exact h1
      · rw [List.getElem?_eq_none (by omega)] at hv; cases hv
    obtain ⟨a1, x1, hga1, hgv1, hgx1, tv1, tt1, tg1, td1, e1, hmm0⟩ := S.at hi
    obtain rfl : v = .ref a1 := by rw [hgv1] at hv; exact (Option.some.inj hv).symm
    have hmm1 := hsub _ hmm0
    have hne1 : a1 ≠ Dl := Nat.ne_of_lt (hlt1 _ hmm0)
    have hne2 : a1 ≠ Dt := Nat.ne_of_lt (hlt2 _ hmm0)
    have hDD' := hDD.symm
    have hlow : lowAt xs i = lowPre xs i + x1.g := lowPre_succ hgx1
    have htop : topAt xs i = lowPre xs i + x1.g + x1.d := by unfold topAt; rw [hgx1, hlow]
    have hlvl : vl.length = i := by rw [hvl.length, lows_len]
    have hlvt : vt.length = i := by rw [hvt.length, tops_len]
    clear R S hret hst2
    k_steps
    refine N_append (by assumption) (by assumption) hDl1 (by omega) ?_
    intro h3 F3 N3
    dsimp only
    k_steps
    refine N_append (by assumption) (by assumption) (lset_other hDt1 hDD') (by omega) ?_
    intro h4 F4 N4
    dsimp only
    k_steps
    (rename Fr _ _ _ _ => F5)
    (rename News _ _ _ _ => N5)
    exact told_turn F5 N5 hDD hsub hsub2 hlt1 hlt2 hoDl hoDt hown
      ⟨_, _, _, _, rfl, (by rw [lows_succ, hlow]; exact ints_snoc hvl), (by rw [tops_succ, htop]; exact ints_snoc hvt), rfl, rfl, rfl, rfl, rfl, rfl, _, (by rw [lowPre_succ hgx1]; rfl)⟩
  · clear F1 N1 hl2
    rintro m₁ nx h tk ⟨vl, vt, el, et, rfl, hvl, hvt, ei, er, ec, eb, elo, eto, tl, elw⟩ F2 N2
    rw [hlen] at hvl hvt
    have F3 := fr_pins [(Str.ofString "items", .ref l), (Str.ofString "ranks", .ref rk), (Str.ofString "count", .int count tc), (Str.ofString "reach", .int reach tr), (Str.ofString "lows", .ref Dl), (Str.ofString "tops", .ref Dt)] ⟨ei, er, ec, eb, elo, eto, trivial⟩ F2
    dsimp only [pins] at F3
    clear F2
    dsimp only
    k_steps
    subst hst2
    rename Fr _ _ _ _ => F4
    rename News _ _ _ _ => N4
    with_unfolding_all refine' For_invVF F4 ?k1 ?k2 ?_
    case k1 => exact rfl
    case k2 => exact rfl
    repeat (first | (k_unfold; (try dsimp only)) | ((fail_if_success (with_reducible show wpAny _ _ (pyIter _) _ _ _)); first | walk1 | (dsimp only; walk1)))
    have hpos := H.pos
    have hne := H.ne
    refine N_range (n := count.toNat) (fun i m₁ nx => nx = (Dt, listOf vt.toArray et) :: (Dl, listOf vl.toArray el) :: led ∧ m₁ (Str.ofString "items") = some (.ref l) ∧ m₁ (Str.ofString "ranks") = some (.ref rk) ∧ m₁ (Str.ofString "count") = some (.int count tc) ∧
      m₁ (Str.ofString "reach") = some (.int reach tr) ∧ m₁ (Str.ofString "lows") = some (.ref Dl) ∧ m₁ (Str.ofString "tops") = some (.ref Dt)) (by rfl) (by assumption) (small_one (by omega) (by omega) (by omega) (by omega)) (by rw [rangeSize_nat]; congr 1; omega) (by assumption) (by assumption)
      ⟨rfl, rfl, rfl, rfl, rfl, rfl, rfl⟩ ?_ ?_
    · skip
      rintro i t m₁ nx h tk own hi hown ⟨rfl, ei, er, ec, eb, elo, eto⟩ F2 N2
      have F3 := fr_pins (m := fun y => if y = Str.ofString "r" then some (.int (1 + (i : Nat)) t) else m₁ y) [(Str.ofString "r", .int (1 + (i : Nat)) t), (Str.ofString "items", .ref l), (Str.ofString "ranks", .ref rk), (Str.ofString "count", .int count tc), (Str.ofString "reach", .int reach tr), (Str.ofString "lows", .ref Dl), (Str.ofString "tops", .ref Dt)] ⟨rfl, ei, er, ec, eb, elo, eto, trivial⟩ F2
      dsimp only [pins] at F3
      clear F2
      obtain ⟨led₁, hled⟩ : ∃ x, x = (Dt, listOf vt.toArray et) :: (Dl, listOf vl.toArray el) :: led ++ own := ⟨_, rfl⟩
      rw [← hled] at N2
      have hDt1 : (Dt, listOf vt.toArray et) ∈ led₁ := hled ▸ List.mem_cons_self ..
      have hDl1 : (Dl, listOf vl.toArray el) ∈ led₁ := hled ▸ List.mem_cons_of_mem _ (List.mem_cons_self ..)
      have hsub : ∀ p ∈ led, p ∈ led₁ := fun p hp => hled ▸ List.mem_append_left _ (List.mem_cons_of_mem _ (List.mem_cons_of_mem _ hp))
      have hsub2 : ∀ p ∈ own, p ∈ led₁ := fun p hp => hled ▸ List.mem_append_right _ hp
      have hsub3 : ∀ p ∈ (Dt, listOf vt.toArray et) :: (Dl, listOf vl.toArray el) :: led, p ∈ led₁ := fun p hp => hled ▸ List.mem_append_left _ hp
      have hm1 := hsub _ hm
      have S1 := S.mono hsub
      have R1 := R.mono hsub
      have hzt : (topsOf xs xs.length).length < 2 ^ 20 := by rw [tops_len]; exact hz
      have hzl : (lowsOf xs xs.length).length < 2 ^ 20 := by rw [lows_len]; exact hz
      have hsl := H.lows
      have hst := H.tops
      have hr1 : (1 : Int) ≤ 1 + (i : Nat) := by omega
      have hr2 : (1 : Int) + (i : Nat) ≤ count := by omega
      clear R S hret
      k_steps
      (rename ∀ (i : Nat) (y : Int), _ = some y → (i < _ ↔ y ≤ _) => hP1)
      (rename _ ≤ (topsOf xs xs.length).length => hp1)
      obtain ⟨hq1, a1, x1, hgv1, hmem1, hk1, hk2, tv1, tt1, tg1, td1, en1, hmm1⟩ := one_at S1 H hr1 hr2 hp1 hP1
      rw [tops_len] at hp1
      (try dsimp only)
      k_steps
      (rename ∀ (i : Nat) (y : Int), _ = some y → (i < _ ↔ y < _) => hP2)
      (rename _ ≤ (lowsOf xs xs.length).length => hp2)
      obtain ⟨a2, x2, hgv2, hmem2, hk3, hk4, tv2, tt2, tg2, td2, en2, hmm2⟩ := other_at S1 H hr1 hr2 hp2 hP2
      rw [lows_len] at hp2
      (try dsimp only)
      k_steps
      exact for_next (by assumption) (by assumption) (fun p hp => List.mem_cons_of_mem _ (List.mem_cons_of_mem _ (hsub3 p hp))) (fun p hp => List.mem_cons_of_mem _ (List.mem_cons_of_mem _ (hsub2 p hp))) hown ⟨rfl, rfl, rfl, rfl, rfl, rfl, rfl⟩
    · rintro m₁ nx h tk ⟨rfl, ei, er, ec, eb, elo, eto⟩ F2 N2
      have F3 := fr_pins [(Str.ofString "items", .ref l), (Str.ofString "ranks", .ref rk), (Str.ofString "count", .int count tc), (Str.ofString "reach", .int reach tr), (Str.ofString "lows", .ref Dl), (Str.ofString "tops", .ref Dt)] ⟨ei, er, ec, eb, elo, eto, trivial⟩ F2
      dsimp only [pins] at F3
      clear F2
      have hvt2 : IntsAre vt (topsOf xs xs.length) := by assumption
      have hlvt : vt.length = xs.length := by rw [hvt2.length, tops_len]
      obtain ⟨yl, tl, hyl, hvl'⟩ := ints_at hvt2 (i := xs.length - 1) (by rw [tops_len]; omega)
      have hyc : yl = count := by
        rw [tops_get (by omega), H.last] at hyl; exact (Option.some.inj hyl).symm
      subst hyc
      have hx : vt[((-1 : Int) + (vt.length : Nat)).toNat]? = some (.int yl tl) := by
        rw [hlvt, show ((-1 : Int) + (xs.length : Nat)).toNat = xs.length - 1 by omega]; exact hvl'
      have hDt1 : (Dt, listOf vt.toArray et) ∈ (Dt, listOf vt.toArray et) :: (Dl, listOf vl.toArray el) :: led := List.mem_cons_self ..
      (try dsimp only)
      have he : (topsOf xs xs.length).getD ((-1 : Int) + ((topsOf xs xs.length).length : Nat)).toNat 0 = yl := by
        rw [tops_len, show ((-1 : Int) + (xs.length : Nat)).toNat = xs.length - 1 by omega, List.getD_eq_getElem?_getD, tops_get (by omega), H.last]; rfl
      k_steps
      rw [he, show (yl == yl) = true by simp]
      exact hret _ _ _ _ (by assumption) (by assumption) ⟨rfl, fun q hq => List.mem_cons_of_mem _ (List.mem_cons_of_mem _ hq)⟩
end Mine
end

section
open PySem PySem.W PyProof.Rows PySem.Calls
set_option maxRecDepth 100000
set_option maxHeartbeats 2000000
namespace Mine

/-! the plain law -/

def sumg : List It → Int
  | [] => 0
  | x :: r => x.g + sumg r
theorem sumg_append (A B : List It) : sumg (A ++ B) = sumg A + sumg B := by
  induction A with
  | nil => simp [sumg]
  | cons x r ih => simp only [List.cons_append, sumg, ih]; omega

/-- from the count ahead on: each lies between its least and its greatest rank -/
def Inv (R : Int → Int → Int) (b : Int) : Int → List It → Prop
  | _, [] => True
  | c, x :: r => (c + x.g ≤ R x.v x.t ∧ R x.v x.t ≤ c + x.g + x.d ∧ x.g + x.d ≤ b ∧ 1 ≤ x.g ∧ 0 ≤ x.d) ∧ Inv R b (c + x.g) r

theorem inv_append {R : Int → Int → Int} {b : Int} : ∀ {A B : List It} {c : Int}, Inv R b c (A ++ B) ↔ Inv R b c A ∧ Inv R b (c + sumg A) B
  | [], B, c => by simp [Inv, sumg]
  | x :: A, B, c => by
    simp only [List.cons_append, Inv, sumg]
    rw [inv_append, show c + x.g + sumg A = c + (x.g + sumg A) by omega]
    constructor
    · rintro ⟨h1, h2, h3⟩; exact ⟨⟨h1, h2⟩, h3⟩
    · rintro ⟨⟨h1, h2⟩, h3⟩; exact ⟨h1, h2, h3⟩

theorem inv_mono {R : Int → Int → Int} {b b' : Int} (hb : b ≤ b') : ∀ {A : List It} {c : Int}, Inv R b c A → Inv R b' c A
  | [], _, _ => trivial
  | _ :: _, _, ⟨⟨h1, h2, h3, h4, h5⟩, h⟩ => ⟨⟨h1, h2, by omega, h4, h5⟩, inv_mono hb h⟩

theorem inv_same {R R' : Int → Int → Int} {b : Int} : ∀ {A : List It} {c : Int}, (∀ x ∈ A, R' x.v x.t = R x.v x.t) → Inv R b c A → Inv R' b c A
  | [], _, _, _ => trivial
  | x :: r, _, h, ⟨h1, h2⟩ => ⟨by rw [h x (List.mem_cons_self ..)]; exact h1, inv_same (fun y hy => h y (List.mem_cons_of_mem _ hy)) h2⟩
theorem inv_shift {R R' : Int → Int → Int} {b : Int} : ∀ {A : List It} {c : Int}, (∀ x ∈ A, R' x.v x.t = R x.v x.t + 1) → Inv R b c A → Inv R' b (c + 1) A
  | [], _, _, _ => trivial
  | x :: r, c, h, ⟨⟨h1, h2, h3, h4, h5⟩, h6⟩ => by
    refine ⟨?_, ?_⟩
    · rw [h x (List.mem_cons_self ..)]
      exact ⟨by omega, by omega, h3, h4, h5⟩
    · have := inv_shift (R := R) (R' := R') (fun y hy => h y (List.mem_cons_of_mem _ hy)) h6
      rw [show c + 1 + x.g = c + x.g + 1 by omega]
      exact this
theorem inv_g {R : Int → Int → Int} {b : Int} : ∀ {A : List It} {c : Int}, Inv R b c A → ∀ x ∈ A, 1 ≤ x.g ∧ 0 ≤ x.d
  | _ :: _, _, ⟨⟨_, _, _, h4, h5⟩, h⟩, x, hx => by
    rcases List.mem_cons.mp hx with rfl | hx
    · exact ⟨h4, h5⟩
    · exact inv_g h x hx
theorem inv_len {R : Int → Int → Int} {b : Int} : ∀ {A : List It} {c : Int}, Inv R b c A → (A.length : Int) ≤ sumg A
  | [], _, _ => by simp [sumg]
  | x :: A, _, ⟨⟨_, _, _, h4, _⟩, h⟩ => by
    have := inv_len h
    simp only [List.length_cons, sumg]
    omega

def topsL : Int → List It → List Int
  | _, [] => []
  | c, x :: r => (c + x.g + x.d) :: topsL (c + x.g) r
theorem topsL_append : ∀ (A B : List It) (c : Int), topsL c (A ++ B) = topsL c A ++ topsL (c + sumg A) B
  | [], B, c => by simp [topsL, sumg]
  | x :: A, B, c => by simp only [List.cons_append, topsL, sumg, topsL_append A B]; rw [show c + x.g + sumg A = c + (x.g + sumg A) by omega]
theorem topsL_shift : ∀ (A : List It) (c : Int), topsL (c + 1) A = (topsL c A).map (· + 1)
  | [], _ => rfl
  | x :: A, c => by
    simp only [topsL, List.map_cons]
    rw [show c + 1 + x.g = c + x.g + 1 by omega, topsL_shift A]
    congr 1
    omega
theorem topsL_ge {R : Int → Int → Int} {b : Int} : ∀ {A : List It} {c : Int}, Inv R b c A → ∀ y ∈ topsL c A, c + 1 ≤ y
  | x :: A, c, ⟨⟨_, _, _, h4, h5⟩, h⟩, y, hy => by
    rcases List.mem_cons.mp hy with rfl | hy
    · omega
    · have := topsL_ge h y hy
      omega

structure GK (R : Int → Int → Int) (b k : Int) (xs : List It) : Prop where
  inv : Inv R b 0 xs
  tops : (topsL 0 xs).Pairwise (· ≤ ·)
  sum : sumg xs = k
  first : ∀ x r, xs = x :: r → R x.v x.t = 1 ∧ x.d = 0
  last : ∀ A z, xs = A ++ [z] → R z.v z.t = k ∧ z.d = 0
  sorted : xs.Pairwise fun y z => plt y.v y.t z.v z.t = true

theorem gk_merge {R : Int → Int → Int} {b k : Int} {A B : List It} {x y : It} (h : GK R b k (A ++ x :: y :: B)) (hA : A ≠ []) (hc : x.g + y.g + y.d ≤ b) : GK R b k (A ++ { y with g := y.g + x.g } :: B) := by
  obtain ⟨h1, h2, h3, h4, h5, h6⟩ := h
  rw [inv_append] at h1
  obtain ⟨i1, i2, i3, i4⟩ := h1
  refine ⟨?_, ?_, ?_, ?_, ?_, ?_⟩
  · rw [inv_append]
    refine ⟨i1, ⟨?_, ?_, ?_, ?_, ?_⟩, ?_⟩
    · show _ + (y.g + x.g) ≤ R y.v y.t; have := i3.1; omega
    · show R y.v y.t ≤ _ + (y.g + x.g) + y.d; have := i3.2.1; omega
    · show (y.g + x.g) + y.d ≤ b; omega
    · show 1 ≤ y.g + x.g; have := i2.2.2.2.1; have := i3.2.2.2.1; omega
    · exact i3.2.2.2.2
    · show Inv R b (_ + (y.g + x.g)) B
      rw [show 0 + sumg A + (y.g + x.g) = 0 + sumg A + x.g + y.g by omega]; exact i4
  · rw [topsL_append] at h2 ⊢
    simp only [topsL] at h2 ⊢
    rw [show 0 + sumg A + (y.g + x.g) = 0 + sumg A + x.g + y.g by omega]
    refine h2.sublist (List.Sublist.append (List.Sublist.refl _) (List.sublist_cons_self _ _))
  · rw [← h3, sumg_append, sumg_append]; simp only [sumg]; omega
  · intro z r e
    cases A with
    | nil => exact absurd rfl hA
    | cons a A => cases e; exact h4 _ _ rfl
  · intro A' z e
    rcases List.eq_nil_or_concat B with hB | ⟨B', z', hB⟩
    · subst hB
      obtain ⟨rfl, e2⟩ := List.append_inj' e rfl
      obtain rfl := (List.cons.inj e2).1
      exact h5 (A ++ [x]) y (by simp)
    · rw [List.concat_eq_append] at hB
      subst hB
      have e' : (A ++ { y with g := y.g + x.g } :: B') ++ [z'] = A' ++ [z] := by rw [← e]; simp
      obtain ⟨_, e2⟩ := List.append_inj' e' rfl
      obtain rfl := (List.cons.inj e2).1
      exact h5 (A ++ x :: y :: B') z' (by simp)
  · rw [List.pairwise_append] at h6 ⊢
    obtain ⟨p1, p2, p3⟩ := h6
    rw [List.pairwise_cons] at p2
    obtain ⟨p4, p5⟩ := p2
    rw [List.pairwise_cons] at p5
    refine ⟨p1, List.pairwise_cons.mpr ⟨p5.1, p5.2⟩, fun a ha z hz => ?_⟩
    rcases List.mem_cons.mp hz with rfl | hz
    · exact p3 a ha y (by simp)
    · exact p3 a ha z (by simp [hz])

theorem split_two {xs : List It} {j : Nat} {x y : It} (hx : xs[j]? = some x) (hy : xs[j + 1]? = some y) : xs = xs.take j ++ x :: y :: xs.drop (j + 2) := by
  obtain ⟨h1, rfl⟩ := List.getElem?_eq_some_iff.mp hx
  obtain ⟨h2, rfl⟩ := List.getElem?_eq_some_iff.mp hy
  rw [← List.drop_eq_getElem_cons h2, ← List.drop_eq_getElem_cons h1, List.take_append_drop]

theorem gk_step {R : Int → Int → Int} {b k cap : Int} {xs : List It} {j : Nat} (hj : 1 ≤ j) (hb : cap ≤ b) (h : GK R b k xs) : GK R b k (sqStep cap j xs) := by
  unfold sqStep
  cases hx : xs[j]? with
  | none => exact h
  | some x =>
    cases hy : xs[j + 1]? with
    | none => exact h
    | some y =>
      simp only
      by_cases hc : x.g + y.g + y.d ≤ cap
      · rw [if_pos hc]
        have e := split_two hx hy
        have hl : j < xs.length := (List.getElem?_eq_some_iff.mp hx).1
        rw [e] at h
        refine gk_merge h (fun q => ?_) (by omega)
        have : (xs.take j).length = 0 := by rw [q]; rfl
        rw [List.length_take] at this
        omega
      · rw [if_neg hc]; exact h

theorem gk_sqz {R : Int → Int → Int} {b k cap : Int} (hb : cap ≤ b) : ∀ (j : Nat) {xs : List It}, GK R b k xs → GK R b k (sqz cap j xs)
  | 0, _, h => h
  | j + 1, _, h => gk_sqz hb j (gk_step (by omega) hb h)

theorem mem_sqz {cap : Int} {P : Int → Int → Prop} : ∀ (j : Nat) {xs : List It}, (∀ x ∈ xs, P x.v x.t) → ∀ x ∈ sqz cap j xs, P x.v x.t
  | 0, _, h => h
  | j + 1, xs, h => by
    refine mem_sqz (xs := sqStep cap (j + 1) xs) j ?_
    intro x hx
    unfold sqStep at hx
    split at hx
    · rename_i x0 y0 hx0 hy0
      split at hx
      · rcases List.mem_append.mp hx with hx | hx
        · exact h x (List.mem_of_mem_take hx)
        · rcases List.mem_cons.mp hx with rfl | hx
          · exact h y0 (List.mem_of_getElem? hy0)
          · exact h x (List.mem_of_mem_drop hx)
      · exact h x hx
    · exact h x hx

/-- a new point goes in -/
theorem gk_put {R R' : Int → Int → Int} {b b' k v t : Int} {xs : List It} {p : Nat} (h : GK R b k xs) (hb : b ≤ b') (hb1 : 1 ≤ b') (hP : PlaceL xs v t p)
    (hlo : ∀ x ∈ xs, plt x.v x.t v t = true → R' x.v x.t = R x.v x.t ∧ R x.v x.t + 1 ≤ R' v t)
    (hhi : ∀ x ∈ xs, plt x.v x.t v t = false → plt v t x.v x.t = true ∧ R' x.v x.t = R x.v x.t + 1 ∧ R' v t ≤ R x.v x.t)
    (h1 : 1 ≤ R' v t) (hk : R' v t ≤ k + 1) : GK R' b' (k + 1) (putIt xs p v t) := by
  obtain ⟨i1, i2, i3, i4, i5, i6⟩ := h
  obtain ⟨hp, hpl⟩ := hP
  have hA : ∀ x ∈ xs.take p, plt x.v x.t v t = true := fun x hx => by
    obtain ⟨i, hi⟩ := List.mem_iff_getElem?.mp hx
    have hip : i < p := by
      rcases Nat.lt_or_ge i p with q | q
      · exact q
      · rw [List.getElem?_eq_none (by simp; omega)] at hi; cases hi
    rw [List.getElem?_take_of_lt hip] at hi
    exact (hpl i x hi).mp hip
  have hB : ∀ x ∈ xs.drop p, plt x.v x.t v t = false := fun x hx => by
    obtain ⟨i, hi⟩ := List.mem_iff_getElem?.mp hx
    rw [List.getElem?_drop] at hi
    cases hq : plt x.v x.t v t with
    | false => rfl
    | true => exact absurd ((hpl _ x hi).mpr hq) (by omega)
  have e : xs = xs.take p ++ xs.drop p := (List.take_append_drop p xs).symm
  have hnew : newIt xs p v t = (match xs.take p, xs.drop p with | [], _ => ⟨v, t, 1, 0⟩ | _ :: _, [] => ⟨v, t, 1, 0⟩ | _ :: _, y :: _ => ⟨v, t, 1, y.g + y.d - 1⟩) := by
    cases hq : xs.take p with
    | nil =>
      have h0 : p = 0 ∨ xs.length = 0 := by
        have : (xs.take p).length = 0 := by rw [hq]; rfl
        rw [List.length_take] at this; omega
      exact newIt_none (by omega)
    | cons a A =>
      have hp0 : p ≠ 0 := by rintro rfl; simp at hq
      cases hq2 : xs.drop p with
      | nil =>
        have : (xs.drop p).length = 0 := by rw [hq2]; rfl
        rw [List.length_drop] at this
        exact newIt_none (.inr (by omega))
      | cons y B =>
        have : xs[p]? = some y := by
          have : (xs.drop p)[0]? = some y := by rw [hq2]; rfl
          rw [List.getElem?_drop] at this
          simpa using this
        exact newIt_some hp0 this
  have hmA : ∀ x ∈ xs.take p, x ∈ xs := fun x hx => List.mem_of_mem_take hx
  have hmB : ∀ x ∈ xs.drop p, x ∈ xs := fun x hx => List.mem_of_mem_drop hx
  unfold putIt
  rw [hnew]
  clear hnew hpl hp
  generalize xs.take p = A at *
  generalize xs.drop p = B at *
  subst e
  rw [inv_append] at i1
  obtain ⟨j1, j2⟩ := i1
  rw [sumg_append] at i3
  rw [topsL_append, List.pairwise_append] at i2
  obtain ⟨t1, t2, t3⟩ := i2
  rw [List.pairwise_append] at i6
  obtain ⟨s1, s2, s3⟩ := i6
  have lo : ∀ x ∈ A, R' x.v x.t = R x.v x.t := fun x hx => (hlo x (hmA x hx) (hA x hx)).1
  have hi : ∀ x ∈ B, R' x.v x.t = R x.v x.t + 1 := fun x hx => (hhi x (hmB x hx) (hB x hx)).2.1
  have sumA : 0 ≤ sumg A := Int.le_trans (Int.natCast_nonneg _) (inv_len j1)
  have sumB : 0 ≤ sumg B := Int.le_trans (Int.natCast_nonneg _) (inv_len j2)
  -- what holds of the new entry, whatever its d
  have main : ∀ dn : Int, 0 ≤ dn → 1 + dn ≤ b' → sumg A + 1 ≤ R' v t → R' v t ≤ sumg A + 1 + dn → (∀ y ∈ topsL 0 A, y ≤ sumg A + 1 + dn) → (∀ y ∈ topsL (0 + sumg A) B, sumg A + 1 + dn ≤ y + 1) →
      (A = [] → dn = 0) → (B = [] → dn = 0) → GK R' b' (k + 1) (A ++ ⟨v, t, 1, dn⟩ :: B) := by
    intro dn d0 d1 r1 r2 ta tb fa fb
    refine ⟨?_, ?_, ?_, ?_, ?_, ?_⟩
    · rw [inv_append]
      refine ⟨inv_mono hb (inv_same lo j1), ⟨?_, ?_, d1, Int.le_refl 1, d0⟩, ?_⟩
      · show 0 + sumg A + 1 ≤ R' v t; omega
      · show R' v t ≤ 0 + sumg A + 1 + dn; omega
      · exact inv_mono hb (inv_shift hi j2)
    · rw [topsL_append]
      simp only [topsL]
      rw [topsL_shift, List.pairwise_append]
      refine ⟨t1, List.pairwise_cons.mpr ⟨fun y hy => ?_, ?_⟩, fun a ha y hy => ?_⟩
      · obtain ⟨z, hz, rfl⟩ := List.mem_map.mp hy
        have := tb z hz; omega
      · rw [List.pairwise_map]
        exact t2.imp fun q => by omega
      · rcases List.mem_cons.mp hy with rfl | hy
        · have := ta a ha; omega
        · obtain ⟨z, hz, rfl⟩ := List.mem_map.mp hy
          have := t3 a ha z hz; omega
    · rw [sumg_append]; simp only [sumg]; omega
    · intro x r e
      cases A with
      | nil =>
        cases e
        refine ⟨?_, fa rfl⟩
        have := fa rfl
        show R' v t = 1
        simp only [sumg] at r1 r2
        omega
      | cons a A' =>
        cases e
        obtain ⟨q1, q2⟩ := i4 _ _ rfl
        exact ⟨by rw [lo _ (List.mem_cons_self ..)]; exact q1, q2⟩
    · intro A' z e
      rcases List.eq_nil_or_concat B with hB' | ⟨B', z', hB'⟩
      · subst hB'
        obtain ⟨rfl, e2⟩ := List.append_inj' e rfl
        obtain rfl := (List.cons.inj e2).1
        refine ⟨?_, fb rfl⟩
        have := fb rfl
        show R' v t = k + 1
        simp only [sumg] at i3
        omega
      · rw [List.concat_eq_append] at hB'
        subst hB'
        have e' : (A ++ ⟨v, t, 1, dn⟩ :: B') ++ [z'] = A' ++ [z] := by rw [← e]; simp
        obtain ⟨_, e2⟩ := List.append_inj' e' rfl
        obtain rfl := (List.cons.inj e2).1
        obtain ⟨q1, q2⟩ := i5 (A ++ B') z' (by simp)
        exact ⟨by rw [hi _ (by simp), q1], q2⟩
    · rw [List.pairwise_append]
      refine ⟨s1, List.pairwise_cons.mpr ⟨fun y hy => (hhi y (hmB y hy) (hB y hy)).1, s2⟩, fun a ha y hy => ?_⟩
      rcases List.mem_cons.mp hy with rfl | hy
      · exact hA a ha
      · exact s3 a ha y hy
  -- the ranks of the neighbours
  have rA : ∀ A' z, A = A' ++ [z] → sumg A + 1 ≤ R' v t := by
    rintro A' z rfl
    have q1 := (hlo z (hmA z (by simp)) (hA z (by simp))).2
    rw [inv_append] at j1
    have q2 := j1.2.1.1
    rw [sumg_append]; simp only [sumg]; omega
  have low : sumg A + 1 ≤ R' v t := by
    rcases List.eq_nil_or_concat A with q | ⟨A', z, q⟩
    · subst q; simp only [sumg]; omega
    · exact rA A' z (by rw [q, List.concat_eq_append])
  rcases hAq : A with _ | ⟨a, A'⟩
  · subst hAq
    refine main 0 (by omega) (by omega) low ?_ (fun y hy => nomatch hy) (fun y hy => ?_) (fun _ => rfl) (fun _ => rfl)
    · cases B with
      | nil => simp only [sumg] at i3 ⊢; omega
      | cons y B' =>
        obtain ⟨q1, q2⟩ := i4 y B' rfl
        have := (hhi y (hmB y (by simp)) (hB y (by simp))).2.2
        simp only [sumg]; omega
    · have := topsL_ge j2 y hy
      simp only [sumg] at this ⊢; omega
  · rcases hBq : B with _ | ⟨y, B'⟩
    · show GK R' b' (k + 1) (a :: A' ++ [⟨v, t, 1, 0⟩])
      rw [← hAq]
      subst hBq
      refine main 0 (by omega) (by omega) low ?_ (fun y hy => ?_) (fun y hy => nomatch hy) (fun _ => rfl) (fun _ => rfl)
      · simp only [sumg] at i3; omega
      · -- the tops of A are at most its sum
        obtain ⟨A0, z, hz⟩ : ∃ A0 z, A = A0 ++ [z] := by
          rcases List.eq_nil_or_concat A with q | ⟨A0, z, q⟩
          · rw [q] at hAq; cases hAq
          · exact ⟨A0, z, by rw [q, List.concat_eq_append]⟩
        have hzd := (i5 A0 z (by simp [hz])).2
        subst hz
        rw [topsL_append, List.pairwise_append] at t1
        rw [topsL_append] at hy
        simp only [topsL] at t1 hy
        rw [sumg_append]; simp only [sumg]
        rcases List.mem_append.mp hy with hy | hy
        · have := t1.2.2 y hy _ (List.mem_cons_self ..); omega
        · have := List.mem_singleton.mp hy; omega
    · show GK R' b' (k + 1) (a :: A' ++ ⟨v, t, 1, y.g + y.d - 1⟩ :: y :: B')
      rw [← hAq, ← hBq]
      have hyB : y ∈ B := by rw [hBq]; exact List.mem_cons_self ..
      rw [hBq] at j2 t3 t2
      have q := j2.1
      have q2 := (hhi y (hmB y hyB) (hB y hyB)).2.2
      refine main (y.g + y.d - 1) (by omega) (by omega) low (by omega) (fun z hz => ?_) (fun z hz => ?_) (fun e => by rw [e] at hAq; cases hAq) (fun e => by rw [e] at hBq; cases hBq)
      · have := t3 z hz _ (List.mem_cons_self ..); omega
      · rw [hBq] at hz
        simp only [topsL] at hz t2
        rcases List.mem_cons.mp hz with rfl | hz
        · omega
        · have := (List.pairwise_cons.mp t2).1 z hz; omega
end Mine
end

section
open PySem PySem.W PyProof.Rows PySem.Calls
set_option maxRecDepth 100000
set_option maxHeartbeats 2000000
namespace Mine

def pts (ns : List Int) (k : Nat) : List (Int × Int) := (List.range k).map fun (i : Nat) => (ns.getD i 0, (i : Int))
def cntR (P : List (Int × Int)) (v t : Int) : Int := (P.countP (fun q => plt q.1 q.2 v t) : Nat) + 1

theorem pts_succ (ns : List Int) (k : Nat) : pts ns (k + 1) = pts ns k ++ [(ns.getD k 0, (k : Int))] := by
  unfold pts; rw [List.range_succ, List.map_append]; rfl
theorem pts_len (ns : List Int) (k : Nat) : (pts ns k).length = k := by unfold pts; simp
theorem pts_mem {ns : List Int} {k : Nat} {q : Int × Int} (h : q ∈ pts ns k) : q.2 < (k : Int) := by
  unfold pts at h
  obtain ⟨i, hi, rfl⟩ := List.mem_map.mp h
  have := List.mem_range.mp hi
  show (i : Int) < _
  omega
theorem plt_irrefl (v t : Int) : plt v t v t = false := by simp [plt]
theorem cnt_succ (ns : List Int) (k : Nat) (v t : Int) : cntR (pts ns (k + 1)) v t = cntR (pts ns k) v t + (if plt (ns.getD k 0) k v t then 1 else 0) := by
  unfold cntR
  rw [pts_succ, List.countP_append]
  simp only [List.countP_cons, List.countP_nil]
  split <;> simp <;> omega

theorem count_le {P : List (Int × Int)} {p q : Int × Int → Bool} (h : ∀ x ∈ P, p x = true → q x = true) : P.countP p ≤ P.countP q := by
  induction P with
  | nil => exact Nat.le_refl _
  | cons x r ih =>
    have := ih fun y hy => h y (List.mem_cons_of_mem _ hy)
    have := h x (List.mem_cons_self ..)
    simp only [List.countP_cons]
    by_cases h1 : p x = true
    · rw [if_pos h1, if_pos (this h1)]; omega
    · rw [if_neg h1]; omega
theorem count_lt {P : List (Int × Int)} {p q : Int × Int → Bool} (h : ∀ x ∈ P, p x = true → q x = true) {y : Int × Int} (hy : y ∈ P) (h1 : p y = false) (h2 : q y = true) : P.countP p + 1 ≤ P.countP q := by
  induction P with
  | nil => cases hy
  | cons x r ih =>
    have e := h x (List.mem_cons_self ..)
    have hr : ∀ z ∈ r, p z = true → q z = true := fun z hz => h z (List.mem_cons_of_mem _ hz)
    have le := count_le hr
    simp only [List.countP_cons]
    rcases List.mem_cons.mp hy with rfl | hy
    · rw [if_neg (by simp [h1]), if_pos h2]; omega
    · have := ih hr hy
      by_cases h3 : p x = true
      · rw [if_pos h3, if_pos (e h3)]; omega
      · rw [if_neg h3]; omega

theorem rank_cnt {D : List (Int × Int)} {v t : Int} (hs : D.Pairwise fun y z => plt y.1 y.2 z.1 z.2 = true) (h : (v, t) ∈ D) : rankOf D v t = cntR D v t := by
  unfold rankOf cntR
  congr 2
  induction D with
  | nil => cases h
  | cons q r ih =>
    obtain ⟨h1, h2⟩ := List.pairwise_cons.mp hs
    by_cases e : q = (v, t)
    · subst e
      rw [List.idxOf_cons_self]
      symm
      rw [List.countP_eq_zero]
      intro z hz
      rcases List.mem_cons.mp hz with rfl | hz
      · simp [plt_irrefl]
      · rw [plt_asymm (h1 z hz)]; simp
    · have hr : (v, t) ∈ r := by
        rcases List.mem_cons.mp h with e2 | h
        · exact absurd e2.symm e
        · exact h
      rw [List.idxOf_cons, show (q == (v, t)) = false from by simpa using e, List.countP_cons, if_pos (h1 _ hr), ← ih h2 hr]; rfl

theorem cnt_perm {D P : List (Int × Int)} (h : D.Perm P) (v t : Int) : cntR D v t = cntR P v t := by
  unfold cntR; rw [h.countP_eq]

/-- what holds of the summary after k turns -/
structure GS (ns : List Int) (b : Int) (k : Nat) (xs : List It) : Prop where
  gk : GK (cntR (pts ns k)) b k xs
  mem : ∀ x ∈ xs, (x.v, x.t) ∈ pts ns k

theorem gs_nil {ns : List Int} {b : Int} : GS ns b 0 [] :=
  ⟨⟨trivial, List.Pairwise.nil, rfl, (fun _ _ e => nomatch e), (fun A z e => by cases A <;> cases e), List.Pairwise.nil⟩, fun _ h => nomatch h⟩

theorem gs_put {ns : List Int} {b b' v : Int} {k p : Nat} {xs : List It} (h : GS ns b k xs) (hb : b ≤ b') (hb1 : 1 ≤ b') (hv : ns[k]? = some v) (hP : PlaceL xs v k p) : GS ns b' (k + 1) (putIt xs p v k) := by
  have hv' : ns.getD k 0 = v := by rw [List.getD_eq_getElem?_getD, hv]; rfl
  have mo : ∀ x ∈ putIt xs p v k, (x.v, x.t) ∈ pts ns (k + 1) := by
    intro x hx
    rw [pts_succ, hv']
    unfold putIt at hx
    rcases List.mem_append.mp hx with hx | hx
    · exact List.mem_append.mpr (.inl (h.mem x (List.mem_of_mem_take hx)))
    · rcases List.mem_cons.mp hx with rfl | hx
      · have e1 : (newIt xs p v k).v = v ∧ (newIt xs p v k).t = k := by
          unfold newIt; split <;> exact ⟨rfl, rfl⟩
        rw [e1.1, e1.2]; simp
      · exact List.mem_append.mpr (.inl (h.mem x (List.mem_of_mem_drop hx)))
  have cle : (pts ns k).countP (fun q => plt q.1 q.2 v k) ≤ k := by
    have := List.countP_le_length (p := fun q : Int × Int => plt q.1 q.2 v k) (l := pts ns k)
    rwa [pts_len] at this
  have eR : cntR (pts ns (k + 1)) v k = cntR (pts ns k) v k := by rw [cnt_succ, hv', plt_irrefl]; simp
  refine ⟨?_, mo⟩
  rw [show ((k + 1 : Nat) : Int) = (k : Int) + 1 by omega]
  refine gk_put h.gk hb hb1 hP (fun x hx hl => ?_) (fun x hx hl => ?_) ?_ ?_
  · rw [eR]
    refine ⟨by rw [cnt_succ, hv', plt_asymm hl]; simp, ?_⟩
    have := count_lt (P := pts ns k) (p := fun q => plt q.1 q.2 x.v x.t) (q := fun q => plt q.1 q.2 v k) (fun q _ hq => plt_trans hq hl) (h.mem x hx) (plt_irrefl _ _) hl
    unfold cntR; omega
  · have ht := pts_mem (h.mem x hx)
    have hg : plt v k x.v x.t = true := by
      unfold plt at hl ⊢
      simp only [decide_eq_true_eq, decide_eq_false_iff_not] at *
      omega
    refine ⟨hg, by rw [cnt_succ, hv', hg]; simp, ?_⟩
    rw [eR]
    have := count_le (P := pts ns k) (p := fun q => plt q.1 q.2 v k) (q := fun q => plt q.1 q.2 x.v x.t) (fun q _ hq => plt_trans hq hg)
    unfold cntR; omega
  · unfold cntR; omega
  · rw [eR]; unfold cntR; omega

theorem gs_sqz {ns : List Int} {b cap : Int} {k j : Nat} {xs : List It} (h : GS ns b k xs) (hb : cap ≤ b) : GS ns b k (sqz cap j xs) :=
  ⟨gk_sqz hb j h.gk, mem_sqz (P := fun v t => (v, t) ∈ pts ns k) j h.mem⟩
theorem gs_len {ns : List Int} {b : Int} {k : Nat} {xs : List It} (h : GS ns b k xs) : xs.length ≤ k := by
  have := inv_len h.gk.inv
  have := h.gk.sum
  omega

/-! the least ranks -/
theorem sumg_map (xs : List It) : (xs.map (·.g)).sum = sumg xs := by
  induction xs with
  | nil => rfl
  | cons x r ih => simp only [List.map_cons, List.sum_cons, sumg, ih]
theorem low_eq (xs : List It) (i : Nat) : lowAt xs i = sumg (xs.take (i + 1)) := sumg_map _
theorem take_at {xs : List It} {i : Nat} {x : It} (h : xs[i]? = some x) : xs.take (i + 1) = xs.take i ++ [x] := by
  obtain ⟨h1, rfl⟩ := List.getElem?_eq_some_iff.mp h
  rw [List.take_add_one]; simp [h1]
theorem low_at {xs : List It} {i : Nat} {x : It} (h : xs[i]? = some x) : lowAt xs i = sumg (xs.take i) + x.g := by
  rw [low_eq, take_at h, sumg_append]; simp [sumg]
theorem low_zero {xs : List It} {x : It} (h : xs[0]? = some x) : lowAt xs 0 = x.g := by
  rw [low_at h]; simp [sumg]
theorem low_next {xs : List It} {i : Nat} {x : It} (h : xs[i + 1]? = some x) : lowAt xs (i + 1) = lowAt xs i + x.g := by
  rw [low_at h, low_eq]
theorem split_one {xs : List It} {i : Nat} {x : It} (h : xs[i]? = some x) : xs = xs.take i ++ x :: xs.drop (i + 1) := by
  obtain ⟨h1, rfl⟩ := List.getElem?_eq_some_iff.mp h
  rw [← List.drop_eq_getElem_cons h1, List.take_append_drop]
theorem inv_at {R : Int → Int → Int} {b : Int} {xs : List It} {i : Nat} {x : It} (h : Inv R b 0 xs) (hx : xs[i]? = some x) :
    lowAt xs i ≤ R x.v x.t ∧ R x.v x.t ≤ lowAt xs i + x.d ∧ x.g + x.d ≤ b ∧ 1 ≤ x.g ∧ 0 ≤ x.d := by
  rw [split_one hx, inv_append] at h
  have := h.2.1
  rw [low_at hx]
  simpa using this
theorem low_le {R : Int → Int → Int} {b : Int} {xs : List It} (h : Inv R b 0 xs) : ∀ (n i : Nat), i + n < xs.length → lowAt xs i ≤ lowAt xs (i + n)
  | 0, i, _ => Int.le_refl _
  | n + 1, i, hi => by
    have hx : xs[i + n + 1]? = some xs[i + n + 1] := by simp
    have h1 := low_le h n i (by omega)
    have h2 := low_next hx
    have h3 := (inv_at h hx).2.2.2.1
    rw [show i + (n + 1) = i + n + 1 by omega, h2]; omega
theorem tops_at : ∀ (xs : List It) (c : Int) (i : Nat), (topsL c xs)[i]? = xs[i]?.map fun x => c + sumg (xs.take (i + 1)) + x.d
  | [], _, _ => rfl
  | x :: r, c, 0 => by simp [topsL, sumg]
  | x :: r, c, i + 1 => by
    simp only [topsL, List.getElem?_cons_succ, List.take_succ_cons, sumg]
    rw [tops_at r]
    congr 1; funext y; omega
theorem topAt_of {xs : List It} {i : Nat} {x : It} (h : xs[i]? = some x) : topAt xs i = lowAt xs i + x.d := by
  unfold topAt; rw [h]
theorem tops_eq (xs : List It) : topsOf xs xs.length = topsL 0 xs := by
  apply List.ext_getElem?
  intro i
  rw [tops_at]
  rcases Nat.lt_or_ge i xs.length with h | h
  · have hx : xs[i]? = some xs[i] := by simp [h]
    rw [tops_get h, topAt_of hx, hx, low_eq]
    simp
  · rw [List.getElem?_eq_none (by rw [tops_len]; exact h), List.getElem?_eq_none h]; rfl
theorem last_of {xs : List It} {x : It} (h : xs[xs.length - 1]? = some x) : ∃ A, xs = A ++ [x] := by
  refine ⟨xs.take (xs.length - 1), ?_⟩
  have := split_one h
  have h1 := (List.getElem?_eq_some_iff.mp h).1
  rw [List.drop_eq_nil_of_le (by omega)] at this
  exact this
theorem first_of {xs : List It} {x : It} (h : xs[0]? = some x) : ∃ r, xs = x :: r := by
  cases xs with
  | nil => cases h
  | cons y r => cases h; exact ⟨r, rfl⟩

section
variable {ns : List Int} {b : Int} {k : Nat} {xs : List It} {D : List (Int × Int)}

theorem gs_ne (h : GS ns b k xs) (hk : 1 ≤ k) : 0 < xs.length := by
  cases xs with
  | nil => have := h.gk.sum; simp only [sumg] at this; omega
  | cons _ _ => simp
theorem gs_rank (h : GS ns b k xs) (hs : D.Pairwise fun y z => plt y.1 y.2 z.1 z.2 = true) (hp : D.Perm (pts ns k)) {x : It} (hx : x ∈ xs) : (x.v, x.t) ∈ D ∧ rankOf D x.v x.t = cntR (pts ns k) x.v x.t := by
  have hm := hp.mem_iff.mpr (h.mem x hx)
  exact ⟨hm, by rw [rank_cnt hs hm, cnt_perm hp]⟩
theorem gs_lowlast (h : GS ns b k xs) (hk : 1 ≤ k) : lowAt xs (xs.length - 1) = k := by
  have := gs_ne h hk
  rw [low_eq, List.take_of_length_le (by omega), h.gk.sum]

theorem gs_holds (h : GS ns b k xs) (hk : 1 ≤ k) (hs : D.Pairwise fun y z => plt y.1 y.2 z.1 z.2 = true) (hp : D.Perm (pts ns k)) : HoldsOk xs D k b := by
  refine ⟨fun i x hx => (gs_rank h hs hp (List.mem_of_getElem? hx)).1, fun i x hx => ?_, h.gk.sorted, fun x hx => ?_, fun x hx => ?_, by rw [sumg_map, h.gk.sum], gs_ne h hk⟩
  · rw [(gs_rank h hs hp (List.mem_of_getElem? hx)).2]
    have := inv_at h.gk.inv hx
    exact ⟨this.1, this.2.1, this.2.2.1⟩
  · rw [(gs_rank h hs hp (List.mem_of_getElem? hx)).2]
    obtain ⟨r, e⟩ := first_of hx
    exact (h.gk.first x r e).1
  · rw [(gs_rank h hs hp (List.mem_of_getElem? hx)).2]
    obtain ⟨A, e⟩ := last_of hx
    exact (h.gk.last A x e).1

theorem gs_told {reach : Int} (h : GS ns b k xs) (hk : 1 ≤ k) (hk2 : k < 2 ^ 20) (hs : D.Pairwise fun y z => plt y.1 y.2 z.1 z.2 = true) (hp : D.Perm (pts ns k)) (hr : 0 ≤ reach) (hb : b ≤ 2 * reach + 1) : ToldOk xs D k reach := by
  have hne := gs_ne h hk
  have inv := h.gk.inv
  have rk : ∀ {i : Nat} {x : It}, xs[i]? = some x → rankOf D x.v x.t = cntR (pts ns k) x.v x.t := fun hx => (gs_rank h hs hp (List.mem_of_getElem? hx)).2
  have hlast : ∀ x, xs[xs.length - 1]? = some x → cntR (pts ns k) x.v x.t = k ∧ x.d = 0 := fun x hx => by
    obtain ⟨A, e⟩ := last_of hx; exact h.gk.last A x e
  have hfirst : ∀ x, xs[0]? = some x → cntR (pts ns k) x.v x.t = 1 ∧ x.d = 0 := fun x hx => by
    obtain ⟨A, e⟩ := first_of hx; exact h.gk.first x A e
  have at' : ∀ {i : Nat}, i < xs.length → xs[i]? = some (xs.getD i ⟨0, 0, 0, 0⟩) := fun {i} hi => by simp [List.getD_eq_getElem?_getD, hi]
  refine ⟨hne, ⟨by omega, by omega⟩, fun i x hx => (gs_rank h hs hp (List.mem_of_getElem? hx)).1, ?_, by rw [tops_eq]; exact h.gk.tops, ?_, ?_, ?_⟩
  · unfold lowsOf
    rw [List.pairwise_map]
    refine List.Pairwise.imp_of_mem (fun {i j} hi hj hij => ?_) List.pairwise_lt_range
    have hj' := List.mem_range.mp hj
    have := low_le inv (j - i) i (by omega)
    rwa [show i + (j - i) = j by omega] at this
  · intro r p h1 h2 hp' hP
    have p1 : 1 ≤ p := by
      have hx := at' hne
      have e := topAt_of hx
      have e2 := hfirst _ hx
      have e3 := inv_at inv hx
      have := (hP 0 hne).mpr (by rw [e]; omega)
      omega
    refine ⟨p1, fun x hx => ?_⟩
    rw [rk hx]
    have e1 := inv_at inv hx
    have e2 := (hP (p - 1) (by omega)).mp (by omega)
    rw [topAt_of hx] at e2
    refine ⟨by omega, ?_⟩
    rcases Nat.lt_or_ge p xs.length with q | q
    · have hy := at' q
      have e3 := inv_at inv hy
      have e4 : ¬ topAt xs p ≤ r + reach := fun z => by have := (hP p q).mpr z; omega
      have hy' : xs[p - 1 + 1]? = some (xs.getD p ⟨0, 0, 0, 0⟩) := by rw [show p - 1 + 1 = p by omega]; exact hy
      have e5 := low_next hy'
      rw [show p - 1 + 1 = p by omega] at e5
      rw [topAt_of hy] at e4
      omega
    · have : p = xs.length := by omega
      subst this
      have := hlast x hx
      omega
  · intro r p h1 h2 hp' hP
    have hpl : p < xs.length := by
      rcases Nat.lt_or_ge p xs.length with q | q
      · exact q
      · have := (hP (xs.length - 1) (by omega)).mp (by omega)
        rw [gs_lowlast h hk] at this
        omega
    refine ⟨hpl, fun x hx => ?_⟩
    rw [rk hx]
    have e1 := inv_at inv hx
    have e4 : ¬ lowAt xs p < r - reach := fun z => by have := (hP p hpl).mpr z; omega
    refine ⟨?_, by omega⟩
    rcases Nat.eq_zero_or_pos p with q | q
    · subst q
      have := hfirst x hx
      omega
    · have hy' : xs[p - 1 + 1]? = some x := by rw [show p - 1 + 1 = p by omega]; exact hx
      have e5 := low_next hy'
      rw [show p - 1 + 1 = p by omega] at e5
      have e6 := (hP (p - 1) (by omega)).mp (by omega)
      omega
  · have hx := at' (show xs.length - 1 < xs.length by omega)
    rw [topAt_of hx, gs_lowlast h hk, (hlast _ hx).2]; omega
end
end Mine
end

section
open PySem PySem.W PyProof.Rows PySem.Calls
set_option maxRecDepth 100000
set_option maxHeartbeats 2000000
namespace Mine

/-- the list of the points seen -/
structure SeenAt (led : List (Addr × Obj)) (sn : Addr) (Us : List Addr) (P : List (Int × Int)) : Prop where
  main : ∃ n, (sn, listOf (Us.map Value.ref).toArray n) ∈ led
  len : Us.length = P.length
  each : ∀ (i : Nat) (U : Addr) (q : Int × Int), Us[i]? = some U → P[i]? = some q → ∃ o, (U, o) ∈ led ∧ TupInts [q.1, q.2] o

theorem perm_of_sub : ∀ {l l2 : List Nat}, l.Nodup → (∀ a ∈ l, a ∈ l2) → l2.length ≤ l.length → l.Perm l2
  | [], l2, _, _, h => by
    have : l2 = [] := List.length_eq_zero_iff.mp (by simpa using h)
    subst this; exact List.Perm.refl _
  | x :: r, l2, hn, hs, h => by
    obtain ⟨h1, h2⟩ := List.nodup_cons.mp hn
    have hx := hs x (List.mem_cons_self ..)
    refine List.Perm.trans (List.Perm.cons x (perm_of_sub h2 (fun a ha => ?_) ?_)) (List.perm_cons_erase hx).symm
    · exact (List.mem_erase_of_ne (fun e => h1 (by rw [← e]; exact ha))).mpr (hs a (List.mem_cons_of_mem _ ha))
    · rw [List.length_erase_of_mem hx]; simp only [List.length_cons] at h; omega

theorem permN_range {n : Nat} {p : Array Nat} (P : PermN n p) : p.toList.Perm (List.range n) := by
  have hs := P.size
  have e : ∀ i (hi : i < p.toList.length), p.toList[i] = pk p i := fun i hi => by
    have hi' : i < p.size := by simpa using hi
    unfold pk
    rw [Array.getD_eq_getD_getElem?, Array.getElem?_eq_getElem hi']
    simp
  refine perm_of_sub ?_ (fun a ha => ?_) (by simp [hs])
  · rw [List.nodup_iff_pairwise_ne, List.pairwise_iff_getElem]
    intro i j hi hj hij q
    rw [e i hi, e j hj] at q
    have := P.inj i j (by simp [hs] at hi; exact hi) (by simp [hs] at hj; exact hj) q
    omega
  · obtain ⟨i, hi, rfl⟩ := List.mem_iff_getElem.mp ha
    rw [e i hi]
    exact List.mem_range.mpr (P.lt i (by simp [hs] at hi; exact hi))

theorem map_range_getD {α : Type} (P : List α) (d : α) : (List.range P.length).map (fun i => P.getD i d) = P := by
  apply List.ext_getElem
  · simp
  · intro i h1 h2
    simp [List.getD_eq_getElem?_getD, h2]

theorem total_pts {P : List (Int × Int)} (h : P.Pairwise fun y z => y.2 < z.2) : TotalOn P.length (fun i j => plt (P.getD i (0, 0)).1 (P.getD i (0, 0)).2 (P.getD j (0, 0)).1 (P.getD j (0, 0)).2) := by
  refine ⟨fun i _ => plt_irrefl _ _, fun i j k _ _ _ h1 h2 => plt_trans h1 h2, fun i j hi hj hn h1 => ?_⟩
  have ne : (P.getD i (0, 0)).2 ≠ (P.getD j (0, 0)).2 := by
    have e1 : P.getD i (0, 0) = P[i] := by simp [List.getD_eq_getElem?_getD, hi]
    have e2 : P.getD j (0, 0) = P[j] := by simp [List.getD_eq_getElem?_getD, hj]
    rw [e1, e2]
    rcases Nat.lt_or_gt_of_ne hn with q | q
    · have := List.pairwise_iff_getElem.mp h i j hi hj q; omega
    · have := List.pairwise_iff_getElem.mp h j i hj hi q; omega
  unfold plt at *
  simp only [decide_eq_true_eq, decide_eq_false_iff_not] at *
  omega

section
variable {prog : Program} {w : World} {A : Around} {E : Value → Shared → Prop} {s : Shared} {h₀ : Heap} {L sn : Addr} {m : Str → Option Value} {led : List (Addr × Obj)} {Us : List Addr} {P : List (Int × Int)}

theorem two_ints {vs : Array Value} {x y : Int} (h : IntsAre vs.toList [x, y]) : ∃ tx ty, vs = #[.int x tx, .int y ty] := by
  obtain ⟨l⟩ := vs
  cases h with
  | cons _ tx r =>
    cases r with
    | cons _ ty r =>
      cases r
      exact ⟨tx, ty, rfl⟩

theorem N_tupLt {a b : Addr} {oa ob : Obj} {x y : Int × Int} {Q : Bool → Shared → Prop} {bb : Bool} (ha : s.heap.get? a = some oa) (hb : s.heap.get? b = some ob) (pa : TupInts [x.1, x.2] oa) (pb : TupInts [y.1, y.2] ob) (h : Q (plt x.1 x.2 y.1 y.2) s) :
    wpAny (model prog w) A (keyLt' (tuples' true) (.ref a) (.ref b)) Q E s := by
  obtain ⟨va, n, rfl, ia⟩ := pa
  obtain ⟨vb, n', rfl, ib⟩ := pb
  obtain ⟨t1, t2, rfl⟩ := two_ints ia
  obtain ⟨u1, u2, rfl⟩ := two_ints ib
  refine kat_lt ha rfl hb rfl ?_
  refine kat_cons (wpAny_eqBool_int ?_)
  by_cases e : x.1 = y.1
  · rw [show (x.1 == y.1) = true by simp [e]]
    refine kat_yes (kat_cons (wpAny_eqBool_int ?_))
    by_cases e2 : x.2 = y.2
    · rw [show (x.2 == y.2) = true by simp [e2]]
      refine kat_yes (kat_nil ?_)
      have : plt x.1 x.2 y.1 y.2 = false := by rw [e, e2]; exact plt_irrefl _ _
      rw [this] at h
      simpa using h
    · rw [show (x.2 == y.2) = false by simp [e2]]
      refine kat_no ?_
      refine kat_one _ _ (lt_int ?_)
      have : plt x.1 x.2 y.1 y.2 = decide (x.2 < y.2) := by unfold plt; simp [e]
      rw [this] at h
      exact h
  · rw [show (x.1 == y.1) = false by simp [e]]
    refine kat_no ?_
    refine oneLt_int ?_
    have : plt x.1 x.2 y.1 y.2 = decide (x.1 < y.1) := by unfold plt; simp [e]
    rw [this] at h
    exact h

theorem seen_tups {h : Heap} : ∀ {Us : List Addr} {P : List (Int × Int)}, Us.length = P.length → (∀ (i : Nat) (U : Addr) (q : Int × Int), Us[i]? = some U → P[i]? = some q → ∃ o, h.get? U = some o ∧ TupInts [q.1, q.2] o) →
    ∃ fs, KatTups h (Us.map Value.ref) fs ∧ fs.length = P.length ∧ ∀ v ∈ fs, ∃ z t, v = Value.int z t
  | [], [], _, _ => ⟨[], .nil, rfl, fun _ h => nomatch h⟩
  | [], _ :: _, hl, _ => by simp at hl
  | _ :: _, [], hl, _ => by simp at hl
  | U :: Us, q :: P, hl, H => by
    obtain ⟨fs, h1, h2, h3⟩ := seen_tups (Us := Us) (P := P) (by simpa using hl) fun i U q hU hq => H (i + 1) U q hU hq
    obtain ⟨o, ho, vs, n, rfl, hi⟩ := H 0 U q rfl rfl
    obtain ⟨t1, t2, rfl⟩ := two_ints hi
    refine ⟨.int q.1 t1 :: fs, .cons ho rfl rfl rfl h1, by simp [h2], fun v hv => ?_⟩
    rcases List.mem_cons.mp hv with rfl | hv
    · exact ⟨_, _, rfl⟩
    · exact h3 v hv

/-- sorted(seen) -/
theorem N_sorted_seen {Q : Value → Shared → Prop} (F : Fr h₀ L s.heap m) (N : News h₀ L s.heap led) (S : SeenAt led sn Us P) (h1 : 1 ≤ P.length) (h64 : P.length < 64) (hs : P.Pairwise fun y z => y.2 < z.2)
    (h : ∀ D c h' Us' P', Fr h₀ L h' m → News h₀ L h' ((D, listOf (Us'.map Value.ref).toArray c) :: led) → (∀ q ∈ led, q.1 < D) → SeenAt ((D, listOf (Us'.map Value.ref).toArray c) :: led) D Us' P' → (∀ U ∈ Us', U ∈ Us) → P'.Perm P → (P'.Pairwise fun y z => plt y.1 y.2 z.1 z.2 = true) → Q (.ref D) { s with heap := h' }) :
    wpAny (model prog w) A (call (.builtin "sorted") [.ref sn]) Q E s := by
  obtain ⟨n, hm⟩ := S.main
  have hlen : (Us.map Value.ref).length = P.length := by rw [List.length_map, S.len]
  rcases Nat.lt_or_ge P.length 2 with h2 | h2
  · obtain ⟨v, hv⟩ : ∃ v, Us.map Value.ref = [v] := by
      match hq : Us.map Value.ref, hlen with
      | [], hl => simp at hl; omega
      | [v], _ => exact ⟨v, rfl⟩
      | _ :: _ :: _, hl => simp at hl; omega
    rw [hv] at hm
    refine N_sorted1 F N hm fun D c h' F' N' hD => ?_
    rw [← hv] at N'
    refine h D c h' Us P F' N' hD ⟨⟨c, List.mem_cons_self ..⟩, S.len, fun i U q hU hq => ?_⟩ (fun _ h => h) (List.Perm.refl _) ?_
    · obtain ⟨o, ho, ht⟩ := S.each i U q hU hq
      exact ⟨o, List.mem_cons_of_mem _ ho, ht⟩
    · match P, h2, h1 with
      | [q], _, _ => exact List.pairwise_singleton _ _
      | _ :: _ :: _, h2, _ => exact absurd h2 (by simp only [List.length_cons]; omega)
  · have each : ∀ i, i < P.length → ∃ U o, Us[i]? = some U ∧ (Us.map Value.ref).getD i Value.none = .ref U ∧ P[i]? = some (P.getD i (0, 0)) ∧ (U, o) ∈ led ∧ TupInts [(P.getD i (0, 0)).1, (P.getD i (0, 0)).2] o := by
      intro i hi
      have hi' : i < Us.length := by rw [S.len]; exact hi
      have hp : P[i]? = some (P.getD i (0, 0)) := by simp [List.getD_eq_getElem?_getD, hi]
      obtain ⟨o, ho, ht⟩ := S.each i Us[i] _ (by simp [hi']) hp
      exact ⟨Us[i], o, by simp [hi'], by simp [List.getD_eq_getElem?_getD, hi'], hp, ho, ht⟩
    refine N_sorted (tuples' true) (fun i j => plt (P.getD i (0, 0)).1 (P.getD i (0, 0)).2 (P.getD j (0, 0)).1 (P.getD j (0, 0)).2) F N hm (by omega) (by omega) (by rw [hlen]; exact total_pts hs) (fun s' Q' N' hq => ?_) (fun s' N' i j hi hj C hC => ?_) (fun D p c h' hp ha F' N' hD => ?_)
    · obtain ⟨fs, k1, k2, k3⟩ := seen_tups (h := s'.heap) S.len fun i U q hU hq => by
        obtain ⟨o, ho, ht⟩ := S.each i U q hU hq
        exact ⟨o, (N' _ ho).1, ht⟩
      refine kat_kind (T := .type "int") k1 (by omega) (fun v hv => ?_) rfl hq
      obtain ⟨z, t, rfl⟩ := k3 v hv
      exact .now
    · rw [hlen] at hi hj
      obtain ⟨U, o, g1, g2, g3, g4, g5⟩ := each i hi
      obtain ⟨U', o', g1', g2', g3', g4', g5'⟩ := each j hj
      rw [g2, g2']
      exact N_tupLt (bb := true) (N' _ g4).1 (N' _ g4').1 g5 g5' hC
    · rw [hlen] at hp ha
      have hsz := hp.size
      have pr := permN_range hp
      have e : (p.toList.map fun i => (Us.map Value.ref).getD i Value.none) = (p.toList.map fun i => Us.getD i 0).map Value.ref := by
        rw [List.map_map]
        apply List.map_congr_left
        intro i hi
        have := List.mem_range.mp (pr.mem_iff.mp hi)
        have hi' : i < Us.length := by rw [S.len]; exact this
        simp [List.getD_eq_getElem?_getD, hi']
      rw [e] at N'
      refine h D c h' _ (p.toList.map fun i => P.getD i (0, 0)) F' N' hD ⟨⟨c, List.mem_cons_self ..⟩, by simp, fun i U q hU hq => ?_⟩ (fun U hU => ?_) ?_ ?_
      · rw [List.getElem?_map] at hU hq
        cases hpi : p.toList[i]? with
        | none => rw [hpi] at hU; cases hU
        | some j =>
          rw [hpi] at hU hq
          cases hU; cases hq
          have hj := List.mem_range.mp (pr.mem_iff.mp (List.mem_of_getElem? hpi))
          obtain ⟨U, o, g1, g2, g3, g4, g5⟩ := each j hj
          have : Us.getD j 0 = U := by rw [List.getD_eq_getElem?_getD, g1]; rfl
          show ∃ o, (Us.getD j 0, o) ∈ _ ∧ _
          rw [this]
          exact ⟨o, List.mem_cons_of_mem _ g4, g5⟩
      · obtain ⟨i, hi, rfl⟩ := List.mem_map.mp hU
        obtain ⟨U, o, g1, _⟩ := each i (List.mem_range.mp (pr.mem_iff.mp hi))
        rw [List.getD_eq_getElem?_getD, g1]
        exact List.mem_of_getElem? g1
      · have := pr.map fun i => P.getD i (0, 0)
        rwa [map_range_getD] at this
      · rw [List.pairwise_map, List.pairwise_iff_getElem]
        intro i j hi hj hij
        have e1 : ∀ i (hi : i < p.toList.length), p.toList[i] = pk p i := fun i hi => by
          have hi' : i < p.size := by simpa using hi
          unfold pk
          rw [Array.getD_eq_getD_getElem?, Array.getElem?_eq_getElem hi']
          simp
        rw [e1 i hi, e1 j hj]
        exact ha i j hij (by simp [hsz] at hj; exact hj)
end
end Mine
end

section
open PySem PySem.W PyProof.Rows
set_option maxRecDepth 100000
set_option maxHeartbeats 8000000
namespace Mine

/-- a cut: what stands between two statements -/
def Mid (h₀ : Heap) (L : Addr) (K : (Str → Option Value) → List (Addr × Obj) → Prop) (s : Shared) (f : Flow) (s' : Shared) : Prop :=
  f = .next ∧ ∃ h' tk m' led', s' = { s with heap := h', toks := tk } ∧ Fr h₀ L h' m' ∧ News h₀ L h' led' ∧ K m' led'
theorem mid_intro {h₀ : Heap} {L : Addr} {K : (Str → Option Value) → List (Addr × Obj) → Prop} {s : Shared} {h' : Heap} {tk : Nat} {m' : Str → Option Value} {led' led'' : List (Addr × Obj)}
    (F : Fr h₀ L h' m') (N : News h₀ L h' led'') (k : K m' led') (hs : ∀ p ∈ led', p ∈ led'') : Mid h₀ L K s .next { s with heap := h', toks := tk } := ⟨rfl, h', tk, m', led', rfl, F, fun p hp => N p (hs p hp), k⟩

theorem execs_cut {M : Model} {A : Around} {E : Value → Shared → Prop} {s : Shared} {env : Env} {st : Stmt} {rest : List Stmt} {Q : Flow → Shared → Prop} {h₀ : Heap} {L : Addr} {m : Str → Option Value} (F : Fr h₀ L s.heap m) (K : (Str → Option Value) → List (Addr × Obj) → Prop)
    (h1 : wpAny M A (exec st env) (Mid h₀ L K s) (fun _ _ => False) s)
    (h2 : ∀ h' tk m' led', Fr h₀ L h' m' → News h₀ L h' led' → K m' led' → wpAny M A (execs rest env) Q E { s with heap := h', toks := tk }) : wpAny M A (execs (st :: rest) env) Q E s := by
  rw [execs_cons]
  refine wpAny_bind (wpAny_mono h1 (fun f s' hf => ?_) fun _ _ e => e.elim)
  obtain ⟨rfl, h', tk, m', led', rfl, F, N, k⟩ := hf
  exact h2 h' tk m' led' F N k
theorem exec_cut {M : Model} {A : Around} {E : Value → Shared → Prop} {s : Shared} {env : Env} {st : Stmt} {Q : Flow → Shared → Prop} {h₀ : Heap} {L : Addr} {m : Str → Option Value} (F : Fr h₀ L s.heap m) (K : (Str → Option Value) → List (Addr × Obj) → Prop)
    (h1 : wpAny M A (exec st env) (Mid h₀ L K s) (fun _ _ => False) s)
    (h2 : ∀ h' tk m' led', Fr h₀ L h' m' → News h₀ L h' led' → K m' led' → Q .next { s with heap := h', toks := tk }) : wpAny M A (exec st env) Q E s := by
  refine wpAny_mono h1 (fun f s' hf => ?_) fun _ _ e => e.elim
  obtain ⟨rfl, h', tk, m', led', rfl, F, N, k⟩ := hf
  exact h2 h' tk m' led' F N k

theorem list_name {h : Heap} {a : Addr} {vs : Array Value} (H : h.IsList a vs) : ∃ a', a' = a := ⟨a, rfl⟩
theorem heap_name {h h₀ : Heap} {a : Addr} {m : Str → Option Value} (H : Fr h₀ a h m) : ∃ a', a' = h₀ := ⟨_, rfl⟩

/-- what is known of the stream and its parameters -/
def Pre (m : Str → Option Value) (led : List (Addr × Obj)) : Prop :=
  ∃ (ns : List Int) (vs : List Value) (l : Addr) (e : Nat), m (Str.ofString "stream") = some (.ref l) ∧ led = [(l, listOf vs.toArray e)] ∧ IntsAre vs ns ∧ 7 ≤ ns.length ∧ ns.length ≤ 37 ∧
    (∃ i t, m (Str.ofString "inverse") = some (.int i t) ∧ 2 ≤ i) ∧ (∃ i t, m (Str.ofString "every") = some (.int i t) ∧ 1 ≤ i) ∧ ∃ i t, m (Str.ofString "mode") = some (.int i t)
theorem pre_pack {h₀ h : Heap} {L : Addr} {m : Str → Option Value} {led led1 : List (Addr × Obj)} {K : (Str → Option Value) → List (Addr × Obj) → Prop} (F : Fr h₀ L h m) (N : News h₀ L h led1) (P : K m led) (hs : ∀ p ∈ led, p ∈ led1) :
    ∃ m' led', Fr h₀ L h m' ∧ News h₀ L h led' ∧ K m' led' := ⟨m, led, F, fun p hp => N p (hs p hp), P⟩
theorem one_sub {p : Addr × Obj} {led : List (Addr × Obj)} (h : p ∈ led) : ∀ q ∈ [p], q ∈ led := fun q hq => by rw [List.mem_singleton.mp hq]; exact h

def OnlyEnd (h₀ : Heap) (L : Addr) (J : (Str → Option Value) → List (Addr × Obj) → Prop) (own : List (Addr × Obj)) (s₁ : Shared) (f : Flow) (s₂ : Shared) : Prop := f = .next ∧ ForEnd h₀ L (fun _ => False) J own s₁ s₂
theorem only_next {h₀ : Heap} {L : Addr} {J : (Str → Option Value) → List (Addr × Obj) → Prop} {own news' nx : List (Addr × Obj)} {s₁ : Shared} {h' : Heap} {tk : Nat} {m' : Str → Option Value}
    (F : Fr h₀ L h' m') (N : News h₀ L h' news') (hn : ∀ p ∈ nx, p ∈ news') (ho : ∀ p ∈ own, p ∈ news') (hk : ∀ q ∈ own, ∀ p ∈ nx, p.1 ≠ q.1) (hj : J m' nx) : OnlyEnd h₀ L J own s₁ .next { s₁ with heap := h', toks := tk } :=
  ⟨rfl, for_end F N hn ho (fun q hq => .inr (hk q hq)) hj⟩

theorem N_rangeC {prog : Program} {w : World} {A : Around} {E : Value → Shared → Prop} {s : Shared} {env : Env} {h₀ : Heap} {x : Str} {body : List Stmt} {Q : Flow → Shared → Prop}
    {r : Addr} {a₀ b₀ : Int} {t₀ u₀ v₀ : Tok} {n : Nat} {m₀ : Str → Option Value} {nx₀ : List (Addr × Obj)} (J : Nat → (Str → Option Value) → List (Addr × Obj) → Prop)
    (hh : A.handled = none) (hr : IsRange s.heap r a₀ b₀ 1 t₀ u₀ v₀) (hsmall : Builtin.Range.small a₀ b₀ 1 = true) (hn : Builtin.Range.rangeSize a₀ b₀ 1 = (n : Int)) (F : Fr h₀ env.locals s.heap m₀) (N : News h₀ env.locals s.heap nx₀) (hj : J 0 m₀ nx₀)
    (turn : ∀ i t m₁ nx h tk own, i < n → (∀ q ∈ own, False ∨ ∀ p ∈ nx, p.1 ≠ q.1) → J i m₁ nx → Fr h₀ env.locals h (fun y => if y = x then some (.int (a₀ + (i : Nat)) t) else m₁ y) → News h₀ env.locals h (nx ++ own) →
      wpAny (model prog w) A (execs body env) (OnlyEnd h₀ env.locals (J (i + 1)) own { s with heap := h, toks := tk }) (fun _ _ => False) { s with heap := h, toks := tk })
    (done : ∀ m₁ nx h tk, J n m₁ nx → Fr h₀ env.locals h m₁ → News h₀ env.locals h nx → Q .next { s with heap := h, toks := tk }) :
    wpAny (model prog w) A (pyIter (.ref r)) (fun it s₂ => LoopAtV prog w A h₀ env x body Q E it s₂) E s :=
  N_range J hh hr hsmall hn F N hj (fun i t m₁ nx h tk own h1 h2 h3 h4 h5 => wpAny_mono (turn i t m₁ nx h tk own h1 h2 h3 h4 h5) (fun f s' hf => by obtain ⟨rfl, hf⟩ := hf; exact hf) fun _ _ e => e.elim) done
end Mine
end

section
open PySem PySem.W PyProof.Rows PySem.Calls
set_option maxRecDepth 100000
set_option maxHeartbeats 2000000
namespace Mine

theorem SumAt.other {led led' : List (Addr × Obj)} {l : Addr} {as : List Addr} {xs : List It} (S : SumAt led l as xs) (h : ∀ q ∈ led, (q.1 = l ∨ q.1 ∈ as) → q ∈ led') : SumAt led' l as xs :=
  ⟨let ⟨e, he⟩ := S.main; ⟨e, h _ he (.inl rfl)⟩, S.len, S.nodup, S.out, fun i a x h1 h2 => let ⟨o, ho, hi⟩ := S.each i a x h1 h2; ⟨o, h _ ho (.inr (List.mem_of_getElem? h1)), hi⟩⟩
theorem SeenAt.other {led led' : List (Addr × Obj)} {sn : Addr} {Us : List Addr} {P : List (Int × Int)} (S : SeenAt led sn Us P) (h : ∀ q ∈ led, (q.1 = sn ∨ q.1 ∈ Us) → q ∈ led') : SeenAt led' sn Us P :=
  ⟨let ⟨e, he⟩ := S.main; ⟨e, h _ he (.inl rfl)⟩, S.len, fun i U q h1 h2 => let ⟨o, ho, hi⟩ := S.each i U q h1 h2; ⟨o, h _ ho (.inr (List.mem_of_getElem? h1)), hi⟩⟩
theorem SeenAt.addr_mem {led : List (Addr × Obj)} {sn : Addr} {Us : List Addr} {P : List (Int × Int)} (S : SeenAt led sn Us P) {a : Addr} (h : a ∈ Us) : ∃ o, (a, o) ∈ led := by
  obtain ⟨i, hi⟩ := List.mem_iff_getElem?.mp h
  have h1 : i < Us.length := (List.getElem?_eq_some_iff.mp hi).1
  obtain ⟨o, ho, _⟩ := S.each i a (P[i]'(by rw [← S.len]; exact h1)) hi (by simp)
  exact ⟨o, ho⟩

/-- what lies on the heap between two statements of the loop -/
structure LawSt (led own : List (Addr × Obj)) (l : Addr) (vs : List Value) (e : Nat) (it : Addr) (as : List Addr) (xs : List It) (sn : Addr) (Us : List Addr) (P : List (Int × Int)) : Prop where
  str : (l, listOf vs.toArray e) ∈ led
  sum : SumAt led it as xs
  seen : SeenAt led sn Us P
  ownd : ∀ q ∈ own, q ∈ led
  lit : l ≠ it
  snit : sn ≠ it
  lsn : l ≠ sn
  las : l ∉ as
  snas : sn ∉ as
  us : ∀ U ∈ Us, U ≠ it ∧ U ∉ as ∧ U ≠ sn
  off : ∀ q ∈ own, q.1 ≠ l ∧ q.1 ≠ it ∧ q.1 ≠ sn ∧ q.1 ∉ as ∧ q.1 ∉ Us

section
variable {led led' own : List (Addr × Obj)} {l : Addr} {vs : List Value} {e : Nat} {it : Addr} {as : List Addr} {xs : List It} {sn : Addr} {Us : List Addr} {P : List (Int × Int)}

theorem LawSt.grow (H : LawSt led own l vs e it as xs sn Us P) (h : ∀ q ∈ led, q ∈ led') : LawSt led' own l vs e it as xs sn Us P :=
  ⟨h _ H.str, H.sum.other fun q hq _ => h q hq, H.seen.other fun q hq _ => h q hq, fun q hq => h _ (H.ownd q hq), H.lit, H.snit, H.lsn, H.las, H.snas, H.us, H.off⟩

theorem LawSt.start {own : List (Addr × Obj)} (H : LawSt led [] l vs e it as xs sn Us P) (h : ∀ q ∈ own, False ∨ ∀ p ∈ led, p.1 ≠ q.1) : LawSt (led ++ own) own l vs e it as xs sn Us P := by
  have g : ∀ q ∈ led, q ∈ led ++ own := fun q hq => List.mem_append_left _ hq
  have h' : ∀ q ∈ own, ∀ p ∈ led, p.1 ≠ q.1 := fun q hq => (h q hq).elim (fun f => f.elim) id
  refine ⟨g _ H.str, H.sum.other fun q hq _ => g q hq, H.seen.other fun q hq _ => g q hq, fun q hq => List.mem_append_right _ hq, H.lit, H.snit, H.lsn, H.las, H.snas, H.us, fun q hq => ⟨(h' q hq _ H.str).symm, ?_, ?_, fun ha => ?_, fun ha => ?_⟩⟩
  · obtain ⟨n, hn⟩ := H.sum.main; exact (h' q hq _ hn).symm
  · obtain ⟨n, hn⟩ := H.seen.main; exact (h' q hq _ hn).symm
  · obtain ⟨o, ho⟩ := H.sum.addr_mem ha; exact h' q hq _ ho rfl
  · obtain ⟨o, ho⟩ := H.seen.addr_mem ha; exact h' q hq _ ho rfl

theorem mem_put {as : List Addr} {p : Nat} {b a : Addr} (h : a ∈ as.take p ++ b :: as.drop p) : a = b ∨ a ∈ as := by
  rcases List.mem_append.mp h with h | h
  · exact .inr (List.mem_of_mem_take h)
  · rcases List.mem_cons.mp h with h | h
    · exact .inl h
    · exact .inr (List.mem_of_mem_drop h)

theorem LawSt.put {b : Addr} {p : Nat} {xs' : List It} (H : LawSt led own l vs e it as xs sn Us P) (hb : ∀ q ∈ led, q.1 < b) (S : SumAt led' it (as.take p ++ b :: as.drop p) xs') (h : ∀ q ∈ led, q.1 ≠ it → q ∈ led') : LawSt led' own l vs e it (as.take p ++ b :: as.drop p) xs' sn Us P := by
  have nb : ∀ {a o}, (a, o) ∈ led → a ≠ b := fun ho => Nat.ne_of_lt (hb _ ho)
  have key : ∀ {a o}, (a, o) ∈ led → a ∉ as → a ∉ as.take p ++ b :: as.drop p := fun ho ha hm => (mem_put hm).elim (nb ho) ha
  obtain ⟨n, hn⟩ := H.seen.main
  refine ⟨h _ H.str H.lit, S, H.seen.other fun q hq hu => h q hq ?_, fun q hq => h _ (H.ownd q hq) (H.off q hq).2.1, H.lit, H.snit, H.lsn, key H.str H.las, key hn H.snas, fun U hU => ?_, fun q hq => ?_⟩
  · rcases hu with hu | hu
    · rw [hu]; exact H.snit
    · exact (H.us _ hu).1
  · obtain ⟨o, ho⟩ := H.seen.addr_mem hU
    obtain ⟨h1, h2, h3⟩ := H.us U hU
    exact ⟨h1, key ho h2, h3⟩
  · obtain ⟨h1, h2, h3, h4, h5⟩ := H.off q hq
    exact ⟨h1, h2, h3, key (H.ownd q hq) h4, h5⟩

theorem LawSt.sqz {as' : List Addr} {xs' : List It} (H : LawSt led own l vs e it as xs sn Us P) (hs : ∀ a ∈ as', a ∈ as) (S : SumAt led' it as' xs') (h : ∀ q ∈ led, q.1 ≠ it → q.1 ∉ as → q ∈ led') : LawSt led' own l vs e it as' xs' sn Us P := by
  refine ⟨h _ H.str H.lit H.las, S, H.seen.other fun q hq hu => ?_, fun q hq => h _ (H.ownd q hq) (H.off q hq).2.1 (H.off q hq).2.2.2.1, H.lit, H.snit, H.lsn, fun z => H.las (hs _ z), fun z => H.snas (hs _ z), fun U hU => ?_, fun q hq => ?_⟩
  · rcases hu with hu | hu
    · exact h q hq (by rw [hu]; exact H.snit) (by rw [hu]; exact H.snas)
    · exact h q hq (H.us _ hu).1 (H.us _ hu).2.1
  · obtain ⟨h1, h2, h3⟩ := H.us U hU
    exact ⟨h1, fun z => h2 (hs _ z), h3⟩
  · obtain ⟨h1, h2, h3, h4, h5⟩ := H.off q hq
    exact ⟨h1, h2, h3, fun z => h4 (hs _ z), h5⟩

theorem LawSt.app {D : Addr} {o : Obj} {n : Nat} {q₀ : Int × Int} (H : LawSt led own l vs e it as xs sn Us P) (hD : ∀ q ∈ led, q.1 < D) (ht : TupInts [q₀.1, q₀.2] o) :
    LawSt (lset ((D, o) :: led) sn (listOf (Us.map Value.ref ++ [Value.ref D]).toArray n)) own l vs e it as xs sn (Us ++ [D]) (P ++ [q₀]) := by
  have nD : ∀ {a o}, (a, o) ∈ led → a ≠ D := fun ho => Nat.ne_of_lt (hD _ ho)
  have g : ∀ q ∈ led, q.1 ≠ sn → q ∈ lset ((D, o) :: led) sn (listOf (Us.map Value.ref ++ [Value.ref D]).toArray n) := fun q hq hn => lset_other (List.mem_cons_of_mem _ hq) hn
  obtain ⟨n', hn'⟩ := H.seen.main
  obtain ⟨n2, hn2⟩ := H.sum.main
  refine ⟨g _ H.str H.lsn, H.sum.other fun q hq hu => g q hq ?_, ⟨⟨n, ?_⟩, by simp [H.seen.len], fun i U q hU hq => ?_⟩, fun q hq => g _ (H.ownd q hq) (H.off q hq).2.2.1, H.lit, H.snit, H.lsn, H.las, H.snas, fun U hU => ?_, fun q hq => ?_⟩
  · rcases hu with hu | hu
    · rw [hu]; exact H.snit.symm
    · intro z; rw [z] at hu; exact H.snas hu
  · rw [show Us.map Value.ref ++ [Value.ref D] = (Us ++ [D]).map Value.ref by simp]; exact lset_self
  · rcases Nat.lt_or_ge i Us.length with hi | hi
    · rw [List.getElem?_append_left hi] at hU
      rw [List.getElem?_append_left (by rw [← H.seen.len]; exact hi)] at hq
      obtain ⟨o', ho', ht'⟩ := H.seen.each i U q hU hq
      exact ⟨o', g _ ho' (H.us _ (List.mem_of_getElem? hU)).2.2, ht'⟩
    · rw [List.getElem?_append_right hi] at hU
      rw [List.getElem?_append_right (by rw [← H.seen.len]; exact hi), ← H.seen.len] at hq
      have : i - Us.length = 0 := by
        rcases Nat.eq_zero_or_pos (i - Us.length) with z | z
        · exact z
        · rw [List.getElem?_eq_none (by simp; omega)] at hU; cases hU
      rw [this] at hU hq
      cases hU; cases hq
      exact ⟨o, lset_other (List.mem_cons_self ..) (nD hn').symm, ht⟩
  · rcases List.mem_append.mp hU with hU | hU
    · exact H.us U hU
    · rw [List.mem_singleton.mp hU]
      refine ⟨(nD hn2).symm, fun z => ?_, (nD hn').symm⟩
      obtain ⟨o', ho'⟩ := H.sum.addr_mem z
      exact nD ho' rfl
  · obtain ⟨h1, h2, h3, h4, h5⟩ := H.off q hq
    refine ⟨h1, h2, h3, h4, fun z => ?_⟩
    rcases List.mem_append.mp z with z | z
    · exact h5 z
    · exact nD (H.ownd q hq) (List.mem_singleton.mp z)

/-- the ledger without what the loop itself owns -/
def offOwn (own led : List (Addr × Obj)) : List (Addr × Obj) := led.filter fun p => own.all fun q => p.1 != q.1
theorem mem_off {p : Addr × Obj} : p ∈ offOwn own led ↔ p ∈ led ∧ ∀ q ∈ own, p.1 ≠ q.1 := by
  unfold offOwn
  rw [List.mem_filter]
  simp [List.all_eq_true]

theorem LawSt.fin (H : LawSt led own l vs e it as xs sn Us P) : LawSt (offOwn own led) [] l vs e it as xs sn Us P := by
  refine ⟨mem_off.mpr ⟨H.str, fun q hq => (H.off q hq).1.symm⟩, H.sum.other fun q hq hu => mem_off.mpr ⟨hq, fun r hr z => ?_⟩, H.seen.other fun q hq hu => mem_off.mpr ⟨hq, fun r hr z => ?_⟩, (fun q hq => nomatch hq), H.lit, H.snit, H.lsn, H.las, H.snas, H.us, (fun q hq => nomatch hq)⟩
  · obtain ⟨h1, h2, h3, h4, h5⟩ := H.off r hr
    rw [z] at hu
    exact hu.elim h2 h4
  · obtain ⟨h1, h2, h3, h4, h5⟩ := H.off r hr
    rw [z] at hu
    exact hu.elim h3 h5
end

/-! the dict of ranks while it grows -/
structure Dct (w : World) (B : List (Addr × Obj)) (Us : List Addr) (ob : Obj) (es : List (List Int × Addr × Value)) : Prop where
  main : ∃ ents ep, ob.ExactDict ∧ ob.data = .dict ents ep ∧ ents.toList = es.map (entryOfKey (kT w))
  keys : ∀ x ∈ es, x.2.1 ∈ Us ∧ ∃ o, (x.2.1, o) ∈ B ∧ TupInts x.1 o
  nodup : (es.map (·.1)).Nodup

theorem Dct.to {w : World} {B led : List (Addr × Obj)} {Us : List Addr} {ob : Obj} {es : List (List Int × Addr × Value)} {rk : Addr} (H : Dct w B Us ob es) (h1 : (rk, ob) ∈ led) (h2 : ∀ q ∈ B, q.2.cls = .type "tuple" → q.1 ∈ Us → q ∈ led) : DictIn w led rk es :=
  ⟨let ⟨ents, ep, a, b, c⟩ := H.main; ⟨ob, ents, ep, h1, a, b, c⟩, fun x hx => let ⟨hu, o, ho, ht⟩ := H.keys x hx; ⟨o, h2 _ ho (by obtain ⟨_, _, rfl, _⟩ := ht; rfl) hu, ht⟩, H.nodup⟩

theorem Dct.of {w : World} {B led : List (Addr × Obj)} {Us : List Addr} {ob : Obj} {es : List (List Int × Addr × Value)} {rk : Addr} (H : DictIn w (lset led rk ob) rk es) (hk : ∀ x ∈ es, x.2.1 ∈ Us ∧ ∃ o, (x.2.1, o) ∈ B ∧ TupInts x.1 o) : Dct w B Us ob es := by
  obtain ⟨ob', ents, ep, h1, h2⟩ := H.main
  rcases mem_lset.mp h1 with q | ⟨_, q⟩
  · cases q; exact ⟨⟨ents, ep, h2⟩, hk, H.nodup⟩
  · exact absurd rfl q

/-- the ranks so far: of the first k points -/
def RankTo (D : List (Int × Int)) (k : Nat) (es : List (List Int × Addr × Value)) : Prop :=
  es.length = k ∧ ∀ (i : Nat) (q : Int × Int), i < k → D[i]? = some q → ∃ a t, es[i]? = some ([q.1, q.2], a, .int ((i : Int) + 1) t)

theorem RankTo.succ {D : List (Int × Int)} {k : Nat} {es : List (List Int × Addr × Value)} {q : Int × Int} {a : Addr} {t : Tok} (H : RankTo D k es) (hq : D[k]? = some q) : RankTo D (k + 1) (es ++ [([q.1, q.2], a, .int ((k : Int) + 1) t)]) := by
  obtain ⟨h1, h2⟩ := H
  refine ⟨by simp [h1], fun i r hi hr => ?_⟩
  rcases Nat.lt_or_ge i k with h | h
  · rw [List.getElem?_append_left (by omega)]
    exact h2 i r h hr
  · obtain rfl : i = k := by omega
    rw [hr] at hq; cases hq
    rw [List.getElem?_append_right (by omega), h1, Nat.sub_self]
    exact ⟨a, t, rfl⟩

theorem RankTo.new {D : List (Int × Int)} {k : Nat} {es : List (List Int × Addr × Value)} {q : Int × Int} (H : RankTo D k es) (hq : D[k]? = some q) (hs : D.Pairwise fun y z => plt y.1 y.2 z.1 z.2 = true) : ∀ x ∈ es, x.1 ≠ [q.1, q.2] := by
  intro x hx
  obtain ⟨i, hi⟩ := List.mem_iff_getElem?.mp hx
  have h1 : i < es.length := (List.getElem?_eq_some_iff.mp hi).1
  rw [H.1] at h1
  have hk : k < D.length := (List.getElem?_eq_some_iff.mp hq).1
  have hd : D[i]? = some D[i] := by simp
  obtain ⟨a, t, he⟩ := H.2 i _ h1 hd
  rw [he] at hi
  cases hi
  intro z
  have e1 : (D[i]).1 = q.1 := (List.cons.inj z).1
  have e2 : (D[i]).2 = q.2 := (List.cons.inj (List.cons.inj z).2).1
  have := List.pairwise_iff_getElem.mp hs i k (by omega) hk h1
  rw [e1, e2] at this
  obtain ⟨_, hq'⟩ := List.getElem?_eq_some_iff.mp hq
  rw [hq', plt_irrefl] at this
  cases this

theorem RankTo.at {w : World} {led : List (Addr × Obj)} {rk : Addr} {D : List (Int × Int)} {es : List (List Int × Addr × Value)} (H : RankTo D D.length es) (hd : DictIn w led rk es) : RankAt w led rk D :=
  ⟨es, hd, fun i q hq => H.2 i q (List.getElem?_eq_some_iff.mp hq).1 hq⟩

/-! the numbers -/
def bnd (inv : Int) (k : Nat) : Int := max 1 ((2 * (k : Int)).fdiv inv)
def rch (inv : Int) (k : Nat) : Int := (bnd inv k + 1).fdiv 2
theorem bnd_ge (inv : Int) (k : Nat) : 1 ≤ bnd inv k := by unfold bnd; omega
theorem bnd_mono {inv : Int} (h : 2 ≤ inv) (k : Nat) : bnd inv k ≤ bnd inv (k + 1) := by
  unfold bnd
  rw [Int.fdiv_eq_ediv_of_nonneg _ (by omega), Int.fdiv_eq_ediv_of_nonneg _ (by omega)]
  have := Int.ediv_le_ediv (c := inv) (by omega) (show 2 * (k : Int) ≤ 2 * ((k + 1 : Nat) : Int) by omega)
  omega
theorem rch_ok (inv : Int) (k : Nat) : 0 ≤ rch inv k ∧ bnd inv k ≤ 2 * rch inv k + 1 := by
  have := bnd_ge inv k
  unfold rch
  rw [Int.fdiv_eq_ediv_of_nonneg _ (by omega)]
  omega

/-- what holds after i turns -/
def JJ (w : World) (l : Addr) (vs : List Value) (e : Nat) (inv : Int) (ti : Tok) (ev : Int) (te : Tok) (it sn : Addr) (ns : List Int) (i : Nat) (m : Str → Option Value) (nx : List (Addr × Obj)) : Prop :=
  ∃ as xs Us, LawSt nx [] l vs e it as xs sn Us (pts ns i) ∧ GS ns (bnd inv i) i xs ∧ m (Str.ofString "stream") = some (.ref l) ∧ m (Str.ofString "inverse") = some (.int inv ti) ∧ m (Str.ofString "every") = some (.int ev te) ∧
    m (Str.ofString "items") = some (.ref it) ∧ m (Str.ofString "seen") = some (.ref sn) ∧
    (0 < i → ∃ rk D tr tc, m (Str.ofString "ranks") = some (.ref rk) ∧ m (Str.ofString "count") = some (.int (i : Nat) tc) ∧ m (Str.ofString "reach") = some (.int (rch inv i) tr) ∧ RankAt w nx rk D ∧ (D.Pairwise fun y z => plt y.1 y.2 z.1 z.2 = true) ∧ D.Perm (pts ns i))

theorem law_init {led : List (Addr × Obj)} {l : Addr} {vs : List Value} {e : Nat} {it sn : Addr} {n1 n2 : Nat} (h1 : (l, listOf vs.toArray e) ∈ led) (h2 : (it, listOf #[] n1) ∈ led) (h3 : (sn, listOf #[] n2) ∈ led) (a : l ≠ it) (b : sn ≠ it) (c : l ≠ sn) :
    LawSt led [] l vs e it [] [] sn [] [] :=
  ⟨h1, ⟨⟨n1, h2⟩, rfl, List.nodup_nil, (fun h => nomatch h), (fun i _ _ h => by simp at h)⟩, ⟨⟨n2, h3⟩, rfl, (fun i _ _ h => by simp at h)⟩, (fun _ h => nomatch h), a, b, c, (fun h => nomatch h), (fun h => nomatch h), (fun _ h => nomatch h), (fun _ h => nomatch h)⟩

theorem names4 {h₀ h : Heap} {L a b c : Addr} {o : Obj} {o1 o2 : Obj} {p : Addr × Obj} (N : News h₀ L h [(a, o), (b, o1), (c, o2), p]) : ∃ a' b' c' o', a' = a ∧ b' = b ∧ c' = c ∧ o' = o := ⟨a, b, c, o, rfl, rfl, rfl, rfl⟩
theorem range_small {n : Nat} (h : n ≤ 100) : Builtin.Range.small 0 (n : Nat) 1 = true := small_one (by omega) (by omega) (by omega) (by omega)
theorem range_size {n : Nat} : Builtin.Range.rangeSize 0 (n : Nat) 1 = (n : Int) := by rw [rangeSize_nat]; congr 1

theorem jj_init {w : World} {l : Addr} {vs : List Value} {e : Nat} {inv : Int} {ti : Tok} {ev : Int} {te : Tok} {it sn : Addr} {ns : List Int} {m : Str → Option Value} {nx : List (Addr × Obj)} (h : LawSt nx [] l vs e it [] [] sn [] [])
    (h1 : m (Str.ofString "stream") = some (.ref l)) (h2 : m (Str.ofString "inverse") = some (.int inv ti)) (h3 : m (Str.ofString "every") = some (.int ev te)) (h4 : m (Str.ofString "items") = some (.ref it)) (h5 : m (Str.ofString "seen") = some (.ref sn)) :
    JJ w l vs e inv ti ev te it sn ns 0 m nx := ⟨[], [], [], h, gs_nil, h1, h2, h3, h4, h5, fun z => absurd z (Nat.lt_irrefl 0)⟩

theorem news_lt {h₀ h : Heap} {L : Addr} {led : List (Addr × Obj)} (N : News h₀ L h led) : ∀ q ∈ led, q.1 < h.objs.size := fun q hq => Heap.lt_size (N q hq).1
theorem pts_step {ns : List Int} {i : Nat} {v : Int} (h : ns[i]? = some v) : pts ns i ++ [(v, (i : Int))] = pts ns (i + 1) := by
  rw [pts_succ, List.getD_eq_getElem?_getD, h]; rfl
theorem cap_le {inv : Int} {i : Nat} : (2 * ((i : Int) + 1)).fdiv inv ≤ bnd inv (i + 1) := by
  unfold bnd
  rw [show ((i + 1 : Nat) : Int) = (i : Int) + 1 from rfl]
  omega

/-- what is known behind the squeeze -/
def KK (own : List (Addr × Obj)) (l : Addr) (vs : List Value) (e : Nat) (inv : Int) (ti : Tok) (ev : Int) (te : Tok) (it sn : Addr) (Us : List Addr) (ns : List Int) (i : Nat) (m : Str → Option Value) (led : List (Addr × Obj)) : Prop :=
  ∃ as xs tc, LawSt led own l vs e it as xs sn Us (pts ns (i + 1)) ∧ GS ns (bnd inv (i + 1)) (i + 1) xs ∧ m (Str.ofString "stream") = some (.ref l) ∧ m (Str.ofString "inverse") = some (.int inv ti) ∧ m (Str.ofString "every") = some (.int ev te) ∧
    m (Str.ofString "items") = some (.ref it) ∧ m (Str.ofString "seen") = some (.ref sn) ∧ m (Str.ofString "count") = some (.int ((i : Int) + 1) tc)

theorem LawSt.appN {h₀ h : Heap} {L : Addr} {led own : List (Addr × Obj)} {l : Addr} {vs : List Value} {e : Nat} {it : Addr} {as : List Addr} {xs : List It} {sn : Addr} {Us : List Addr} {P P' : List (Int × Int)} {D : Addr} {o : Obj} {n : Nat} {q₀ : Int × Int}
    (H : LawSt led own l vs e it as xs sn Us P) (hD : ∀ q ∈ led, q.1 < D) (N : News h₀ L h (lset ((D, o) :: led) sn (listOf (Us.map Value.ref ++ [Value.ref D]).toArray n))) (hq : P ++ [q₀] = P') (ht : TupInts [q₀.1, q₀.2] o) :
    ∃ led2 Us2, News h₀ L h led2 ∧ LawSt led2 own l vs e it as xs sn Us2 P' := ⟨_, _, N, hq ▸ H.app hD ht⟩

theorem pts_sorted (ns : List Int) (k : Nat) : (pts ns k).Pairwise fun y z => y.2 < z.2 := by
  unfold pts
  rw [List.pairwise_map]
  exact List.pairwise_lt_range.imp fun h => by show ((_ : Nat) : Int) < ((_ : Nat) : Int); omega

theorem names2 {h₀ h : Heap} {L a b : Addr} {o o2 : Obj} {led : List (Addr × Obj)} (N : News h₀ L h ((a, o) :: (b, o2) :: led)) : ∃ a' o', a' = a ∧ o' = o := ⟨a, o, rfl, rfl⟩

theorem dct_nil {w : World} {B : List (Addr × Obj)} {Us : List Addr} {ob : Obj} (h : Obj.IsDictOf (intKind prg w) ob []) : Dct w B Us ob [] := by
  obtain ⟨es, ep, h1, h2, _, h3, _⟩ := h
  refine ⟨⟨es, ep, h1, h2, ?_⟩, (fun _ h => nomatch h), List.nodup_nil⟩
  cases hq : es.toList with
  | nil => rfl
  | cons a r => rw [hq] at h3; cases h3

/-- while the ranks are written -/
def RR (w : World) (B : List (Addr × Obj)) (l : Addr) (inv : Int) (ti : Tok) (ev : Int) (te : Tok) (it sn rk D : Addr) (Us : List Addr) (P : List (Int × Int)) (i : Nat) (tc : Tok) (k : Nat) (m : Str → Option Value) (nx : List (Addr × Obj)) : Prop :=
  ∃ es ob, nx = (rk, ob) :: B ∧ Dct w B Us ob es ∧ RankTo P k es ∧ m (Str.ofString "stream") = some (.ref l) ∧ m (Str.ofString "inverse") = some (.int inv ti) ∧ m (Str.ofString "every") = some (.int ev te) ∧
    m (Str.ofString "items") = some (.ref it) ∧ m (Str.ofString "seen") = some (.ref sn) ∧ m (Str.ofString "count") = some (.int ((i : Int) + 1) tc) ∧ m (Str.ofString "ordered") = some (.ref D) ∧ m (Str.ofString "ranks") = some (.ref rk)
theorem rr_init {w : World} {B : List (Addr × Obj)} {l : Addr} {inv : Int} {ti : Tok} {ev : Int} {te : Tok} {it sn rk D : Addr} {Us : List Addr} {P : List (Int × Int)} {i : Nat} {tc : Tok} {m : Str → Option Value} {ob : Obj}
    (h : Obj.IsDictOf (intKind prg w) ob []) (h1 : m (Str.ofString "stream") = some (.ref l)) (h2 : m (Str.ofString "inverse") = some (.int inv ti)) (h3 : m (Str.ofString "every") = some (.int ev te))
    (h4 : m (Str.ofString "items") = some (.ref it)) (h5 : m (Str.ofString "seen") = some (.ref sn)) (h6 : m (Str.ofString "count") = some (.int ((i : Int) + 1) tc)) (h7 : m (Str.ofString "ordered") = some (.ref D)) (h8 : m (Str.ofString "ranks") = some (.ref rk)) :
    RR w B l inv ti ev te it sn rk D Us P i tc 0 m ((rk, ob) :: B) :=
  ⟨[], ob, rfl, dct_nil h, ⟨rfl, fun _ _ h => absurd h (Nat.not_lt_zero _)⟩, h1, h2, h3, h4, h5, h6, h7, h8⟩

theorem SeenAt.at {led : List (Addr × Obj)} {sn : Addr} {Us : List Addr} {P : List (Int × Int)} (S : SeenAt led sn Us P) {k : Nat} (h : k < P.length) : ∃ U q o, Us[k]? = some U ∧ P[k]? = some q ∧ (Us.map Value.ref)[((k : Nat) : Int).toNat]? = some (.ref U) ∧ (U, o) ∈ led ∧ TupInts [q.1, q.2] o := by
  have h1 : k < Us.length := by rw [S.len]; exact h
  obtain ⟨o, ho, ht⟩ := S.each k Us[k] P[k] (by simp [h1]) (by simp [h])
  exact ⟨Us[k], P[k], o, by simp [h1], by simp [h], by rw [Int.toNat_natCast]; simp [h1], ho, ht⟩

/-- the next turn of the inner loop -/
theorem rr_next {w : World} {B led own : List (Addr × Obj)} {l : Addr} {inv : Int} {ti : Tok} {ev : Int} {te : Tok} {it sn rk D U : Addr} {Us : List Addr} {P : List (Int × Int)} {i k : Nat} {tc tv : Tok} {m : Str → Option Value} {h₀ h' : Heap} {L : Addr} {s : Shared} {tk : Nat}
    {es : List (List Int × Addr × Value)} {ob0 ob o : Obj} {q : Int × Int}
    (F : Fr h₀ L h' m) (N : News h₀ L h' (lset led rk ob)) (hled : led = (rk, ob0) :: B ++ own) (hrk : ∀ p ∈ B, p.1 < rk) (hown : ∀ q ∈ own, False ∨ ∀ p ∈ (rk, ob0) :: B, p.1 ≠ q.1)
    (hd : Dct w B Us ob0 es) (DI : DictIn w (lset led rk ob) rk (es ++ [([q.1, q.2], U, .int ((k : Int) + 1) tv)])) (hU : Us[k]? = some U) (ho : (U, o) ∈ B) (ht : TupInts [q.1, q.2] o) (hq : P[k]? = some q) (hr : RankTo P k es)
    (h1 : m (Str.ofString "stream") = some (.ref l)) (h2 : m (Str.ofString "inverse") = some (.int inv ti)) (h3 : m (Str.ofString "every") = some (.int ev te))
    (h4 : m (Str.ofString "items") = some (.ref it)) (h5 : m (Str.ofString "seen") = some (.ref sn)) (h6 : m (Str.ofString "count") = some (.int ((i : Int) + 1) tc)) (h7 : m (Str.ofString "ordered") = some (.ref D)) (h8 : m (Str.ofString "ranks") = some (.ref rk)) :
    OnlyEnd h₀ L (RR w B l inv ti ev te it sn rk D Us P i tc (k + 1)) own s .next { s with heap := h', toks := tk } := by
  subst hled
  refine only_next (nx := (rk, ob) :: B) F N (fun p hp => ?_) (fun p hp => ?_) (fun p hp r hr => ?_) ⟨_, ob, rfl, Dct.of DI (fun x hx => ?_), hr.succ hq, h1, h2, h3, h4, h5, h6, h7, h8⟩
  · rcases List.mem_cons.mp hp with rfl | hp
    · exact lset_self
    · exact lset_other (List.mem_append_left _ (List.mem_cons_of_mem _ hp)) (Nat.ne_of_lt (hrk p hp))
  · refine lset_other (List.mem_append_right _ hp) ?_
    exact ((hown p hp).elim (fun f => f.elim) id (rk, ob0) (List.mem_cons_self ..)).symm
  · have z := (hown p hp).elim (fun f => f.elim) id
    rcases List.mem_cons.mp hr with rfl | hr
    · exact z (rk, ob0) (List.mem_cons_self ..)
    · exact z _ (List.mem_cons_of_mem _ hr)
  · rcases List.mem_append.mp hx with hx | hx
    · exact hd.keys x hx
    · rw [List.mem_singleton.mp hx]
      exact ⟨List.mem_of_getElem? hU, o, ho, ht⟩

theorem bnd_if (inv : Int) (i : Nat) : (if (2 * ((i : Int) + 1)).fdiv inv > 1 then (2 * ((i : Int) + 1)).fdiv inv else 1) = bnd inv (i + 1) := by
  unfold bnd
  rw [show ((i + 1 : Nat) : Int) = (i : Int) + 1 from rfl]
  split <;> omega
theorem rch_if (inv : Int) (i : Nat) : (bnd inv (i + 1) + 1).fdiv 2 = rch inv (i + 1) := rfl

theorem jj_next {w : World} {B ledF own : List (Addr × Obj)} {l : Addr} {vs : List Value} {e : Nat} {inv : Int} {ti : Tok} {ev : Int} {te : Tok} {it sn rk : Addr} {as : List Addr} {xs : List It} {Us Us3 : List Addr} {P : List (Int × Int)} {ns : List Int} {i : Nat} {tc tr : Tok}
    {m : Str → Option Value} {h₀ h' : Heap} {L : Addr} {s : Shared} {tk : Nat} {es : List (List Int × Addr × Value)} {ob : Obj}
    (F : Fr h₀ L h' m) (N : News h₀ L h' ledF) (hsub : ∀ q ∈ (rk, ob) :: B, q ∈ ledF) (H : LawSt B own l vs e it as xs sn Us (pts ns (i + 1))) (G : GS ns (bnd inv (i + 1)) (i + 1) xs) (hU : ∀ U ∈ Us3, U ∈ Us) (hrk : ∀ q ∈ B, q.1 < rk)
    (hd : Dct w B Us3 ob es) (hr : RankTo P (i + 1) es) (hperm : P.Perm (pts ns (i + 1))) (hsrt : P.Pairwise fun y z => plt y.1 y.2 z.1 z.2 = true)
    (h1 : m (Str.ofString "stream") = some (.ref l)) (h2 : m (Str.ofString "inverse") = some (.int inv ti)) (h3 : m (Str.ofString "every") = some (.int ev te))
    (h4 : m (Str.ofString "items") = some (.ref it)) (h5 : m (Str.ofString "seen") = some (.ref sn)) (h6 : m (Str.ofString "ranks") = some (.ref rk)) (h7 : m (Str.ofString "count") = some (.int ((i : Int) + 1) tc)) (h8 : m (Str.ofString "reach") = some (.int (rch inv (i + 1)) tr)) :
    OnlyEnd h₀ L (JJ w l vs e inv ti ev te it sn ns (i + 1)) own s .next { s with heap := h', toks := tk } := by
  have H' := H.grow (led' := ledF) fun q hq => hsub q (List.mem_cons_of_mem _ hq)
  refine only_next (nx := offOwn own ledF) F N (fun p hp => (mem_off.mp hp).1) H'.ownd (fun q hq p hp => (mem_off.mp hp).2 q hq) ⟨as, xs, Us, H'.fin, G, h1, h2, h3, h4, h5, fun _ => ⟨rk, P, tr, tc, h6, h7, h8, ?_, hsrt, hperm⟩⟩
  refine RankTo.at (by rw [hperm.length_eq, pts_len]; exact hr) (hd.to (mem_off.mpr ⟨hsub _ (List.mem_cons_self ..), fun q hq z => ?_⟩) (fun q hq _ hu => mem_off.mpr ⟨hsub _ (List.mem_cons_of_mem _ hq), fun r hr z => ?_⟩))
  · have := hrk q (H.ownd q hq)
    rw [← z] at this
    exact Nat.lt_irrefl _ this
  · exact (H.off r hr).2.2.2.2 (z ▸ hU _ hu)
end Mine
end

section
open PySem PySem.W PyProof.Rows
set_option maxRecDepth 100000
set_option maxHeartbeats 8000000
set_option pp.deepTerms false
set_option pp.maxSteps 5000
namespace Mine
-- law_macros
local macro_rules | `(tactic| ktr_room) => `(tactic| ((simp only [depth_under_make, depth_under_kw, depth_in1, depth_deeper, depth_caller, recursionLimit]); omega))
local macro_rules | `(tactic| ktr_units) => `(tactic| ((have hcL9 := cLine_is); (simp only [units_in1, units_deeper, Around.mark_units, units_caller, cLine]); omega))
local macro_rules | `(tactic| k_mem) => `(tactic| first | assumption | exact List.Mem.tail _ (by assumption) | exact List.Mem.tail _ (List.Mem.tail _ (by assumption)) | exact List.Mem.tail _ (List.Mem.tail _ (List.Mem.tail _ (by assumption))) | exact lset_other (by assumption) (by assumption) | exact List.Mem.head _ | exact List.Mem.tail _ (List.Mem.head _))
local macro_rules | `(tactic| walk_at "subscriptTail") => `(tactic| (k_here; (with_reducible show wpAny _ _ (subscriptTail _ _ (Value.ref _) (Value.int _ _)) _ _ _); k_dflt (refine' N_item ?N ?m ?h0 ?h1 ?hx ?_ ?hs; (case N => k_asm); (case m => k_mem); (case hx => assumption); (case h0 => first | decide | omega); (case h1 => first | decide | omega); (case hs => with_unfolding_all rfl)); (try dsimp only)))
local macro_rules | `(tactic| walk_at "call ref") => `(tactic| (k_here; (with_reducible show wpAny _ _ (call (Value.ref 58) _ _) _ _ _); k_dflt (refine' says_use (holds_says _ _ _ _ _ _ _ _ _ _ _ ?S ?R ?H ?z) ?k1 ?k2 ?k3 ?k4 ?k5 ?k6 ?k7 ?k8 ?_; (case k2 => k_asm); (case k4 => k_asm); (case k1 => k_asm); (case k3 => k_asm); (case k5 => k_asm); (case k6 => exact rfl); (case k7 => ktr_room); (case k8 => ktr_units); (case S => assumption); (case R => assumption); (case H => assumption); (case z => assumption)); (rintro r' led' h' tk' F9 N9 ⟨eR, hsub'⟩); (subst eR); (have F' := F9); (have N' := N9); (clear F9 N9); (try dsimp only)))
local macro_rules | `(tactic| walk_at "call ref") => `(tactic| (k_here; (with_reducible show wpAny _ _ (call (Value.ref 65) _ _) _ _ _); k_dflt (refine' says_use (told_says _ _ _ _ _ _ _ _ _ _ _ ?S ?R ?H ?z) ?k1 ?k2 ?k3 ?k4 ?k5 ?k6 ?k7 ?k8 ?_; (case k2 => k_asm); (case k4 => k_asm); (case k1 => k_asm); (case k3 => k_asm); (case k5 => k_asm); (case k6 => exact rfl); (case k7 => ktr_room); (case k8 => ktr_units); (case S => first | assumption | exact SumAt.mono (by assumption) (by assumption)); (case R => first | assumption | exact RankAt.mono (by assumption) (by assumption)); (case H => assumption); (case z => assumption)); (rintro r' led' h' tk' F9 N9 ⟨eR, hsub'⟩); (subst eR); (have F' := F9); (have N' := N9); (clear F9 N9); (try dsimp only)))
local macro_rules | `(tactic| walk_at "call ref") => `(tactic| (k_here; (with_reducible show wpAny _ _ (call (Value.ref 53) _ _) _ _ _); k_dflt (refine' says_use (squeeze_says _ _ _ _ _ _ _ ?S ?z) ?k1 ?k2 ?k3 ?k4 ?k5 ?k6 ?k7 ?k8 ?_; (case k2 => k_asm); (case k4 => k_asm); (case k1 => k_asm); (case k3 => k_asm); (case k5 => k_asm); (case k6 => exact rfl); (case k7 => ktr_room); (case k8 => ktr_units); (case S => assumption); (case z => assumption)); (rintro r' led' h' tk' F9 N9 ⟨eR, as', hsub', hS', hkeep'⟩); (subst eR); (have F' := F9); (have N' := N9); (clear F9 N9); (try dsimp only)))
local macro_rules | `(tactic| walk_at "call ref") => `(tactic| (k_here; (with_reducible show wpAny _ _ (call (Value.ref 46) _ _) _ _ _); k_dflt (refine' says_use (put_says _ _ _ _ _ _ _ _ _ ?S ?z ?s) ?k1 ?k2 ?k3 ?k4 ?k5 ?k6 ?k7 ?k8 ?_; (case k2 => k_asm); (case k4 => k_asm); (case k1 => k_asm); (case k3 => k_asm); (case k5 => k_asm); (case k6 => exact rfl); (case k7 => ktr_room); (case k8 => ktr_units); (case S => assumption); (case z => assumption); (case s => assumption)); (rintro r' led' h' tk' F9 N9 ⟨eR, p', b', hP', hb', hS', hkeep'⟩); (subst eR); (have F' := F9); (have N' := N9); (clear F9 N9); (try dsimp only)))
theorem law_whole : PySem.Challenge.rw_dj5003_01.Holds := hd (by w_strict (
  k_go0
  all_goals try k_fold
  rename World => W0
  rename Fr _ _ _ _ => F0
  rename News _ _ _ [] => N0
  (generalize hst1 : Stmt.If _ _ _ _ = st1)
  rename Heap.IsList _ _ _ => hL
  obtain ⟨scr, hscr⟩ := list_name hL
  subst hscr
  refine execs_cut F0 (fun m' led' => led' = [] ∧ m' (Str.ofString "script") = some (Value.ref scr) ∧ ∃ n t, m' (Str.ofString "first") = some (Value.int n t)) ?_ ?_
  focus
    k_steps
    all_goals exact mid_intro (by assumption) (by assumption) ⟨rfl, rfl, _, _, rfl⟩ (fun _ hp => nomatch hp)
  clear F0 N0
  rintro h1 tk1 m1 led1 F1 N1 ⟨rfl, e1, n1, t1, e2⟩
  have F2 := fr_pins [(Str.ofString "script", .ref scr), (Str.ofString "first", .int n1 t1)] ⟨e1, e2, trivial⟩ F1
  clear F1
  dsimp only [pins] at F2
  k_steps
  rename Fr _ _ _ _ => F3
  rename News _ _ _ _ => N3
  dsimp only at F3
  rename IntsAre _ (_ ++ _) => hI3
  rename ¬ _ < _ => hlen63
  obtain ⟨m3, led3, F4, N4, P4⟩ := pre_pack (K := Pre) F3 N3 ⟨_, _, _, 0, rfl, rfl, hI3, (by simp), (by simp; omega), ⟨_, _, rfl, (by have := Int.fmod_nonneg_of_pos n1 (b := 7) (by decide); omega)⟩, ⟨_, _, rfl, (by have := Int.fmod_nonneg_of_pos (n1.fdiv 7) (b := 3) (by decide); omega)⟩, ⟨_, _, rfl⟩⟩ (one_sub (List.Mem.head _))
  clear F3 N3

  (generalize hst2 : Stmt.If _ _ _ _ = st2)
  refine exec_cut F4 Pre ?_ ?_
  focus
    clear hst2
    subst hst1
    obtain ⟨ns, vs, l, e, es, rfl, hI, hn1, hn2, ⟨inv, ti, ei, hi2⟩, ⟨ev, te, ee, he1⟩, ⟨md, tm, em⟩⟩ := P4
    have F5 := fr_pins [(Str.ofString "stream", .ref l), (Str.ofString "inverse", .int inv ti), (Str.ofString "every", .int ev te), (Str.ofString "mode", .int md tm)] ⟨es, ei, ee, em, trivial⟩ F4
    clear F4
    dsimp only [pins] at F5
    try dsimp only
    k_steps
    · exact mid_intro (by assumption) (by assumption) ⟨_, _, _, _, rfl, rfl, (by assumption), (by simpa using hn1), (by simpa using hn2), ⟨_, _, rfl, hi2⟩, ⟨_, _, rfl, he1⟩, ⟨_, _, rfl⟩⟩ (one_sub (List.Mem.head _))
    · exact mid_intro (by assumption) (by assumption) ⟨_, _, _, _, rfl, rfl, hI, hn1, hn2, ⟨_, _, rfl, hi2⟩, ⟨_, _, rfl, he1⟩, ⟨_, _, rfl⟩⟩ (one_sub (List.Mem.head _))
  clear F4 N4 P4
  rintro h5 tk5 m5 led5 F4 N4 P4
  (generalize hst3 : Stmt.If _ _ _ _ = st3)
  try dsimp only
  k_steps
  refine exec_cut F4 Pre ?_ ?_
  focus
    clear hst3
    subst hst2
    obtain ⟨ns, vs, l, e, es, rfl, hI, hn1, hn2, ⟨inv, ti, ei, hi2⟩, ⟨ev, te, ee, he1⟩, ⟨md, tm, em⟩⟩ := P4
    have F5 := fr_pins [(Str.ofString "stream", .ref l), (Str.ofString "inverse", .int inv ti), (Str.ofString "every", .int ev te), (Str.ofString "mode", .int md tm)] ⟨es, ei, ee, em, trivial⟩ F4
    clear F4
    dsimp only [pins] at F5
    try dsimp only
    k_steps
    · rename List.Perm _ ns => hp2
      exact mid_intro (by assumption) (by assumption) ⟨_, _, _, _, rfl, rfl, (by assumption), (by rw [hp2.length_eq]; exact hn1), (by rw [hp2.length_eq]; exact hn2), ⟨_, _, rfl, hi2⟩, ⟨_, _, rfl, he1⟩, ⟨_, _, rfl⟩⟩ (one_sub (List.Mem.head _))
    · exact mid_intro (by assumption) (by assumption) ⟨_, _, _, _, rfl, rfl, hI, hn1, hn2, ⟨_, _, rfl, hi2⟩, ⟨_, _, rfl, he1⟩, ⟨_, _, rfl⟩⟩ (one_sub (List.Mem.head _))
  clear F4 N4 P4
  rintro h6 tk6 m6 led6 F4 N4 P4
  (generalize hst4 : Stmt.For _ _ _ _ _ = st4)
  try dsimp only
  k_steps
  refine exec_cut F4 Pre ?_ ?_
  focus
    clear hst4
    subst hst3
    obtain ⟨ns, vs, l, e, es, rfl, hI, hn1, hn2, ⟨inv, ti, ei, hi2⟩, ⟨ev, te, ee, he1⟩, ⟨md, tm, em⟩⟩ := P4
    have F5 := fr_pins [(Str.ofString "stream", .ref l), (Str.ofString "inverse", .int inv ti), (Str.ofString "every", .int ev te), (Str.ofString "mode", .int md tm)] ⟨es, ei, ee, em, trivial⟩ F4
    clear F4
    dsimp only [pins] at F5
    try dsimp only
    k_steps
    · rename List.Perm _ ns => hp2
      exact mid_intro (by assumption) (by assumption) ⟨_, _, _, _, rfl, rfl, (by assumption), (by rw [List.length_reverse, hp2.length_eq]; exact hn1), (by rw [List.length_reverse, hp2.length_eq]; exact hn2), ⟨_, _, rfl, hi2⟩, ⟨_, _, rfl, he1⟩, ⟨_, _, rfl⟩⟩ (one_sub (List.Mem.head _))
    · exact mid_intro (by assumption) (by assumption) ⟨_, _, _, _, rfl, rfl, hI, hn1, hn2, ⟨_, _, rfl, hi2⟩, ⟨_, _, rfl, he1⟩, ⟨_, _, rfl⟩⟩ (one_sub (List.Mem.head _))
  clear F4 N4 P4
  rintro h7 tk7 m7 led7 F4 N4 ⟨ns, vs, l, e, es, rfl, hI, hn1, hn2, ⟨inv, ti, ei, hi2⟩, ⟨ev, te, ee, he1⟩, ⟨md, tm, em⟩⟩
  have F5 := fr_pins [(Str.ofString "stream", .ref l), (Str.ofString "inverse", .int inv ti), (Str.ofString "every", .int ev te)] ⟨es, ei, ee, trivial⟩ F4
  clear F4
  dsimp only [pins] at F5
  try dsimp only
  k_steps
  subst hst4
  rename Fr _ _ _ _ => F6
  rename News _ _ _ _ => N6
  obtain ⟨rk0, sn, it, ob0, ea, eb, ec, ed⟩ := names4 N6
  subst ea eb ec ed
  rename _ < _ ∧ _ < _ => hsnl
  rename l < it => hitl
  rename _ < _ ∧ _ < _ ∧ _ < _ => hrk0
  with_unfolding_all refine' For_invVF F6 ?k1 ?k2 ?_
  case k1 => exact rfl
  case k2 => exact rfl
  repeat (first | (k_unfold; (try dsimp only)) | ((fail_if_success (with_reducible show wpAny _ _ (pyIter _) _ _ _)); first | walk1 | (dsimp only; walk1)))
  refine N_rangeC (n := ns.length) (JJ W0 l vs e inv ti ev te it sn ns) (by rfl) (by assumption) (range_small (by omega)) range_size (by assumption) (by assumption)
    (jj_init (law_init (List.mem_cons_of_mem _ (List.mem_cons_of_mem _ (List.mem_cons_of_mem _ (List.mem_cons_self ..)))) (List.mem_cons_of_mem _ (List.mem_cons_of_mem _ (List.mem_cons_self ..))) (List.mem_cons_of_mem _ (List.mem_cons_self ..)) (Nat.ne_of_lt hitl) (Nat.ne_of_gt hsnl.1) (Nat.ne_of_lt hsnl.2)) rfl rfl rfl rfl rfl) ?_ ?_
  · rename IsRange _ _ _ _ _ _ _ _ => Hr
    rename Fr _ _ _ _ => Fa
    rename News _ _ _ _ => Na
    clear Hr Fa Na
    rename Fr _ _ _ _ => Fa
    rename News _ _ _ _ => Na
    clear Fa Na
    rintro i t m₁ nx h tk own hi hown ⟨as, xs, Us, H, G, es, ei, ee, eit, esn, _⟩ F2 N2
    rw [Int.zero_add] at F2
    have H0 := H.start hown
    have F3 := fr_pins (m := fun y => if y = Str.ofString "turn" then some (.int ((i : Nat) : Int) t) else m₁ y) [(Str.ofString "turn", .int ((i : Nat) : Int) t), (Str.ofString "stream", .ref l), (Str.ofString "inverse", .int inv ti), (Str.ofString "every", .int ev te), (Str.ofString "items", .ref it), (Str.ofString "seen", .ref sn)] ⟨rfl, es, ei, ee, eit, esn, trivial⟩ F2
    dsimp only [pins] at F3
    clear F2 H
    obtain ⟨led₁, hled⟩ : ∃ x, x = nx ++ own := ⟨_, rfl⟩
    rw [← hled] at N2 H0
    clear hled
    obtain ⟨v, tv, hv, hvs⟩ := ints_at hI hi
    have hvs' : vs[((i : Nat) : Int).toNat]? = some (.int v tv) := by rw [Int.toNat_natCast]; exact hvs
    have hstr0 := H0.str
    have hS0 := H0.sum
    have hz0 : xs.length < 2 ^ 20 := by have := gs_len G; omega
    have hs0 := G.gk.sorted
    (generalize hst5 : Stmt.For _ _ _ _ _ = st5)
    (generalize hst6 : Stmt.If (Expr.Compare (Expr.BinOp _ _ _ _) _ _ _) [Stmt.Expr _ _] _ _ = st6)
    (generalize hst7 : Stmt.Expr (Expr.Call (Expr.Attribute _ _ _) _ _ _) _ = st7)
    (try dsimp only)
    k_steps
    subst hst7
    rename PlaceL _ _ _ _ => hP1
    rename ∀ q ∈ led₁, q.1 < _ => hb1
    rename SumAt _ it _ (putIt _ _ _ _) => hS1
    rename ∀ q ∈ led₁, q.1 ≠ it → _ => hk1
    have H1 := H0.put hb1 hS1 hk1
    have G1 := gs_put G (bnd_mono hi2 i) (bnd_ge _ _) hv hP1
    clear hstr0 hS0 hs0 hz0 H0 G hb1 hS1 hk1
    have hstr1 := H1.str
    obtain ⟨nsn, hsn1⟩ := H1.seen.main
    have hz1 : (Us.map Value.ref).length < 2 ^ 24 := by rw [List.length_map, H1.seen.len, pts_len]; omega
    rename News _ _ _ _ => N1
    have hlt1 := news_lt N1
    k_steps
    refine N_append (by assumption) (by assumption) (List.mem_cons_of_mem _ hsn1) hz1 ?_
    intro h3 F3 N3
    obtain ⟨led₂, Us2, N4, H2⟩ := H1.appN hlt1 N3 (pts_step hv) ⟨_, _, rfl, IntsAre.cons _ _ (IntsAre.cons _ _ IntsAre.nil)⟩
    clear hlt1 hstr1 hsn1 hz1 H1 N3
    try dsimp only
    k_steps
    rename Fr _ _ _ _ => F5
    refine exec_cut F5 (KK own l vs e inv ti ev te it sn Us2 ns i) ?_ ?_
    focus
      clear hst5
      subst hst6
      have hS2 := H2.sum
      have hz2 : (putIt xs _ v (i : Int)).length < 2 ^ 20 := Nat.lt_of_le_of_lt (gs_len G1) (by omega)
      k_steps
      · rename ∀ a ∈ _, a ∈ _ => hsub
        rename SumAt _ _ _ (sqz _ _ _) => hS5
        rename ∀ q ∈ led₂, q.1 ≠ it → _ => hkp
        exact mid_intro (by assumption) (by assumption) ⟨_, _, _, H2.sqz hsub hS5 hkp, gs_sqz G1 cap_le, rfl, rfl, rfl, rfl, rfl, rfl⟩ (fun _ h => h)
      · exact mid_intro (by assumption) (by assumption) ⟨_, _, _, H2, G1, rfl, rfl, rfl, rfl, rfl, rfl⟩ (fun _ h => h)
    clear F5 H2 G1 hst6
    rintro h5 tk5 m5 led5 F5 N5 ⟨as2, xs2, tc, H3, G3, es, ei, ee, eit, esn, ecn⟩
    have F6 := fr_pins [(Str.ofString "stream", .ref l), (Str.ofString "inverse", .int inv ti), (Str.ofString "every", .int ev te), (Str.ofString "items", .ref it), (Str.ofString "seen", .ref sn), (Str.ofString "count", .int ((i : Int) + 1) tc)] ⟨es, ei, ee, eit, esn, ecn, trivial⟩ F5
    clear F5
    dsimp only [pins] at F6
    obtain ⟨nsn3, hsn3⟩ := H3.seen.main
    try dsimp only
    k_steps
    refine N_sorted_seen (by assumption) (by assumption) H3.seen (by rw [pts_len]; omega) (by rw [pts_len]; omega) (pts_sorted _ _) ?_
    intro D c h6 Us3 P3 F7 N7 hD hS3 hU3 hperm hsrt
    try dsimp only
    k_steps
    subst hst5
    rename News _ _ _ _ => N8
    rename Fr _ _ _ _ => F8
    obtain ⟨rk, ob, ea, eb⟩ := names2 N8
    subst ea eb
    rename D < rk ∧ AllLt rk _ => hrk
    rename Obj.IsDictOf (intKind _ _) _ [] => hdi
    have hrkB : ∀ q ∈ (D, listOf (Us3.map Value.ref).toArray c) :: led5, q.1 < rk := tb_ltOf hrk
    have H4 := H3.grow (led' := (D, listOf (Us3.map Value.ref).toArray c) :: led5) (fun q hq => List.mem_cons_of_mem _ hq)
    obtain ⟨B, hB⟩ : ∃ x, x = (D, listOf (Us3.map Value.ref).toArray c) :: led5 := ⟨_, rfl⟩
    rw [← hB] at N8 hS3 hrkB H4
    clear hsn3 H3 hB
    with_unfolding_all refine' For_invVF F8 ?k1 ?k2 ?_
    case k1 => exact rfl
    case k2 => exact rfl
    repeat (first | (k_unfold; (try dsimp only)) | ((fail_if_success (with_reducible show wpAny _ _ (pyIter _) _ _ _)); first | walk1 | (dsimp only; walk1)))
    refine N_rangeC (n := i + 1) (RR W0 B l inv ti ev te it sn rk D Us3 P3 i tc) (by rfl) (by assumption) (show Builtin.Range.small 0 ((i : Int) + 1) 1 = true from range_small (n := i + 1) (by omega)) (range_size (n := i + 1)) (by assumption) (by assumption)
      (rr_init hdi rfl rfl rfl rfl rfl rfl rfl rfl) ?_ ?_
    · rintro k t2 m2 nx2 h8 tk8 own2 hk hown2 ⟨es2, ob1, rfl, hdc, hrt, es1, ei1, ee1, eit1, esn1, ecn1, eo1, erk1⟩ F9 N9
      rw [Int.zero_add] at F9
      have F10 := fr_pins (m := fun y => if y = Str.ofString "p" then some (.int ((k : Nat) : Int) t2) else m2 y) [(Str.ofString "p", .int ((k : Nat) : Int) t2), (Str.ofString "stream", .ref l), (Str.ofString "inverse", .int inv ti), (Str.ofString "every", .int ev te), (Str.ofString "items", .ref it), (Str.ofString "seen", .ref sn), (Str.ofString "count", .int ((i : Int) + 1) tc), (Str.ofString "ordered", .ref D), (Str.ofString "ranks", .ref rk)] ⟨rfl, es1, ei1, ee1, eit1, esn1, ecn1, eo1, erk1, trivial⟩ F9
      dsimp only [pins] at F10
      clear F9
      have hkl : k < P3.length := by rw [hperm.length_eq, pts_len]; exact hk
      obtain ⟨U, q, o, hU, hq, hUv, hUo, hUt⟩ := hS3.at hkl
      obtain ⟨c2, hDm⟩ := hS3.main
      obtain ⟨led7, hled7⟩ : ∃ x, x = (rk, ob1) :: B ++ own2 := ⟨_, rfl⟩
      rw [← hled7] at N9
      have hsub7 : ∀ p ∈ B, p ∈ led7 := fun p hp => hled7 ▸ List.mem_append_left _ (List.mem_cons_of_mem _ hp)
      have hDm7 := hsub7 _ hDm
      have hUo7 := hsub7 _ hUo
      have hrk7 : (rk, ob1) ∈ led7 := hled7 ▸ List.mem_append_left _ (List.mem_cons_self ..)
      have DI0 : DictIn W0 led7 rk es2 := hdc.to hrk7 (fun q hq _ _ => hsub7 q hq)
      have hesz : es2.length < 2 ^ 20 := by rw [hrt.1]; omega
      try dsimp only
      repeat (first | (k_unfold; (try dsimp only)) | ((fail_if_success (with_reducible show wpAny _ _ (setItem _ _ _) _ _ _)); first | walk1 | (dsimp only; walk1)))
      refine N_dictSet (by assumption) (by assumption) (by ktr_units) DI0 hUo7 hUt (hrt.new hq hsrt) hesz ?_
      intro h9 tk9 ob2 F11 N11 DI1
      try dsimp only
      k_steps
      exact rr_next (by assumption) (by assumption) hled7 hrkB hown2 hdc DI1 hU hUo hUt hq hrt rfl rfl rfl rfl rfl rfl rfl rfl
    rintro m2 nx2 h8 tk8 ⟨es2, ob1, rfl, hdc, hrt, es1, ei1, ee1, eit1, esn1, ecn1, eo1, erk1⟩ F9 N9
    have F10 := fr_pins [(Str.ofString "stream", .ref l), (Str.ofString "inverse", .int inv ti), (Str.ofString "every", .int ev te), (Str.ofString "items", .ref it), (Str.ofString "seen", .ref sn), (Str.ofString "count", .int ((i : Int) + 1) tc), (Str.ofString "ordered", .ref D), (Str.ofString "ranks", .ref rk)] ⟨es1, ei1, ee1, eit1, esn1, ecn1, eo1, erk1, trivial⟩ F9
    dsimp only [pins] at F10
    clear F9
    have hRk : RankAt W0 ((rk, ob1) :: B) rk P3 := RankTo.at (by rw [hperm.length_eq, pts_len]; exact hrt) (hdc.to (List.mem_cons_self ..) (fun q hq _ _ => List.mem_cons_of_mem _ hq))
    have H5 := H4.grow (led' := (rk, ob1) :: B) (fun q hq => List.mem_cons_of_mem _ hq)
    obtain ⟨led8, hled8⟩ : ∃ x, x = (rk, ob1) :: B := ⟨_, rfl⟩
    rw [← hled8] at N9 hRk H5
    have hS5 := H5.sum
    have hl5 := gs_len G3
    have hz6 : xs2.length < 64 := by omega
    have hz5 : xs2.length < 2 ^ 20 := Nat.lt_trans hz6 (by decide)
    have hi37 : i < 37 := Nat.lt_of_lt_of_le hi hn2
    have hHo : HoldsOk xs2 P3 ((i : Int) + 1) (bnd inv (i + 1)) := gs_holds G3 (Nat.succ_pos i) hsrt hperm
    have hTo : ToldOk xs2 P3 ((i : Int) + 1) (rch inv (i + 1)) := gs_told G3 (Nat.succ_pos i) (Nat.lt_trans (Nat.succ_lt_succ hi37) (by decide)) hsrt hperm (rch_ok inv (i + 1)).1 (rch_ok inv (i + 1)).2
    (generalize hst8 : Stmt.If (Expr.UnaryOp _ _ _) _ _ _ = st8)
    try dsimp only
    k_steps
    rename Fr _ _ _ _ => F12
    rw [bnd_if, rch_if] at F12
    subst hst8
    rename News _ _ _ _ => N12
    k_steps
    · rename ∀ q ∈ _, q ∈ _ => hs2
      rename ∀ q ∈ led8, q ∈ _ => hs1
      exact jj_next (by assumption) (by assumption) (fun q hq => hs2 q (hs1 q (by rw [hled8]; exact hq))) H4 G3 hU3 hrkB hdc hrt hperm hsrt rfl rfl rfl rfl rfl rfl rfl rfl
    · rename ∀ q ∈ led8, q ∈ _ => hs1
      exact jj_next (by assumption) (by assumption) (fun q hq => hs1 q (by rw [hled8]; exact hq)) H4 G3 hU3 hrkB hdc hrt hperm hsrt rfl rfl rfl rfl rfl rfl rfl rfl
  rintro m₁ nx h tk ⟨as, xs, Us, H, G, es, ei, ee, eit, esn, hend⟩ F2 N2
  obtain ⟨rk, P3, tr, tc, erk, ecn, erc, hRk, hsrt, hperm⟩ := hend (by omega)
  have F3 := fr_pins [(Str.ofString "items", .ref it), (Str.ofString "ranks", .ref rk), (Str.ofString "count", .int ((ns.length : Nat) : Int) tc), (Str.ofString "reach", .int (rch inv ns.length) tr)] ⟨eit, erk, ecn, erc, trivial⟩ F2
  dsimp only [pins] at F3
  clear F2
  have hS5 := H.sum
  have hl5 := gs_len G
  have hz6 : xs.length < 64 := Nat.lt_of_le_of_lt hl5 (Nat.lt_of_le_of_lt hn2 (by decide))
  have hTo : ToldOk xs P3 ((ns.length : Nat) : Int) (rch inv ns.length) := gs_told G (Nat.le_trans (by decide) hn1) (Nat.lt_of_le_of_lt hn2 (by decide)) hsrt hperm (rch_ok inv ns.length).1 (rch_ok inv ns.length).2
  try dsimp only
  k_steps))
end Mine
end

section
set_option maxRecDepth 100000 in
set_option maxHeartbeats 8000000 in
theorem PySem.Challenge.cw_dj5003_01_holds : PySem.Challenge.rw_dj5003_01.Holds := by
  exact Mine.law_whole
end
