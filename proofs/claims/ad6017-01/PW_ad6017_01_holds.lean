import PyProof.Rows.All
import Wide.All
import OpenK.AllK
import Wide.FinOn
import Lean
import PySem.Challenge.RW_ad6017_01
open PySem PySem.W PyProof.Rows
set_option Elab.async false
set_option maxRecDepth 100000
set_option maxHeartbeats 400000
set_option rowWalk.seconds 0
set_option linter.unusedSectionVars false
set_option linter.unusedSimpArgs false
set_option linter.unusedVariables false
namespace Mine
set_option maxHeartbeats 8000000 in
open_top hd for PySem.Challenge.rw_ad6017_01
section
set_option maxHeartbeats 1000000
abbrev By := List UInt8
abbrev Led := List (Addr × Obj)

/-! ### tables of bytes -/
section
variable {K : Type} [DecidableEq K]
def get (D : List (K × By)) (k : K) : Option By := (D.find? fun p => decide (p.1 = k)).map (·.2)
def put (D : List (K × By)) (k : K) (x : By) : List (K × By) :=
  if D.any (fun p => decide (p.1 = k)) then D.map (fun p => if p.1 = k then (p.1, x) else p) else D ++ [(k, x)]
inductive Vals : List (K × Value) → List (K × By) → Prop
  | nil : Vals [] []
  | cons {k : K} {x : By} {t : Tok} {kvs : List (K × Value)} {D : List (K × By)} : Vals kvs D → Vals ((k, .bytes x.toArray t) :: kvs) ((k, x) :: D)
theorem Vals.keys {kvs : List (K × Value)} {D : List (K × By)} (h : Vals kvs D) : kvs.map (·.1) = D.map (·.1) := by
  induction h with
  | nil => rfl
  | cons _ ih => simp [ih]
theorem Vals.length {kvs : List (K × Value)} {D : List (K × By)} (h : Vals kvs D) : kvs.length = D.length := by
  have := congrArg List.length h.keys
  simpa using this
theorem Vals.get {kvs : List (K × Value)} {D : List (K × By)} (h : Vals kvs D) (k : K) :
    (Mine.get D k = none ∧ valueAt kvs k = none) ∨ ∃ x t, Mine.get D k = some x ∧ valueAt kvs k = some (.bytes x.toArray t) := by
  induction h with
  | nil => exact .inl ⟨rfl, rfl⟩
  | @cons k' x t kvs D _ ih =>
    unfold Mine.get valueAt at ih ⊢
    by_cases e : k' = k
    · refine .inr ⟨x, t, ?_, ?_⟩ <;> simp [e]
    · simpa [List.find?_cons, e] using ih
theorem Vals.get_some {kvs : List (K × Value)} {D : List (K × By)} (h : Vals kvs D) {k : K} {x : By} (e : Mine.get D k = some x) : ∃ t, valueAt kvs k = some (.bytes x.toArray t) := by
  rcases h.get k with ⟨a, _⟩ | ⟨y, t, a, b⟩
  · rw [a] at e; cases e
  · rw [a] at e; cases e; exact ⟨t, b⟩
theorem Vals.get_none {kvs : List (K × Value)} {D : List (K × By)} (h : Vals kvs D) {k : K} (e : Mine.get D k = none) : valueAt kvs k = none := by
  rcases h.get k with ⟨_, b⟩ | ⟨y, t, a, b⟩
  · exact b
  · rw [a] at e; cases e
theorem Vals.isSome {kvs : List (K × Value)} {D : List (K × By)} (h : Vals kvs D) (k : K) : (valueAt kvs k).isSome = (Mine.get D k).isSome := by
  rcases h.get k with ⟨a, b⟩ | ⟨y, t, a, b⟩ <;> rw [a, b] <;> rfl
theorem Vals.append {kvs kvs' : List (K × Value)} {D D' : List (K × By)} (h : Vals kvs D) (h' : Vals kvs' D') : Vals (kvs ++ kvs') (D ++ D') := by
  induction h with
  | nil => exact h'
  | cons _ ih => exact .cons ih
theorem Vals.mapPut {k : K} {x : By} {t : Tok} {kvs : List (K × Value)} {D : List (K × By)} (h : Vals kvs D) :
    Vals (kvs.map fun kv => if kv.1 = k then (kv.1, Value.bytes x.toArray t) else kv) (D.map fun p => if p.1 = k then (p.1, x) else p) := by
  induction h with
  | nil => exact .nil
  | @cons k' y t' kvs D hv ih =>
    simp only [List.map_cons]
    by_cases e : k' = k
    · simp only [if_pos e]; exact .cons ih
    · simp only [if_neg e]; exact .cons ih
theorem Vals.stored {kvs : List (K × Value)} {D : List (K × By)} (h : Vals kvs D) (k : K) (x : By) (t : Tok) : Vals (PySem.stored kvs k (.bytes x.toArray t)) (put D k x) := by
  unfold PySem.stored put
  have e : (kvs.any fun kv => decide (kv.1 = k)) = D.any fun p => decide (p.1 = k) := by
    have := congrArg (fun l => l.any fun y => decide (y = k)) h.keys
    simpa [List.any_map, Function.comp_def] using this
  rw [e]
  split
  · exact h.mapPut
  · exact h.append (.cons .nil)
theorem put_length_le (D : List (K × By)) (k : K) (x : By) : (put D k x).length ≤ D.length + 1 := by
  unfold put; split <;> simp

theorem get_put_self (D : List (K × By)) (k : K) (x : By) : get (put D k x) k = some x := by
  unfold put get
  split
  · rename_i h
    induction D with
    | nil => simp at h
    | cons p D ih =>
      by_cases e : p.1 = k
      · simp [e]
      · simp only [List.any_cons, e, decide_false, Bool.false_or] at h
        rw [List.map_cons, if_neg e, List.find?_cons_of_neg (by simpa using e)]
        exact ih h
  · rename_i h
    rw [List.find?_append]
    have : (D.find? fun p => decide (p.1 = k)) = none := by
      rw [List.find?_eq_none]
      intro p hp he
      exact h (List.any_eq_true.mpr ⟨p, hp, he⟩)
    rw [this]; simp
theorem get_put_ne (D : List (K × By)) {k k' : K} (x : By) (hne : k' ≠ k) : get (put D k x) k' = get D k' := by
  unfold put get
  split
  · rename_i h
    clear h
    induction D with
    | nil => rfl
    | cons p D ih =>
      by_cases e : p.1 = k
      · have e2 : ¬ p.1 = k' := fun q => hne (q.symm.trans e)
        have e3 : ¬ k = k' := fun q => hne q.symm
        rw [List.map_cons, if_pos e, List.find?_cons_of_neg (by simpa using e2), List.find?_cons_of_neg (by simpa using e2)]
        exact ih
      · by_cases e2 : p.1 = k'
        · rw [List.map_cons, if_neg e, List.find?_cons_of_pos (by simpa using e2), List.find?_cons_of_pos (by simpa using e2)]
        · rw [List.map_cons, if_neg e, List.find?_cons_of_neg (by simpa using e2), List.find?_cons_of_neg (by simpa using e2)]
          exact ih
  · rw [List.find?_append]
    cases (D.find? fun p => decide (p.1 = k')) with
    | none => simp [Ne.symm hne]
    | some p => simp
theorem put_keys (D : List (K × By)) (k : K) (x : By) (k' : K) : k' ∈ (put D k x).map (·.1) ↔ k' = k ∨ k' ∈ D.map (·.1) := by
  unfold put
  split
  · rename_i h
    obtain ⟨p, hp, he⟩ := List.any_eq_true.mp h
    have hk : k ∈ D.map (·.1) := List.mem_map.mpr ⟨p, hp, of_decide_eq_true he⟩
    have e : (D.map fun p => if p.1 = k then (p.1, x) else p).map (·.1) = D.map (·.1) := by
      rw [List.map_map]; refine List.map_congr_left fun p _ => ?_
      by_cases q : p.1 = k <;> simp [q]
    rw [e]
    constructor
    · exact .inr
    · rintro (rfl | h)
      · exact hk
      · exact h
  · simp [or_comm]
theorem get_isSome (D : List (K × By)) (k : K) : (get D k).isSome = true ↔ k ∈ D.map (·.1) := by
  unfold get
  rw [Option.isSome_map, List.find?_isSome]
  simp only [decide_eq_true_eq, List.mem_map]
theorem put_nodup {D : List (K × By)} (h : (D.map (·.1)).Nodup) (k : K) (x : By) : ((put D k x).map (·.1)).Nodup := by
  unfold put
  split
  · have e : (D.map fun p => if p.1 = k then (p.1, x) else p).map (·.1) = D.map (·.1) := by
      rw [List.map_map]; refine List.map_congr_left fun p _ => ?_
      by_cases q : p.1 = k <;> simp [q]
    rw [e]; exact h
  · rename_i hn
    rw [List.map_append, List.nodup_append]
    refine ⟨h, by simp, ?_⟩
    rintro a ha b hb rfl
    simp only [List.map_cons, List.map_nil, List.mem_singleton] at hb
    subst hb
    obtain ⟨p, hp, e⟩ := List.mem_map.mp ha
    exact hn (List.any_eq_true.mpr ⟨p, hp, decide_eq_true e⟩)
theorem put_new {D : List (K × By)} {k : K} (x : By) (h : get D k = none) : put D k x = D ++ [(k, x)] := by
  unfold put
  rw [if_neg]
  intro hn
  obtain ⟨p, hp, e⟩ := List.any_eq_true.mp hn
  have := (get_isSome D k).mpr (List.mem_map.mpr ⟨p, hp, of_decide_eq_true e⟩)
  rw [h] at this; cases this
theorem get_mem {D : List (K × By)} {k : K} {x : By} (h : get D k = some x) : (k, x) ∈ D := by
  unfold get at h
  obtain ⟨p, hp, rfl⟩ := Option.map_eq_some_iff.mp h
  have := List.find?_some hp
  have e := of_decide_eq_true this
  subst e
  exact List.mem_of_find?_eq_some hp
end

/-- a dict of bytes -/
def Tab {prog : Program} {w : World} {K : Type} [DecidableEq K] (knd : KeyKind prog w K) (o : Obj) (D : List (K × By)) : Prop :=
  ∃ kvs, o.IsDictOf knd kvs ∧ Vals kvs D
theorem Tab.nodup {prog : Program} {w : World} {K : Type} [DecidableEq K] {knd : KeyKind prog w K} {o : Obj} {D : List (K × By)} (T : Tab knd o D) : (D.map (·.1)).Nodup := by
  obtain ⟨kvs, ⟨es, ep, _, _, _, _, hn⟩, hv⟩ := T
  rw [← hv.keys]; exact hn

/-! ### the hash's names -/
def be (k : Nat) (x : Int) : By := (KTBy.low x k).reverse
theorem be_length (k : Nat) (x : Int) : (be k x).length = k := by unfold be; rw [List.length_reverse, KTBy.low_length]
def intsOf (x : By) : List Int := x.map fun c => ((c.toNat : Nat) : Int)
theorem be_ints {k : Nat} {x : Int} (h0 : 0 ≤ x) (h1 : x < 256 ^ k) : intsOf (be k x) = (KTBy.little k x).reverse := by
  unfold intsOf be
  rw [List.map_reverse, KTBy.low_ints h0 h1, ← KTBy.little_eq]
theorem value_snoc (l : List Int) (b : Int) : KFB.value (l ++ [b]) = KFB.value l * 256 + b := by
  unfold KFB.value; rw [List.foldl_append]; rfl
theorem value_little : ∀ (k : Nat) (x : Int), 0 ≤ x → x < 256 ^ k → KFB.value (KTBy.little k x).reverse = x
  | 0, x, h0, h1 => by
    have : x = 0 := by simp at h1; omega
    subst this; rfl
  | k + 1, x, h0, h1 => by
    show KFB.value (x % 256 :: KTBy.little k (x / 256)).reverse = x
    rw [List.reverse_cons, value_snoc, value_little k (x / 256) (by omega) (by rw [Int.pow_succ] at h1; omega)]
    omega
theorem value_be {k : Nat} {x : Int} (h0 : 0 ≤ x) (h1 : x < 256 ^ k) : KFB.value (intsOf (be k x)) = x := by
  rw [be_ints h0 h1, value_little k x h0 h1]
def code (i : Nat) : By := be 32 ((i : Int) + 1)
theorem code_inj {i j : Nat} (hi : i < 16777216) (hj : j < 16777216) (h : code i = code j) : i = j := by
  have e := congrArg (fun l => KFB.value (intsOf l)) h
  unfold code at e
  have b : (16777217 : Int) ≤ 256 ^ 32 := by decide
  rw [value_be (by omega) (by omega), value_be (by omega) (by omega)] at e
  omega
theorem code_length (i : Nat) : (code i).length = 32 := be_length _ _

/-- the book: the texts, in their order -/
def entries (B : List By) : List (By × By) := B.zipIdx.map fun p => (p.1, code p.2)
structure Book {prog : Program} {w : World} (o : Obj) (B : List By) : Prop where
  tab : Tab (bytesKind prog w) o (entries B)
  nodup : B.Nodup
def Named (B : List By) (text name : By) : Prop := ∃ i, B[i]? = some text ∧ name = code i
theorem Named.mono {B B' : List By} {t n : By} (h : Named B t n) (p : B <+: B') : Named B' t n := by
  obtain ⟨i, hi, e⟩ := h
  obtain ⟨r, rfl⟩ := p
  exact ⟨i, by rw [List.getElem?_append_left (List.getElem?_eq_some_iff.mp hi).1]; exact hi, e⟩
theorem Named.fn {B : List By} {t n n' : By} (hn : B.Nodup) (h : Named B t n) (h' : Named B t n') : n = n' := by
  obtain ⟨i, hi, rfl⟩ := h
  obtain ⟨j, hj, rfl⟩ := h'
  have a := (List.getElem?_eq_some_iff.mp hi)
  have b := (List.getElem?_eq_some_iff.mp hj)
  have : i = j := by
    obtain ⟨a1, a2⟩ := a
    obtain ⟨b1, b2⟩ := b
    exact (List.getElem_inj hn).mp (a2.trans b2.symm)
  rw [this]
theorem Named.inj {B : List By} {t t' n : By} (hb : B.length ≤ 16777216) (h : Named B t n) (h' : Named B t' n) : t = t' := by
  obtain ⟨i, hi, rfl⟩ := h
  obtain ⟨j, hj, e⟩ := h'
  have a := (List.getElem?_eq_some_iff.mp hi)
  have b := (List.getElem?_eq_some_iff.mp hj)
  obtain ⟨a1, _⟩ := a
  obtain ⟨b1, _⟩ := b
  have := code_inj (by omega) (by omega) e
  subst this
  rw [hi] at hj; exact Option.some.inj hj
theorem Named.length {B : List By} {t n : By} (h : Named B t n) : n.length = 32 := by
  obtain ⟨i, _, rfl⟩ := h; exact code_length i
theorem entries_length (B : List By) : (entries B).length = B.length := by simp [entries]
theorem entries_get {B : List By} {t n : By} (hn : B.Nodup) : get (entries B) t = some n ↔ Named B t n := by
  constructor
  · intro h
    have := get_mem h
    unfold entries at this
    obtain ⟨p, hp, e⟩ := List.mem_map.mp this
    obtain ⟨x, i⟩ := p
    cases e
    have := List.mem_zipIdx_iff_getElem?.mp hp
    exact ⟨i, this, rfl⟩
  · intro h
    have hm : t ∈ (entries B).map (·.1) := by
      obtain ⟨i, hi, _⟩ := h
      have : (entries B).map (·.1) = B := by simp [entries, List.map_map, Function.comp_def]
      rw [this]; exact List.mem_of_getElem? hi
    have := (get_isSome (entries B) t).mpr hm
    obtain ⟨y, hy⟩ := Option.isSome_iff_exists.mp this
    rw [hy]
    have hN : Named B t y := by
      have := get_mem hy
      unfold entries at this
      obtain ⟨p, hp, e⟩ := List.mem_map.mp this
      obtain ⟨x, i⟩ := p
      cases e
      exact ⟨i, List.mem_zipIdx_iff_getElem?.mp hp, rfl⟩
    rw [hN.fn hn h]
theorem entries_snoc (B : List By) (t : By) : entries (B ++ [t]) = entries B ++ [(t, code B.length)] := by
  simp [entries, List.zipIdx_append]
theorem entries_keys (B : List By) : (entries B).map (·.1) = B := by simp [entries, List.map_map, Function.comp_def]

/-! ### rules: dicts of bytes in the ledger -/
theorem isB (prog : Program) (w : World) (b : Array UInt8) (t : Tok) : (bytesKind prog w).is b.toList (.bytes b t) = true := by simp [bytesKind, isBytes]
theorem isI (prog : Program) (w : World) (i : Int) (t : Tok) : (intKind prog w).is i (.int i t) = true := intKind_is prog w i t
theorem UpdF.self {d : Addr} {o o' : Obj} {news : Led} {g : Obj → Led} (U : UpdF d o news g) : (d, o') ∈ g o' := by
  obtain ⟨pre, post, rfl, hg, _, _⟩ := U.split
  rw [hg]; simp
theorem UpdF.keepM {d : Addr} {o o' : Obj} {news : Led} {g : Obj → Led} (U : UpdF d o news g) {p : Addr × Obj} (hp : p ∈ news) (hne : p.1 ≠ d) : p ∈ g o' := by
  obtain ⟨pre, post, rfl, hg, _, _⟩ := U.split
  rw [hg]
  rcases List.mem_append.mp hp with h | h
  · exact List.mem_append_left _ h
  · rcases List.mem_cons.mp h with rfl | h
    · exact absurd rfl hne
    · exact List.mem_append_right _ (.tail _ h)
theorem UpdF.mem {d : Addr} {o : Obj} {news : Led} {g : Obj → Led} (U : UpdF d o news g) : (d, o) ∈ news := by
  obtain ⟨pre, post, rfl, hg, _, _⟩ := U.split
  simp
theorem UpdF.same {d : Addr} {o : Obj} {news : Led} {g : Obj → Led} (U : UpdF d o news g) : g o = news := by
  obtain ⟨pre, post, rfl, hg, _, _⟩ := U.split
  rw [hg]
section
variable {prog : Program} {w : World} {K : Type} [DecidableEq K] {knd : KeyKind prog w K} {A : Around} {E : Value → Shared → Prop} {s : Shared} {h₀ : Heap} {L d : Addr} {m : Str → Option Value} {news : Led} {g : Obj → Led} {o : Obj} {D : List (K × By)} {k : K} {key : Value} {x : By}
theorem Tab.len (T : Tab knd o D) : ∃ kvs, o.IsDictOf knd kvs ∧ Vals kvs D ∧ kvs.length = D.length := by
  obtain ⟨kvs, a, b⟩ := T; exact ⟨kvs, a, b, b.length⟩
theorem my_notin {Q : Value → Shared → Prop} (N : News h₀ L s.heap news) (hm : (d, o) ∈ news) (T : Tab knd o D) (lo : (d == sysModules) = false) (hkey : knd.is k key = true) {r : Option By} (hv : get D k = r)
    (h : Q (.bool (!r.isSome)) { s with toks := s.toks + 1 }) : wpAny (model prog w) A (compareOp .NotIn key (.ref d)) Q E s := by
  obtain ⟨kvs, hd, v⟩ := T
  exact wpAny_notIn_of hkey lo (kda_dict N hm hd).mapOf (by rw [v.isSome, hv]; exact h)
theorem my_notin_n {Q : Value → Shared → Prop} (N : News h₀ L s.heap news) (hm : (d, o) ∈ news) (T : Tab knd o D) (lo : (d == sysModules) = false) (hkey : knd.is k key = true) (hv : get D k = none)
    (h : Q (.bool true) { s with toks := s.toks + 1 }) : wpAny (model prog w) A (compareOp .NotIn key (.ref d)) Q E s := my_notin N hm T lo hkey hv h
theorem my_notin_s {Q : Value → Shared → Prop} (N : News h₀ L s.heap news) (hm : (d, o) ∈ news) (T : Tab knd o D) (lo : (d == sysModules) = false) (hkey : knd.is k key = true) (hv : get D k = some x)
    (h : Q (.bool false) { s with toks := s.toks + 1 }) : wpAny (model prog w) A (compareOp .NotIn key (.ref d)) Q E s := my_notin N hm T lo hkey hv h
theorem my_item {Q : Value → Shared → Prop} (N : News h₀ L s.heap news) (hm : (d, o) ∈ news) (T : Tab knd o D) (hkey : knd.is k key = true) (hv : get D k = some x)
    (h : ∀ t, Q (.bytes x.toArray t) { s with toks := s.toks + 1 }) : wpAny (model prog w) A (getItem (.ref d) key) Q E s := by
  obtain ⟨kvs, hd, v⟩ := T
  obtain ⟨t, e⟩ := v.get_some hv
  exact wpAny_getItem_of hkey (kda_dict N hm hd).mapOf e (h t)
theorem my_tail {Q : Value → Shared → Prop} {value slice : PySem.Expr} (N : News h₀ L s.heap news) (hm : (d, o) ∈ news) (T : Tab knd o D) (hkey : knd.is k key = true) (hv : get D k = some x)
    (h : ∀ t, Q (.bytes x.toArray t) { s with toks := s.toks + 1 })
    (hs : subscripted slice false (.ref d) key = operate [.ref d, key] (getItem (.ref d) key) := by with_unfolding_all rfl) : wpAny (model prog w) A (subscriptTail value slice (.ref d) key) Q E s := by
  have hd : ∃ kvs, o.IsDictOf knd kvs := let ⟨kvs, hd, _⟩ := T; ⟨kvs, hd⟩
  obtain ⟨kvs, hd⟩ := hd
  exact tail_any (kda_dict N hm hd).typeIs slot_dict_getitem.lookup (my_item N hm T hkey hv h) hs
theorem my_len {Q : Value → Shared → Prop} (N : News h₀ L s.heap news) (hm : (d, o) ∈ news) (T : Tab knd o D) (lo : (d == sysModules) = false) (hz : D.length ≤ 16777216)
    (h : ∀ t k, Q (.int (D.length : Int) t) { s with toks := k }) : wpAny (model prog w) A (call (.builtin "len") [.ref d]) Q E s := by
  obtain ⟨kvs, hd, v, e⟩ := T.len
  rw [← e] at h
  exact call_len_dict lo (kda_dict N hm hd) (by omega) (h _ _)
theorem my_set {Q : Unit → Shared → Prop} {b : Array UInt8} {t : Tok} (F : Fr h₀ L s.heap m) (N : News h₀ L s.heap news) (U : UpdF d o news g) (T : Tab knd o D) (hkey : knd.is k key = true) (hz : D.length ≤ 16777216)
    (h : ∀ h' o', Fr h₀ L h' m → News h₀ L h' (g o') → Tab knd o' (put D k b.toList) → Q () { s with heap := h', toks := s.toks + 1 }) : wpAny (model prog w) A (setItem (.ref d) key (.bytes b t)) Q E s := by
  obtain ⟨kvs, hd, v, e⟩ := T.len
  refine kda_set F N U hd hkey (by rw [sizeLine_eq]; omega) fun h' o' F' N' hd' => h h' o' F' N' ⟨_, hd', ?_⟩
  have := v.stored k b.toList t
  rwa [Array.toArray_toList] at this
theorem my_getm {pl : Sem Bool} {Q : Value × List Value → Shared → Prop} (N : News h₀ L s.heap news) (hm : (d, o) ∈ news) (T : Tab knd o D) (h : Q (.builtin "dict.get", [.ref d]) s) : wpAny (model prog w) A (getMethod (.ref d) "get" pl) Q E s := by
  obtain ⟨kvs, hd, v⟩ := T
  exact kdg_method N hm hd h
theorem my_get2 {Q : Value → Shared → Prop} {b : Array UInt8} {t : Tok} (N : News h₀ L s.heap news) (hm : (d, o) ∈ news) (T : Tab knd o D) (lo : (d == sysModules) = false) (hkey : knd.is k key = true)
    (h : ∀ t k', Q (.bytes ((get D k).getD b.toList).toArray t) { s with toks := k' }) : wpAny (model prog w) A (call (.builtin "dict.get") [.ref d, key, .bytes b t]) Q E s := by
  obtain ⟨kvs, hd, v⟩ := T
  refine kdg_get2 N hm hd lo hkey _ rfl ?_
  rcases v.get k with ⟨e1, e2⟩ | ⟨y, t', e1, e2⟩
  · rw [e2]; have := h t; rw [e1] at this; simp only [Option.getD_none, Array.toArray_toList] at this ⊢; exact this _
  · rw [e2]; have := h t'; rw [e1] at this; exact this _
end

/-! ### int.to_bytes, int.from_bytes at any size up to 32 -/
section
variable {prog : Program} {w : World} {A : Around} {E : Value → Shared → Prop} {s : Shared} {x : Int} {t u v : Tok}
theorem my_tobytes {Q : Value → Shared → Prop} {k : Nat} (hk : k ≤ 32) (h0 : 0 ≤ x) (h1 : x < 256 ^ k) (h : ∀ t' k', Q (.bytes (be k x).toArray t') { s with toks := k' }) :
    wpAny (model prog w) A (call (.builtin "int.to_bytes") [.int x t, .int (k : Int) u, .str (PySem.Str.ofString "big") v]) Q E s := by
  refine wpAny_call_entry KTBy.slot (typeIs_int s x t) KTBy.entry ?_ (KTBy.args _ _ _)
  have hb := KTBy.bits_le (k := k) rfl h0 h1
  show wpAny _ _ (Builtin.Int.intOfSelf (.int x t) >>= fun y => _) _ _ s
  refine wpAny_bind (wpAny_of_eq (a := x) rfl ?_)
  show wpAny _ _ (Builtin.Int.intBindNamed "to_bytes" ["length", "byteorder", "signed"] 0 2 [.int (k : Int) u, .str (PySem.Str.ofString "big") v] [] >>= fun l => _) _ _ s
  refine wpAny_bind (wpAny_of_eq (a := [some (.int (k : Int) u), some (.str (PySem.Str.ofString "big") v), none]) (by kernel_rfl) ?_)
  show wpAny _ _ (Builtin.Int.intIndex "int.to_bytes" (.int (k : Int) u) >>= fun n => _) _ _ s
  refine wpAny_bind (wpAny_of_eq (a := (k : Int)) rfl ?_)
  refine KTBy.if_not (by show (decide ((k : Int) < -(2 ^ 63 : Int)) || decide ((k : Int) ≥ 2 ^ 63)) = false; rw [decide_eq_false (by omega), decide_eq_false (by omega)]; rfl) ?_
  refine wpAny_bind (wpAny_of_eq (a := PySem.Str.ofString "big") (by kernel_rfl) ?_)
  refine wpAny_bind (wpAny_of_eq (a := false) rfl ?_)
  refine wpAny_bind (wpAny_of_eq (a := false) (by kernel_rfl) ?_)
  refine wpAny_ite_false (decide_eq_false (by omega)) ?_
  refine wpAny_ite_false (decide_eq_false (by omega)) ?_
  refine wpAny_ite_false (decide_eq_false (by rw [sizeLine_eq]; omega)) ?_
  refine KTBy.if_not (by show (decide (x < 0) && !false) = false; rw [decide_eq_false (by omega)]; rfl) ?_
  refine KTBy.if_not (by show (_ && decide ((PySem.Builtin.Int.intBits x : Int) > 8 * (k : Int))) = false; rw [decide_eq_false (by omega), Bool.and_false]) ?_
  refine wpAny_bind (wpAny_mkBytes (wpAny_pure ⟨_, rfl, ?_⟩) (by show (List.reverse (KTBy.low x (Int.toNat (k : Int)))).length ≤ sizeLine; rw [List.length_reverse, KTBy.low_length, Int.toNat_natCast, sizeLine_eq]; omega))
  have := h s.toks (s.toks + 1)
  unfold be at this
  rw [show k = Int.toNat (k : Int) from (Int.toNat_natCast k).symm] at this
  exact this
theorem my_tobytesI {Q : Value → Shared → Prop} {k : Int} (k0 : 0 ≤ k) (hk : k ≤ 32) (h0 : 0 ≤ x) (h1 : x < 256 ^ k.toNat) (h : ∀ t' k', Q (.bytes (be k.toNat x).toArray t') { s with toks := k' }) :
    wpAny (model prog w) A (call (.builtin "int.to_bytes") [.int x t, .int k u, .str (PySem.Str.ofString "big") v]) Q E s := by
  obtain ⟨n, rfl⟩ := Int.eq_ofNat_of_zero_le k0
  exact my_tobytes (by omega) h0 h1 h
theorem my_tobytes32 {Q : Value → Shared → Prop} (h0 : 0 ≤ x) (h1 : x ≤ 16777217) (h : ∀ t' k', Q (.bytes (be 32 x).toArray t') { s with toks := k' }) :
    wpAny (model prog w) A (call (.builtin "int.to_bytes") [.int x t, .int 32 u, .str (PySem.Str.ofString "big") v]) Q E s :=
  my_tobytes (k := 32) (by omega) h0 (by have b : (16777217 : Int) < 256 ^ 32 := by decide
                                         omega) h
theorem my_frombytes {h₀ : Heap} {L a : Addr} {news : Led} {b : Array UInt8} {Q : Value → Shared → Prop} (N : News h₀ L s.heap news) (hm : (a, KFB.bound) ∈ news) (hl : b.size ≤ 8)
    (h : ∀ t' k, Q (.int (KFB.value (intsOf b.toList)) t') { s with toks := k }) : wpAny (model prog w) A (call (.ref a) [.bytes b t, .str (PySem.Str.ofString "big") u]) Q E s :=
  KFB.call_of (KFB.at_of N hm) (fun z => KFB.tree_big hl z) (h _ _)
end
end
section
theorem off_1 : True := by
  w_top off
  trivial
local macro_rules | `(tactic| ktr_rel) => `(tactic| first | assumption | (apply_assumption; done) | exact List.Mem.head _ | (refine List.Mem.tail _ ?_; ktr_rel) | (refine List.mem_append_left _ ?_; ktr_rel) | (refine List.mem_append_right _ ?_; ktr_rel))
local macro_rules | `(tactic| walk_at "eval Name") => `(tactic| (k_here; kc_free; k_dflt (refine' nameX_F ?N ?c ?m ?d ?_ ?a ?b; (case a => rfl); (case b => rfl); (case N => k_asm); (case c => rfl); (case m => ktr_rel); (case d => assumption))))
local macro_rules | `(tactic| walk_at "compareOp NotIn bytes ref") => `(tactic| (k_here; k_dflt (first
  | (refine' my_notin_n (knd := bytesKind _ _) ?N ?m ?T ?lo ?hk ?hv ?_; (case N => k_asm); (case m => ktr_rel); (case T => assumption); (case lo => assumption); (case hk => exact isB _ _ _ _); (case hv => assumption))
  | (refine' my_notin_s (knd := bytesKind _ _) ?N ?m ?T ?lo ?hk ?hv ?_; (case N => k_asm); (case m => ktr_rel); (case T => assumption); (case lo => assumption); (case hk => exact isB _ _ _ _); (case hv => assumption)))))
local macro_rules | `(tactic| walk_at "setItem ref bytes") => `(tactic| (k_here; k_dflt (refine' my_set (knd := bytesKind _ _) ?F ?N ?U ?T ?hk ?z ?_; (case F => k_asm); (case N => k_asm); (case U => first | assumption | k_updF); (case T => assumption); (case hk => exact isB _ _ _ _); (case z => first | assumption | omega); intro h' o' F' N' T')))
local macro_rules | `(tactic| walk_at "subscriptTail") => `(tactic| (k_here; (with_reducible show wpAny _ _ (subscriptTail _ _ (Value.ref _) (Value.bytes _ _)) _ _ _); k_dflt (refine' my_tail (knd := bytesKind _ _) ?N ?m ?T ?hk ?hv ?_; (case N => k_asm); (case m => ktr_rel); (case T => assumption); (case hk => exact isB _ _ _ _); (case hv => first | assumption | exact get_put_self _ _ _); intro t')))
local macro_rules | `(tactic| walk_at "call builtin:len") => `(tactic| (k_here; (with_reducible show wpAny _ _ (call (Value.builtin "len") [Value.ref _]) _ _ _); k_dflt (first
  | (refine' my_len (knd := bytesKind _ _) ?N ?m ?T ?lo ?z ?_; (case N => k_asm); (case m => ktr_rel); (case T => assumption); (case lo => assumption); (case z => first | assumption | omega); intro t' k')
  | (refine' my_len (knd := intKind _ _) ?N ?m ?T ?lo ?z ?_; (case N => k_asm); (case m => ktr_rel); (case T => assumption); (case lo => assumption); (case z => first | assumption | omega); intro t' k'))))
local macro_rules | `(tactic| walk_at "call builtin:int.to_bytes") => `(tactic| (k_here; (with_reducible show wpAny _ _ (call (Value.builtin "int.to_bytes") [Value.int _ _, Value.int _ _, Value.str _ _]) _ _ _); k_dflt (refine' my_tobytesI ?a ?b ?c ?d ?_; (case a => omega); (case b => omega); (case c => omega); (case d => first | assumption | omega); intro t' k')))
local macro_rules | `(tactic| walk_at "call builtin:int.to_bytes") => `(tactic| (k_here; (with_reducible show wpAny _ _ (call (Value.builtin "int.to_bytes") [Value.int _ _, Value.int 32 _, Value.str _ _]) _ _ _); k_dflt (refine' my_tobytes32 ?c ?d ?_; (case c => omega); (case d => omega); intro t' k')))
/-! ### the hash -/
def fdArgs : Stmt → Arguments
  | Stmt.FunctionDef _ a _ _ _ _ _ _ _ _ => a
  | _ => default
def fdBody : Stmt → List Stmt
  | Stmt.FunctionDef _ _ b _ _ _ _ _ _ _ => b
  | _ => []
def fdScope : Stmt → Scope
  | Stmt.FunctionDef _ _ _ _ _ _ sc _ _ _ => sc
  | _ => default
def nthS : Nat → List Stmt → Stmt
  | _, [] => Stmt.Pass default
  | 0, x :: _ => x
  | n + 1, _ :: r => nthS n r
def hashDef : Stmt := nthS 0 (fdBody (nthS 13 PySem.Challenge.pw_ad6017_01.main.body))
def hashArgs : Arguments := fdArgs hashDef
def hashBody : List Stmt := fdBody hashDef
def hashScope : Scope := fdScope hashDef

def HashFn (news : Led) (f bk : Addr) : Prop := ∃ c c' oc vs t o q dc mn ct,
  (f, fnMade (Str.ofString "hash_of") q hashArgs hashBody hashScope [(Str.ofString "book", c)] dc mn c' ct) ∈ news ∧ (c', oc) ∈ news ∧ oc.data = .fields vs ∧ vs[1]? = some (.str q t) ∧ (c, o) ∈ news ∧ o.data = .cell (some (.ref bk))
theorem HashFn.mono {news news' : Led} {f bk : Addr} (h : HashFn news f bk) (hs : ∀ p ∈ news, p ∈ news') : HashFn news' f bk := by
  obtain ⟨c, c', oc, vs, t, o, q, dc, mn, ct, a, b, c1, d, e, f⟩ := h
  exact ⟨c, c', oc, vs, t, o, q, dc, mn, ct, hs _ a, hs _ b, c1, d, hs _ e, f⟩

section
variable {prog : Program} {w : World} {p : Program} {loose : List Str} {mean : ExcName → Option Value} {mg mb : Str → Option Value}
  {dp un : Nat} {gd : Option (List Code)} {cn : Str} {cs : Scope} {a : Addr} {ccd : Value} {cl : List (Str × Addr)} {outer : List Env} {A₀ : Around} {base h₀ : Heap} {L : Addr} {m : Str → Option Value} {s : Shared}
  {Q E : Value → Shared → Prop} {news : Led} {g : Obj → Led} {f bk : Addr} {o : Obj} {B : List By}
theorem Book.dict (hB : Book (prog := prog) (w := w) o B) : ∃ es n, o.data = .dict es n := by
  obtain ⟨kvs, ⟨es, ep, _, h, _⟩, _⟩ := hB.tab
  exact ⟨es, ep, h⟩
theorem apart {h : Heap} {a' b' : Addr} {oa ob : Obj} (N : News h₀ L h news) (ha : (a', oa) ∈ news) (hb : (b', ob) ∈ news) (hne : oa.data ≠ ob.data) : a' ≠ b' := by
  rintro rfl
  have := (N _ ha).1.symm.trans (N _ hb).1
  exact hne (congrArg Obj.data (Option.some.inj this))

theorem hash_call {b : Array UInt8} {t : Tok} (Bl : Below A₀ base outer h₀) (F : Fr h₀ L s.heap m) (X : (hd.heap_39 w.params).In h₀) (N : News h₀ L s.heap news) (T : Top p loose mean mg mb h₀) (hk : cs.kind = .function)
    (hdp : dp + 1 < recursionLimit) (hun : un + 8 < cLine) (H : HashFn news f bk) (U : UpdF bk o news g) (hB : Book (prog := prog) (w := w) o B) (hlen : B.length < 1000000) (hlo : (bk == sysModules) = false)
    (ret : ∀ h' tk' t' o' B' n, Fr h₀ L h' m → News h₀ L h' (g o') → Book (prog := prog) (w := w) o' B' → B <+: B' → B'.length ≤ B.length + 1 → Named B' b.toList n → Q (.bytes n.toArray t') { s with heap := h', toks := tk' }) :
    wpAny (model prog w) (ktrTop dp un gd cn cs L a ccd cl outer) (call (.ref f) [.bytes b t]) Q E s := by
  obtain ⟨c, c', oc, vs, tq, oo, q, dc, mn, ct, hf, hc', hd1, hd2, hc, hd3⟩ := H
  conv at hf in hashBody => whnf
  conv at hf in hashScope => whnf
  conv at hf in hashArgs => whnf
  obtain ⟨es, ep, hdd⟩ := hB.dict
  have hcne : (c, oo).1 ≠ bk := apart N hc (UpdF.mem U) (by rw [hd3, hdd]; nofun)
  have hcU : ∀ o', (c, oo) ∈ g o' := fun o' => UpdF.keepM U hc hcne
  have hbU : ∀ o', (bk, o') ∈ g o' := fun o' => UpdF.self U
  have hbm := UpdF.mem U
  have hT := hB.tab
  have hz : (entries B).length ≤ 16777216 := by rw [entries_length]; omega
  refine wpAny_call ?_
  k_dflt (refine' code_nest ?k1 ?k2 ?k3 ?k4 ?k5 ?kA ?kF ?kK ?k6 ?k7 ?k8 ?k9 ?kB ?_ ?c2 ?c3 ?c4 ?c5; (case kA => exact rfl); (case kF => exact rfl); (case kK => assumption); (case k1 => k_asm); (case k2 => k_asm); (case k3 => k_asm); (case k4 => k_asm); (case k5 => k_asm); (case k6 => exact hf); (case k7 => exact codeRec_news N hc' hd1 hd2); (case k8 => exact Nat.lt_of_succ_lt hdp); (case k9 => exact BindsTo.of_eq rfl); (case c5 => decide); (case kB => exact locs rfl); (case c2 => exact rfl); (case c3 => exact rfl); (case c4 => exact rfl); intro g' L' h' FG' F' N' B' X' T')
  rcases hg : Mine.get (entries B) b.toList with _ | n
  · k_steps
    have hnm : b.toList ∉ B := fun hm => by
      have := (get_isSome (entries B) b.toList).mpr (by rw [entries_keys]; exact hm)
      rw [hg] at this; cases this
    refine ret _ _ _ _ (B ++ [b.toList]) _ (by assumption) (by assumption) ⟨?_, ?_⟩ (List.prefix_append _ _) (by simp) ⟨B.length, by simp, by rw [entries_length]; rfl⟩
    · rename_i hput _ _ _ _ _
      rw [put_new _ hg, entries_length] at hput
      rw [entries_snoc]
      exact hput
    · rw [List.nodup_append]
      refine ⟨hB.nodup, by simp, ?_⟩
      rintro x hx y hy rfl
      rw [List.mem_singleton.mp hy] at hx
      exact hnm hx
  · k_steps
    have hk' := UpdF.same U
    refine ret _ _ _ o B n (by assumption) (by rw [hk']; assumption) hB (List.prefix_refl _) (by omega) ((entries_get hB.nodup).mp hg)
end
end
section
theorem off_2 : True := by
  w_top off
  trivial
/-! ### loops -/
section
variable {prog : Program} {w : World} {A : Around} {E : Value → Shared → Prop} {s : Shared} {env : Env} {h₀ : Heap} {x : Str} {body : List Stmt} {Q : Flow → Shared → Prop}

def TurnEnd (h₀ : Heap) (L : Addr) (J : (Str → Option Value) → Led → Prop) (rest : Led) (s₁ s₂ : Shared) : Prop :=
  ∃ h' tk m' fr all, s₂ = { s₁ with heap := h', toks := tk } ∧ Fr h₀ L h' m' ∧ News h₀ L h' all ∧ (∀ p ∈ fr, p ∈ all) ∧ (∀ p ∈ rest, p ∈ all) ∧ OwnOff rest (fr.map (·.1)) ∧ J m' fr
def TurnPost (h₀ : Heap) (L : Addr) (J : (Str → Option Value) → Led → Prop) (rest : Led) (s₁ : Shared) (Q : Flow → Shared → Prop) (f : Flow) (s₂ : Shared) : Prop :=
  match f with
  | .ret v => Q (.ret v) s₂
  | .brk => Q .next s₂
  | _ => TurnEnd h₀ L J rest s₁ s₂

theorem loop_rule {I : Addr} {fp wr : List Addr} {n : Nat} {P : Nat → Value → Prop} {St : Nat → Heap → Prop} {m₀ : Str → Option Value} {fr₀ rest : Led} (J : Nat → (Str → Option Value) → Led → Prop)
    (W : Walks prog w A I fp wr n P St) (hL : env.locals ∉ fp) (hwr : ∀ b ∈ wr, h₀.get? b = none) (hex : ∀ i h, St i h → ∀ b ∈ fp, ∃ o, h.get? b = some o)
    (hst : St 0 s.heap) (F : Fr h₀ env.locals s.heap m₀) (N : News h₀ env.locals s.heap (fr₀ ++ rest)) (hrw : ∀ p ∈ rest, p.1 ∉ wr) (hff : ∀ p ∈ fr₀, p.1 ∉ fp) (hoff : OwnOff rest (fr₀.map (·.1))) (j0 : J 0 m₀ fr₀)
    (turn : ∀ i v m₁ fr rest' h tk, i < n → P i v → J i m₁ fr → OwnOff rest' (fr.map (·.1)) → (∀ p ∈ rest, p ∈ rest') → Fr h₀ env.locals h (fun y => if y = x then some v else m₁ y) → News h₀ env.locals h (fr ++ rest') →
      wpAny (model prog w) A (execs body env) (TurnPost h₀ env.locals (J (i + 1)) rest' { s with heap := h, toks := tk } Q) E { s with heap := h, toks := tk })
    (done : ∀ m₁ fr h tk, J n m₁ fr → OwnOff rest (fr.map (·.1)) → Fr h₀ env.locals h m₁ → News h₀ env.locals h (fr ++ rest) → Q .next { s with heap := h, toks := tk }) :
    LoopAtV prog w A h₀ env x body Q E (.ref I) s := by
  let J' : Nat → (Str → Option Value) → List (Addr × Obj) → Prop := fun i m news => ∃ fr, news = fr ++ rest ∧ (∀ p ∈ fr, p.1 ∉ fp) ∧ OwnOff rest (fr.map (·.1)) ∧ J i m fr
  refine ⟨I, fp, wr, n, P, St, m₀, fr₀ ++ rest, J', rfl, W, hL, hwr, fun p hp => ?_, hst, F, N, ⟨fr₀, rfl, hff, hoff, j0⟩, ?_, ?_⟩
  · rcases List.mem_append.mp hp with h | h
    · exact fun q => hff p h (W.sub _ q)
    · exact hrw p h
  · rintro i v m₁ news₁ s₁ own ⟨h, tk, rfl⟩ hi hP ⟨fr, rfl, hfp, hfo, hJ⟩ _ hown hget hall hSt F₁ N₁
    have hofs : OwnOff (own ++ rest) (fr.map (·.1)) := by
      intro p hp b hb e
      rcases List.mem_append.mp hp with hp | hp
      · obtain ⟨q, hq, rfl⟩ := List.mem_map.mp hb
        exact hfp q hq (by rw [← e]; exact hown p hp)
      · exact hfo p hp b hb e
    have N₂ : News h₀ env.locals h (fr ++ (own ++ rest)) := fun p hp => N₁ p (by
      rcases List.mem_append.mp hp with hp | hp
      · exact List.mem_append_right _ (List.mem_append_left _ hp)
      · rcases List.mem_append.mp hp with hp | hp
        · exact List.mem_append_left _ hp
        · exact List.mem_append_right _ (List.mem_append_right _ hp))
    refine wpAny_mono (turn i v m₁ fr (own ++ rest) h tk hi hP hJ hofs (fun p hp => List.mem_append_right _ hp) F₁ N₂) (fun f s₂ p => ?_) fun _ _ e => e
    have fin : TurnEnd h₀ env.locals (J (i + 1)) (own ++ rest) { s with heap := h, toks := tk } s₂ → LoopStepU h₀ env.locals wr own (J' (i + 1)) { s with heap := h, toks := tk } .next s₂ := by
      rintro ⟨h', tk', m', fr', all, e, F', N', hfa, hra, ho', hJ'⟩
      have hfp' : ∀ p ∈ fr', p.1 ∉ fp := fun p hp hb => by
        cases q : h₀.get? p.1 with
        | some o => have := (N' p (hfa p hp)).2.2; rw [q] at this; cases this
        | none =>
          obtain ⟨o, ho⟩ := hex _ _ hSt _ hb
          exact ho' _ (List.mem_append_left _ (hall _ hb q o ho)) _ (List.mem_map_of_mem hp) rfl
      refine ⟨rfl, h', tk', m', fr' ++ rest, e, F', fun p hp => ?_, fun p hp hb => ?_, fr', rfl, hfp', fun p hp b hb => ho' p (List.mem_append_right _ hp) b hb, hJ'⟩
      · rcases List.mem_append.mp hp with hp | hp
        · exact N' p (hra p (List.mem_append_left _ hp))
        · rcases List.mem_append.mp hp with hp | hp
          · exact N' p (hfa p hp)
          · exact N' p (hra p (List.mem_append_right _ hp))
      · rcases List.mem_append.mp hp with hp | hp
        · exact hfp' p hp (W.sub _ hb)
        · exact hrw p hp hb
    cases f with
    | ret v => exact .ret p
    | brk => exact .brk p
    | next => exact .next (fin p)
    | cont => exact .cont (fin p)
  · rintro h' tk m' news' F' N' _ ⟨fr, rfl, _, hfo, hJ⟩
    exact done m' fr h' tk hJ hfo F' N'

/-- range(a, b) -/
theorem iter_range {r : Addr} {a₀ b₀ : Int} {t₀ u₀ v₀ : Tok} {n : Nat} {m₀ : Str → Option Value} {fr₀ rest : Led} (J : (Str → Option Value) → Led → Nat → (Str → Option Value) → Led → Prop)
    (hh : A.handled = none) (hr : IsRange s.heap r a₀ b₀ 1 t₀ u₀ v₀) (hsmall : Builtin.Range.small a₀ b₀ 1 = true) (hn : Builtin.Range.rangeSize a₀ b₀ 1 = (n : Int)) (F : Fr h₀ env.locals s.heap m₀) (N : News h₀ env.locals s.heap (fr₀ ++ rest)) (hoff : OwnOff rest (fr₀.map (·.1))) (j0 : J m₀ fr₀ 0 m₀ fr₀)
    (turn : ∀ (i : Nat) t m₁ fr rest' h tk, i < n → J m₀ fr₀ i m₁ fr → OwnOff rest' (fr.map (·.1)) → (∀ p ∈ rest, p ∈ rest') → Fr h₀ env.locals h (fun y => if y = x then some (.int (a₀ + (i : Int)) t) else m₁ y) → News h₀ env.locals h (fr ++ rest') →
      wpAny (model prog w) A (execs body env) (TurnPost h₀ env.locals (J m₀ fr₀ (i + 1)) rest' { s with heap := h, toks := tk } Q) E { s with heap := h, toks := tk })
    (done : ∀ m₁ fr h tk, J m₀ fr₀ n m₁ fr → OwnOff rest (fr.map (·.1)) → Fr h₀ env.locals h m₁ → News h₀ env.locals h (fr ++ rest) → Q .next { s with heap := h, toks := tk }) :
    wpAny (model prog w) A (pyIter (.ref r)) (fun it s₂ => LoopAtV prog w A h₀ env x body Q E it s₂) E s := by
  refine wpAny_pyIter_range hr hsmall ?_
  have hI : ∀ p ∈ fr₀ ++ rest, p.1 < s.heap.objs.size := fun p hp => Heap.lt_size (N p hp).1
  have W := (Walks.range (prog := prog) (w := w) hh s.heap.objs.size a₀ 1 n).bound
  refine loop_rule (J m₀ fr₀) W ?_ ?_ ?_ ?_ (F.push _) (fun p hp => ⟨Heap.get?_push_of_some _ (N p hp).1, (N p hp).2⟩) ?_ ?_ hoff j0 ?_ done
  · intro hm; exact absurd F.ns.lt ((List.mem_singleton.mp hm) ▸ Nat.lt_irrefl _)
  · intro b hb; rw [List.mem_singleton.mp hb]; exact next_is_new F
  · intro i h hst b hb
    rw [List.mem_singleton.mp hb]
    exact ⟨_, hst⟩
  · show IsRangeIter _ _ _ _ _
    rw [hn]
    simpa using Heap.get?_push_size _ rfl
  · intro p hp hb
    exact absurd (hI p (List.mem_append_right _ hp)) ((List.mem_singleton.mp hb) ▸ Nat.lt_irrefl _)
  · intro p hp hb
    exact absurd (hI p (List.mem_append_left _ hp)) ((List.mem_singleton.mp hb) ▸ Nat.lt_irrefl _)
  · rintro i v m₁ fr rest' h tk hi ⟨_, t, rfl⟩ hJ ho hs F₁ N₁
    rw [Int.mul_one] at F₁
    exact turn i t m₁ fr rest' h tk hi hJ ho hs F₁ N₁

/-- the keys of a dict of bytes that is read alone -/
theorem iter_keys {K : Type} [DecidableEq K] {knd : KeyKind prog w K} {d : Addr} {o : Obj} {D : List (K × By)} {m₀ : Str → Option Value} {fr₀ rest : Led} (J : (Str → Option Value) → Led → Nat → (Str → Option Value) → Led → Prop)
    (hh : A.handled = none) (hm : (d, o) ∈ rest) (T : Tab knd o D) (lo : (d == sysModules) = false) (F : Fr h₀ env.locals s.heap m₀) (N : News h₀ env.locals s.heap (fr₀ ++ rest)) (hoff : OwnOff rest (fr₀.map (·.1))) (j0 : J m₀ fr₀ 0 m₀ fr₀)
    (turn : ∀ (i : Nat) v k y m₁ fr rest' h tk, D[i]? = some (k, y) → knd.is k v = true → J m₀ fr₀ i m₁ fr → OwnOff rest' (fr.map (·.1)) → (∀ p ∈ rest, p ∈ rest') → Fr h₀ env.locals h (fun y => if y = x then some v else m₁ y) → News h₀ env.locals h (fr ++ rest') →
      wpAny (model prog w) A (execs body env) (TurnPost h₀ env.locals (J m₀ fr₀ (i + 1)) rest' { s with heap := h, toks := tk } Q) E { s with heap := h, toks := tk })
    (done : ∀ m₁ fr h tk, J m₀ fr₀ D.length m₁ fr → OwnOff rest (fr.map (·.1)) → Fr h₀ env.locals h m₁ → News h₀ env.locals h (fr ++ rest) → Q .next { s with heap := h, toks := tk }) :
    wpAny (model prog w) A (pyIter (.ref d)) (fun it s₂ => LoopAtV prog w A h₀ env x body Q E it s₂) E s := by
  obtain ⟨kvs, hd, hv⟩ := T
  have hdm := N (d, o) (List.mem_append_right _ hm)
  have hdict := kda_dict N (List.mem_append_right _ hm) hd
  obtain ⟨ep, hat⟩ := hdict.dictAt
  refine wpAny_pyIter_dict lo hat ?_
  have hI : ∀ p ∈ fr₀ ++ rest, p.1 < s.heap.objs.size := fun p hp => Heap.lt_size (N p hp).1
  have hne : d ≠ s.heap.objs.size := Nat.ne_of_lt (hI _ (List.mem_append_right _ hm))
  have W := Walks.dictKeys (prog := prog) (w := w) (A := A) (knd := knd) hh s.heap.objs.size d hne kvs ep
  rw [hv.length] at W
  refine loop_rule (J m₀ fr₀) W ?_ ?_ ?_ ?_ (F.push _) (fun p hp => ⟨Heap.get?_push_of_some _ (N p hp).1, (N p hp).2⟩) ?_ ?_ hoff j0 ?_ done
  · intro hmm
    rcases List.mem_cons.mp hmm with e | hmm
    · exact absurd F.ns.lt (e ▸ Nat.lt_irrefl _)
    · exact hdm.2.1 (List.mem_singleton.mp hmm).symm
  · intro b hb; rw [List.mem_singleton.mp hb]; exact next_is_new F
  · rintro i h ⟨⟨oi, hi, _⟩, ⟨od, _, hod, _⟩⟩ b hb
    rcases List.mem_cons.mp hb with rfl | hb
    · exact ⟨_, hi⟩
    · rw [List.mem_singleton.mp hb]; exact ⟨_, hod⟩
  · rw [← hv.length]
    exact ⟨⟨_, Heap.get?_push_size _ rfl, rfl, rfl⟩, hat.push _⟩
  · intro p hp hb
    exact absurd (hI p (List.mem_append_right _ hp)) ((List.mem_singleton.mp hb) ▸ Nat.lt_irrefl _)
  · intro p hp hb
    rcases List.mem_cons.mp hb with e | hb
    · exact absurd (hI p (List.mem_append_left _ hp)) (e ▸ Nat.lt_irrefl _)
    · exact hoff _ hm _ (List.mem_map_of_mem hp) (List.mem_singleton.mp hb).symm
  · rintro i v m₁ fr rest' h tk hi ⟨k, xx, hk, hkey⟩ hJ ho hs F₁ N₁
    have hlt : i < D.length := hi
    have hDi : D[i]? = some (k, D[i].2) := by
      rw [List.getElem?_eq_getElem hlt]
      have := congrArg (fun l => l[i]?) hv.keys
      simp only [List.getElem?_map, hk, List.getElem?_eq_getElem hlt, Option.map_some] at this
      rw [Option.some.inj this]
    exact turn i v k _ m₁ fr rest' h tk hDi hkey hJ ho hs F₁ N₁
end
end
section
local macro_rules | `(tactic| walk_at "no such key 3") => `(tactic| fail)
theorem off_4 : True := by
  w_top off
  trivial
/-! ### lists in the ledger -/
def Stop (P : Prop) : Prop := P
theorem Stop.of {P : Prop} (h : Stop P) : P := h
theorem Stop.get {P : Prop} (h : P) : Stop P := h
def ListV (o : Obj) (vs : List Value) : Prop := ∃ n, o = listOf vs.toArray n
inductive VB : List Value → List By → Prop
  | nil : VB [] []
  | cons {b : Array UInt8} {t : Tok} {vs : List Value} {es : List By} : VB vs es → VB (.bytes b t :: vs) (b.toList :: es)
theorem VB.length {vs : List Value} {es : List By} (h : VB vs es) : vs.length = es.length := by
  induction h with
  | nil => rfl
  | cons _ ih => simp [ih]
theorem VB.append {vs vs' : List Value} {es es' : List By} (h : VB vs es) (h' : VB vs' es') : VB (vs ++ vs') (es ++ es') := by
  induction h with
  | nil => exact h'
  | cons _ ih => exact .cons ih
theorem VB.at {vs : List Value} {es : List By} (h : VB vs es) {i : Nat} {x : By} (e : es[i]? = some x) : ∃ t, vs[i]? = some (.bytes x.toArray t) := by
  induction h generalizing i with
  | nil => simp at e
  | @cons b t vs es _ ih =>
    cases i with
    | zero => simp only [List.getElem?_cons_zero, Option.some.injEq] at e ⊢; subst e; exact ⟨t, by rw [Array.toArray_toList]⟩
    | succ i => simp only [List.getElem?_cons_succ] at e ⊢; exact ih e
theorem VB.reverse {vs : List Value} {es : List By} (h : VB vs es) : VB vs.reverse es.reverse := by
  induction h with
  | nil => exact .nil
  | cons _ ih => simp only [List.reverse_cons]; exact ih.append (.cons .nil)
def ListB (o : Obj) (es : List By) : Prop := ∃ vs, ListV o vs ∧ VB vs es
theorem ListB.one {b : Array UInt8} {t : Tok} {n : Nat} : ListB (listOf [Value.bytes b t].toArray n) [b.toList] := ⟨_, ⟨n, rfl⟩, .cons .nil⟩
section
variable {prog : Program} {w : World} {A : Around} {E : Value → Shared → Prop} {s : Shared} {h₀ : Heap} {L l : Addr} {m : Str → Option Value} {news : Led} {g : Obj → Led} {o : Obj} {vs : List Value} {es : List By}
theorem ListV.isList (N : News h₀ L s.heap news) (hm : (l, o) ∈ news) (hv : ListV o vs) : s.heap.IsList l vs.toArray := by
  obtain ⟨n, rfl⟩ := hv
  exact ⟨_, (N _ hm).1, rfl, n, rfl⟩
theorem my_append {x : Value} {Q : Value → Shared → Prop} (F : Fr h₀ L s.heap m) (N : News h₀ L s.heap news) (U : UpdF l o news g) (hv : ListV o vs) (hz : vs.length ≤ 16777216)
    (h : ∀ h' o', Fr h₀ L h' m → News h₀ L h' (g o') → ListV o' (vs ++ [x]) → Q .none { s with heap := h' }) : wpAny (model prog w) A (call (.builtin "list.append") [.ref l, x]) Q E s := by
  obtain ⟨n, rfl⟩ := hv
  obtain ⟨pre, post, rfl, hg, a, b⟩ := U.split
  have z := N (l, listOf vs.toArray n) (List.mem_append.mpr (.inr (.head _)))
  refine append_at (hsz := by rw [sizeLine_eq, List.size_toArray]; omega) z.1 fun h' hs ho' => h h' _ (F.change hs z.2.1 z.2.2) (hg _ ▸ news_set N a b hs ho') ⟨n + 1, by simp⟩
theorem my_appendB {b : Array UInt8} {t : Tok} {Q : Value → Shared → Prop} (F : Fr h₀ L s.heap m) (N : News h₀ L s.heap news) (U : UpdF l o news g) (hv : ListB o es) (hz : es.length ≤ 16777216)
    (h : ∀ h' o', Fr h₀ L h' m → News h₀ L h' (g o') → ListB o' (es ++ [b.toList]) → Q .none { s with heap := h' }) : wpAny (model prog w) A (call (.builtin "list.append") [.ref l, .bytes b t]) Q E s := by
  obtain ⟨vs, hv, hb⟩ := hv
  exact my_append F N U hv (by rw [hb.length]; exact hz) fun h' o' F' N' hv' => h h' o' F' N' ⟨_, hv', hb.append (.cons .nil)⟩
theorem my_appm {pl : Sem Bool} {Q : Value × List Value → Shared → Prop} (N : News h₀ L s.heap news) (hm : (l, o) ∈ news) (hv : ListV o vs) (h : Q (.builtin "list.append", [.ref l]) s) : wpAny (model prog w) A (getMethod (.ref l) "append" pl) Q E s := by
  obtain ⟨n, rfl⟩ := hv
  exact Calls.getMethod_list_append (N _ hm).1 rfl rfl h
theorem my_appmB {pl : Sem Bool} {Q : Value × List Value → Shared → Prop} (N : News h₀ L s.heap news) (hm : (l, o) ∈ news) (hv : ListB o es) (h : Q (.builtin "list.append", [.ref l]) s) : wpAny (model prog w) A (getMethod (.ref l) "append" pl) Q E s := by
  obtain ⟨vs, hv, hb⟩ := hv
  exact my_appm N hm hv h
theorem my_lget {value slice : PySem.Expr} {k : Int} {t : Tok} {x : Value} {Q : Value → Shared → Prop} (N : News h₀ L s.heap news) (hm : (l, o) ∈ news) (hv : ListV o vs) (hz : vs.length ≤ 16777216) (h0 : 0 ≤ k) (hx : vs[k.toNat]? = some x) (h : Q x s)
    (hs : subscripted slice false (.ref l) (.int k t) = operate [.ref l, .int k t] (getItem (.ref l) (.int k t)) := by with_unfolding_all rfl) : wpAny (model prog w) A (subscriptTail value slice (.ref l) (.int k t)) Q E s := by
  have hL := ListV.isList N hm hv
  have : k.toNat < vs.length := (List.getElem?_eq_some_iff.mp hx).1
  exact tail_any hL.typeIs slot_list_getitem.lookup (wpAny_getItem_list hL h0 (by omega) (by simpa using hx) h) hs
theorem my_lgetB {value slice : PySem.Expr} {k : Int} {t : Tok} {x : By} {Q : Value → Shared → Prop} (N : News h₀ L s.heap news) (hm : (l, o) ∈ news) (hv : ListB o es) (hz : es.length ≤ 16777216) (h0 : 0 ≤ k) (hx : es[k.toNat]? = some x) (h : ∀ t, Q (.bytes x.toArray t) s)
    (hs : subscripted slice false (.ref l) (.int k t) = operate [.ref l, .int k t] (getItem (.ref l) (.int k t)) := by with_unfolding_all rfl) : wpAny (model prog w) A (subscriptTail value slice (.ref l) (.int k t)) Q E s := by
  obtain ⟨vs, hv, hb⟩ := hv
  obtain ⟨t', e⟩ := hb.at hx
  exact my_lget N hm hv (by rw [hb.length]; exact hz) h0 e (h t') hs
theorem my_newList {Q : Value → Shared → Prop} (F : Fr h₀ L s.heap m) (N : News h₀ L s.heap news)
    (h : ∀ l o h', Fr h₀ L h' m → News h₀ L h' ((l, o) :: news) → (∀ p ∈ news, p.1 < l) → ListV o vs → Q (.ref l) { s with heap := h' }) (hsz : vs.length ≤ sizeLine := by size_fits) : wpAny (model prog w) A (newList vs) Q E s :=
  newList_K F N (fun l h' F' N' hl => h l _ h' F' N' hl ⟨0, rfl⟩) hsz
theorem my_addB {b c : Array UInt8} {t u : Tok} {Q : Value → Shared → Prop} (hz : b.size + c.size ≤ 16777216) (h : ∀ t' k, Q (.bytes (b ++ c) t') { s with toks := k }) : wpAny (model prog w) A (binaryOp .Add (.bytes b t) (.bytes c u)) Q E s :=
  KBy.add_bytes hz h
end
theorem offs {rest : Led} {as : List Addr} (h : ∀ p ∈ rest, ∀ b ∈ as, p.1 ≠ b) : OwnOff rest as := h
theorem HashFn.upd {h₀ h : Heap} {L bk : Addr} {news : Led} {g : Obj → Led} {o o' : Obj} {es : Array DictEntry} {n : Nat} {f : Addr} (H : HashFn news f bk) (N : News h₀ L h news) (U : UpdF bk o news g) (hd : o.data = .dict es n) : HashFn (g o') f bk := by
  obtain ⟨c, c', oc, vs, t, oo, q, dc, mn, ct, a, b, c1, d, e, f⟩ := H
  have hb := UpdF.mem U
  exact ⟨c, c', oc, vs, t, oo, q, dc, mn, ct, UpdF.keepM U a (apart N a hb (by rw [hd]; nofun)), UpdF.keepM U b (apart N b hb (by rw [hd, c1]; nofun)), c1, d, UpdF.keepM U e (apart N e hb (by rw [hd, f]; nofun)), f⟩
theorem FnAt.hash {h₀ h : Heap} {L f bk : Addr} {news : Led} (N : News h₀ L h news) (H : HashFn news f bk) : FnAt f h := by
  obtain ⟨c, c', oc, vs, t, oo, q, dc, mn, ct, a, _⟩ := H
  exact FnAt.of N a
end
section
local macro_rules | `(tactic| walk_at "no such key 5") => `(tactic| fail)
local macro_rules | `(tactic| walk_at "no such key 6") => `(tactic| fail)
theorem off_7 : True := by
  w_top off
  trivial
local macro_rules | `(tactic| ktr_rel) => `(tactic| first | assumption | (apply_assumption; done) | exact List.Mem.head _ | (refine List.Mem.tail _ ?_; ktr_rel) | (refine List.mem_append_left _ ?_; ktr_rel) | (refine List.mem_append_right _ ?_; ktr_rel))
local macro_rules | `(tactic| walk_at "eval Name") => `(tactic| (k_here; kc_free; k_dflt (refine' nameX_F ?N ?c ?m ?d ?_ ?a ?b; (case a => rfl); (case b => rfl); (case N => k_asm); (case c => rfl); (case m => ktr_rel); (case d => assumption))))
local macro_rules | `(tactic| walk_at "compareOp NotIn bytes ref") => `(tactic| (k_here; k_dflt (first
  | (refine' my_notin_n (knd := bytesKind _ _) ?N ?m ?T ?lo ?hk ?hv ?_; (case N => k_asm); (case m => ktr_rel); (case T => assumption); (case lo => assumption); (case hk => exact isB _ _ _ _); (case hv => assumption))
  | (refine' my_notin_s (knd := bytesKind _ _) ?N ?m ?T ?lo ?hk ?hv ?_; (case N => k_asm); (case m => ktr_rel); (case T => assumption); (case lo => assumption); (case hk => exact isB _ _ _ _); (case hv => assumption)))))
local macro_rules | `(tactic| walk_at "setItem ref bytes") => `(tactic| (k_here; k_dflt (refine' my_set (knd := bytesKind _ _) ?F ?N ?U ?T ?hk ?z ?_; (case F => k_asm); (case N => k_asm); (case U => first | assumption | k_updF); (case T => assumption); (case hk => exact isB _ _ _ _); (case z => first | assumption | omega); intro h' o' F' N' T')))
local macro_rules | `(tactic| walk_at "subscriptTail") => `(tactic| (k_here; (with_reducible show wpAny _ _ (subscriptTail _ _ (Value.ref _) (Value.bytes _ _)) _ _ _); k_dflt (refine' my_tail (knd := bytesKind _ _) ?N ?m ?T ?hk ?hv ?_; (case N => k_asm); (case m => ktr_rel); (case T => assumption); (case hk => exact isB _ _ _ _); (case hv => first | assumption | exact get_put_self _ _ _); intro t')))
local macro_rules | `(tactic| walk_at "call builtin:len") => `(tactic| (k_here; (with_reducible show wpAny _ _ (call (Value.builtin "len") [Value.ref _]) _ _ _); k_dflt (first
  | (refine' my_len (knd := bytesKind _ _) ?N ?m ?T ?lo ?z ?_; (case N => k_asm); (case m => ktr_rel); (case T => assumption); (case lo => assumption); (case z => first | assumption | omega); intro t' k')
  | (refine' my_len (knd := intKind _ _) ?N ?m ?T ?lo ?z ?_; (case N => k_asm); (case m => ktr_rel); (case T => assumption); (case lo => assumption); (case z => first | assumption | omega); intro t' k'))))
local macro_rules | `(tactic| walk_at "call builtin:int.to_bytes") => `(tactic| (k_here; (with_reducible show wpAny _ _ (call (Value.builtin "int.to_bytes") [Value.int _ _, Value.int _ _, Value.str _ _]) _ _ _); k_dflt (refine' my_tobytesI ?a ?b ?c ?d ?_; (case a => omega); (case b => omega); (case c => omega); (case d => first | assumption | omega); intro t' k')))
local macro_rules | `(tactic| walk_at "call builtin:int.to_bytes") => `(tactic| (k_here; (with_reducible show wpAny _ _ (call (Value.builtin "int.to_bytes") [Value.int _ _, Value.int 32 _, Value.str _ _]) _ _ _); k_dflt (refine' my_tobytes32 ?c ?d ?_; (case c => omega); (case d => omega); intro t' k')))
local macro_rules | `(tactic| k_all) => `(tactic| first | assumption | exact OwnOff.ne (by assumption) (by k_memK))
local macro_rules | `(tactic| ktr_unf) => `(tactic| ((try dsimp only [ktrTop, Around.deeper, Around.mark, Around.in1]); omega))
local macro_rules | `(tactic| tb_rel) => `(tactic| first | assumption | exact HashFn.mono (by assumption) (by intro p hp; ktr_rel))
local macro_rules | `(tactic| walk_at "callWith ref") => `(tactic| (k_here; k_dflt (refine' callWith_F ?X ?_; (case X => exact FnAt.hash (by k_asm) (by tb_rel)); k_whole)))
local macro_rules | `(tactic| walk_at "And") => `(tactic| ((with_reducible show FnAt _ _ ∧ _); k_dflt (refine ⟨FnAt.hash (by k_asm) (by tb_rel), ?_⟩); (try dsimp only [List.nil_append, List.cons_append])))
local macro_rules | `(tactic| walk_at "call ref") => `(tactic| (k_here; (with_reducible show wpAny _ _ (call (Value.ref _) [Value.bytes _ _]) _ _ _); k_dflt (refine' hash_call ?k1 ?k2 ?k3 ?k4 ?k5 ?k6 ?k7 ?k8 ?k9 ?ka ?kb ?kc ?kd ?_; (case k1 => k_asm); (case k2 => k_asm); (case k3 => k_asm); (case k4 => k_asm); (case k5 => k_asm); (case k6 => first | exact rfl | assumption); (case k7 => ktr_unf); (case k8 => ktr_unf); (case k9 => tb_rel); (case ka => k_updF); (case kb => assumption); (case kc => omega); (case kd => assumption); intro h' tk' t' o' B' n F' N' hB' hp' hl' hn')))
local macro_rules | `(tactic| walk_at "exec For Name Call cons nil") => `(tactic| (k_here; (rename Fr _ _ _ _ => lF'); (with_unfolding_all refine' For_invVF lF' ?k1 ?k2 ?_; (case k1 => exact rfl); (case k2 => exact rfl); k_whole)))
local macro_rules | `(tactic| walk_at "exec For Name Name cons nil") => `(tactic| (k_here; (rename Fr _ _ _ _ => lF'); (with_unfolding_all refine' For_invVF lF' ?k1 ?k2 ?_; (case k1 => exact rfl); (case k2 => exact rfl); k_whole)))
local macro_rules | `(tactic| walk_at "exec For Name Subscript cons nil") => `(tactic| (k_here; (rename Fr _ _ _ _ => lF'); (with_unfolding_all refine' For_invVF lF' ?k1 ?k2 ?_; (case k1 => exact rfl); (case k2 => exact rfl); k_whole)))
local macro_rules | `(tactic| walk_at "pyIter ref") => `(tactic| ((with_reducible show wpAny _ _ (pyIter (Value.ref _)) (fun it s₂ => LoopAtV _ _ _ _ _ _ _ _ _ it s₂) _ _); refine Stop.of ?_))
local macro_rules | `(tactic| walk_at "newList") => `(tactic| (k_here; k_dflt (refine' my_newList ?F ?N ?_ ?z; (case F => k_asm); (case N => k_asm); (case z => size_fits); intro l' o' h' F' N' hl' hv')))
local macro_rules | `(tactic| walk_at "getMethod ref") => `(tactic| (k_here; k_dflt (first | (refine' my_appmB ?N ?m ?v ?_; (case N => k_asm); (case m => ktr_rel); (case v => assumption)) | (refine' my_appm ?N ?m ?v ?_; (case N => k_asm); (case m => ktr_rel); (case v => assumption)))))
local macro_rules | `(tactic| walk_at "call builtin:list.append") => `(tactic| (k_here; k_dflt (first
  | ((with_reducible show wpAny _ _ (call (Value.builtin _) [Value.ref _, Value.bytes _ _]) _ _ _); refine' my_appendB ?F ?N ?U ?v ?z ?_; (case F => k_asm); (case N => k_asm); (case U => k_updF); (case v => assumption); (case z => omega); intro h' o' F' N' hv')
  | (refine' my_append ?F ?N ?U ?v ?z ?_; (case F => k_asm); (case N => k_asm); (case U => k_updF); (case v => assumption); (case z => omega); intro h' o' F' N' hv'))))
local macro_rules | `(tactic| walk_at "subscriptTail") => `(tactic| (k_here; (with_reducible show wpAny _ _ (subscriptTail _ _ (Value.ref _) (Value.int _ _)) _ _ _); k_dflt (refine' my_lgetB ?N ?m ?v ?z ?p ?x ?_; (case N => k_asm); (case m => ktr_rel); (case v => assumption); (case z => omega); (case p => omega); (case x => first | assumption | (dsimp only; assumption)); intro t')))
local macro_rules | `(tactic| walk_at "binaryOp Add bytes bytes") => `(tactic| (k_here; k_dflt (refine' my_addB ?z ?_; (case z => simp only [List.size_toArray]; omega); intro t' k')))
/-! ### _law_empties -/
structure Emp (B : List By) (d : By) (es : List By) : Prop where
  zero : ∃ x, es[0]? = some x ∧ Named B d x
  step : ∀ k x y, es[k]? = some x → es[k + 1]? = some y → Named B (x ++ x) y
  len : ∀ x ∈ es, x.length = 32
theorem Emp.mono {B B' : List By} {d : By} {es : List By} (h : Emp B d es) (p : B <+: B') : Emp B' d es :=
  ⟨let ⟨x, a, b⟩ := h.zero; ⟨x, a, b.mono p⟩, fun k x y a b => (h.step k x y a b).mono p, h.len⟩
theorem Emp.one {B : List By} {d x : By} (h : Named B d x) : Emp B d [x] :=
  ⟨⟨x, rfl, h⟩, fun k x y a b => by simp at b, fun y hy => by rw [List.mem_singleton.mp hy]; exact h.length⟩
theorem Emp.snoc {B : List By} {d x y : By} {es : List By} (h : Emp B d es) {k : Nat} (hk : es.length = k + 1) (hx : es[k]? = some x) (hy : Named B (x ++ x) y) : Emp B d (es ++ [y]) := by
  refine ⟨?_, fun i u v a b => ?_, fun z hz => ?_⟩
  · obtain ⟨z, a, b⟩ := h.zero
    exact ⟨z, by rw [List.getElem?_append_left (by omega)]; exact a, b⟩
  · by_cases q : i + 1 < es.length
    · rw [List.getElem?_append_left (by omega)] at a
      rw [List.getElem?_append_left q] at b
      exact h.step i u v a b
    · have hi : i + 1 < (es ++ [y]).length := (List.getElem?_eq_some_iff.mp b).1
      rw [List.length_append, List.length_singleton] at hi
      have e : i = k := by omega
      subst e
      rw [List.getElem?_append_left (by omega), hx] at a
      rw [List.getElem?_append_right (by omega), hk, Nat.sub_self] at b
      cases a; cases b; exact hy
  · rcases List.mem_append.mp hz with hz | hz
    · exact h.len z hz
    · rw [List.mem_singleton.mp hz]; exact hy.length
section
variable {prog : Program} {w : World} {p : Program} {loose : List Str} {mean : ExcName → Option Value} {mg mb : Str → Option Value} {dp un : Nat} {gd : Option (List Code)} {cn : Str} {cs : Scope} {a : Addr} {ccd : Value} {cl : List (Str × Addr)} {outer : List Env} {A₀ : Around} {base h₀ : Heap} {L : Addr} {m : Str → Option Value} {s : Shared} {Q E : Value → Shared → Prop}
def EmpJ (prog : Program) (w : World) (bk : Addr) (B : List By) (d : By) (m₀ : Str → Option Value) (fr₀ : Led) (i : Nat) (m : Str → Option Value) (fr : Led) : Prop :=
  ∃ u le ol₀ o₀ ol o B' es, m = (fun z => if z = Str.ofString "k" then u else m₀ z) ∧ fr₀ = [(le, ol₀), (bk, o₀)] ∧ fr = [(le, ol), (bk, o)] ∧ Book (prog := prog) (w := w) o B' ∧ B <+: B' ∧ B'.length ≤ B.length + 1 + i ∧ ListB ol es ∧ es.length = i + 1 ∧ Emp B' d es
theorem upd_self {m : Str → Option Value} {x : Str} : m = fun z => if z = x then m x else m z := by
  funext z; by_cases h : z = x <;> simp [h]
theorem upd_upd {m : Str → Option Value} {x : Str} {u v : Option Value} : (fun y => if y = x then v else (fun z => if z = x then u else m z) y) = fun z => if z = x then v else m z := by
  funext z; by_cases h : z = x <;> simp [h]
theorem ListV.one {o : Obj} {b : Array UInt8} {t : Tok} (h : ListV o [.bytes b t]) : ListB o [b.toList] := ⟨_, h, .cons .nil⟩
theorem small_range {n : Int} (h0 : 0 ≤ n) (h1 : n < 1000000) : Builtin.Range.small 0 n 1 = true ∧ Builtin.Range.rangeSize 0 n 1 = (n.toNat : Int) := by
  refine ⟨small_one (by decide) (by decide) (by omega) (by omega), ?_⟩
  rw [rangeSize_one]
  split <;> omega
theorem empties_call {f bk : Addr} {o : Obj} {B : List By} {b : Array UInt8} {t td : Tok} {depth : Int} {rest : Led} (Bl : Below A₀ base outer h₀) (F : Fr h₀ L s.heap m) (X : (hd.heap_39 w.params).In h₀) (T : Top p loose mean mg mb h₀) (hk : cs.kind = .function) (hdp : dp + 5 < recursionLimit) (hun : un + 40 < cLine)
    (N : News h₀ L s.heap ((bk, o) :: rest)) (hoff : OwnOff rest [bk]) (H : HashFn rest f bk) (hB : Book (prog := prog) (w := w) o B) (hlen : B.length < 900000) (hlo : (bk == sysModules) = false) (hd0 : 0 ≤ depth) (hd1 : depth ≤ 256)
    (ret : ∀ h' tk' le ol o' B' es, Fr h₀ L h' m → News h₀ L h' ((le, ol) :: (bk, o') :: rest) → @LT.lt Nat _ bk le → (∀ p ∈ rest, @LT.lt Nat _ p.1 le) → Book (prog := prog) (w := w) o' B' → B <+: B' → B'.length ≤ B.length + 1 + depth.toNat → ListB ol es → es.length = depth.toNat + 1 → Emp B' b.toList es → Q (.ref le) { s with heap := h', toks := tk' }) :
    wpAny (model prog w) (ktrTop dp un gd cn cs L a ccd cl outer) (call (.ref 179) [.bytes b t, .int depth td, .ref f]) Q E s := by
  refine wpAny_call ?_
  k_dflt (refine' code_def (binds := [((Str.ofString "default"), .bytes b t), ((Str.ofString "depth"), .int depth td), ((Str.ofString "hash_of"), .ref f)]) ?k1 ?k2 ?k3 ?k4 ?k5 ?kA ?kF ?kK ?k6 ?k7 ?k8 ?k9 ?kB ?_ ?c2 ?c3 ?c4 ?c5; (case kA => exact rfl); (case kF => exact rfl); (case kK => assumption); (case k1 => k_asm); (case k2 => k_asm); (case k3 => k_asm); (case k4 => k_asm); (case k5 => k_asm); (case k6 => k_is); (case k7 => k_is); (case k8 => exact Nat.lt_of_le_of_lt (Nat.le_add_right _ _) hdp); (case k9 => exact BindsTo.of_eq rfl); (case c5 => decide); (case kB => exact locs rfl); (case c2 => exact rfl); (case c3 => exact rfl); (case c4 => exact rfl); intro g' L' h' FG' F' N' B' X' T')
  k_steps
  rename IsRange _ _ _ _ _ _ _ _ => hR
  rename Fr g' _ _ _ => hF
  rename News g' _ _ _ => hN
  rename ListV _ _ => hv
  rename (∀ p, p ∈ _ → Prod.fst p < _) => hlt
  rename Named _ _ _ => hnm
  rename Book _ _ => hBk
  rename _ <+: _ => hpre
  have hlt1 : @LT.lt Nat _ bk _ := hlt _ (List.Mem.head _)
  have hlt2 := fun p hp => hlt p (List.Mem.tail _ hp)
  have hsr := small_range hd0 (Int.lt_of_le_of_lt hd1 (by decide))
  refine Stop.get (iter_range (n := depth.toNat) (fr₀ := [(_, _), (_, _)]) (rest := rest) (EmpJ prog w bk B b.toList) rfl hR hsr.1 hsr.2 hF hN ?off ?j0 ?turn ?done)
  case off =>
    intro p hp b hb
    rcases List.mem_cons.mp hb with rfl | hb
    · exact Nat.ne_of_lt (hlt2 p hp)
    · exact hoff p hp b hb
  case j0 => exact ⟨_, _, _, _, _, _, _, _, upd_self, rfl, rfl, hBk, hpre, by assumption, ListV.one hv, rfl, by simpa using Emp.one hnm⟩
  case turn =>
    rintro i t m₁ fr rest' h tk hi ⟨u, le, ol₀, o₀, ol, o, B', es, rfl, e0, rfl, hB1, hp1, hl1, hv1, hlen1, he1⟩ ho hs F₁ N₁
    simp only [List.cons.injEq, Prod.mk.injEq, and_true, true_and] at e0
    obtain ⟨⟨rfl, rfl⟩, rfl⟩ := e0
    have H' := H.mono hs
    simp only [List.map_cons, List.map_nil] at ho
    obtain ⟨x, hx⟩ : ∃ x, es[(0 + (i : Int)).toNat]? = some x := ⟨_, List.getElem?_eq_getElem (by omega)⟩
    have hxl := he1.len x (List.mem_of_getElem? hx)
    rw [upd_upd] at F₁
    simp only [List.cons_append, List.nil_append] at N₁
    k_steps
    rename Named _ _ _ => hn1
    rename _ <+: _ => hp2
    rename Book _ _ => hB2
    rename ListB _ _ => hv2
    simp only [Array.toList_append, List.toList_toArray] at hn1 hv2
    refine ⟨_, _, _, _, _, rfl, by assumption, by assumption, ?a, ?b, ?c, _, _, _, _, _, _, _, _, rfl, rfl, rfl, hB2, hp1.trans hp2, by omega, hv2, by simp [hlen1], (he1.mono hp2).snoc (k := i) hlen1 (by simpa using hx) hn1⟩
    case a => exact fun p hp => List.mem_append_left rest' hp
    case b => exact fun p hp => List.mem_append_right [_, _] hp
    case c => exact ho
  case done =>
    rintro m₁ fr h tk ⟨u, le, ol₀, o₀, ol, o, B', es, rfl, e0, rfl, hB1, hp1, hl1, hv1, hlen1, he1⟩ ho F₁ N₁
    simp only [List.cons.injEq, Prod.mk.injEq, and_true, true_and] at e0
    obtain ⟨⟨rfl, rfl⟩, rfl⟩ := e0
    simp only [List.cons_append, List.nil_append] at N₁
    k_steps
    refine ret _ _ _ ol o B' es (by assumption) (by assumption) hlt1 hlt2 hB1 hp1 (by omega) hv1 (by omega) he1
end
end
section
theorem off_8 : True := by
  w_top off
  trivial
/-! ### _law_levels -/
theorem dict_nil {prog : Program} {w : World} {K K' : Type} [DecidableEq K] [DecidableEq K'] {knd : KeyKind prog w K} {knd' : KeyKind prog w K'} {o : Obj} (h : o.IsDictOf knd []) : Tab knd' o [] := by
  obtain ⟨es, ep, h1, h2, h3, h4, h5⟩ := h
  have e : es.toList = [] := by cases q : es.toList with | nil => rfl | cons x y => rw [q] at h4; cases h4
  have e' : es = #[] := by rwa [Array.toList_eq_nil_iff] at e
  subst e'
  exact ⟨[], ⟨#[], ep, h1, h2, fun e he => by simp at he, .nil, .nil⟩, .nil⟩
theorem my_newDict {prog : Program} {w : World} {A : Around} {E : Value → Shared → Prop} {s : Shared} {h₀ : Heap} {L : Addr} {m mg mb : Str → Option Value} {p : Program} {loose : List Str} {mean : ExcName → Option Value} {news : Led} {env : Env} {pos : Pos} {Q : Value → Shared → Prop}
    (F : Fr h₀ L s.heap m) (N : News h₀ L s.heap news) (T : Top p loose mean mg mb h₀)
    (h : ∀ d o h', Fr h₀ L h' m → News h₀ L h' ((d, o) :: news) → (∀ p ∈ news, p.1 < d) → (d == sysModules) = false → Tab (intKind prog w) o [] → Tab (bytesKind prog w) o [] → Q (.ref d) { s with heap := h' }) :
    wpAny (model prog w) A (eval (.Dict [] [] pos) env) Q E s :=
  newDict_K F N T.nolimit fun d h' o F' N' hl lo hs _ _ _ => h d o h' F' N' hl lo (dict_nil hs) (dict_nil hs)

def ovr : List (Str × Option Value) → (Str → Option Value) → Str → Option Value
  | [], m₀ => m₀
  | (n, v) :: r, m₀ => fun z => if z = n then v else ovr r m₀ z
theorem ovr_at (m m₀ : Str → Option Value) : ∀ (l : List Str) (z : Str), (z ∉ l → m z = m₀ z) → ovr (l.map fun n => (n, m n)) m₀ z = m z
  | [], z, h => (h (by simp)).symm
  | n :: r, z, h => by
    show (if z = n then m n else ovr (r.map fun n => (n, m n)) m₀ z) = m z
    by_cases e : z = n
    · rw [if_pos e, e]
    · rw [if_neg e]
      exact ovr_at m m₀ r z fun hz => h (by simp [e, hz])
theorem ovr_of {m m₀ : Str → Option Value} (l : List Str) (h : ∀ z, z ∉ l → m z = m₀ z) : m = ovr (l.map fun n => (n, m n)) m₀ := by
  funext z; exact (ovr_at m m₀ l z (h z)).symm

def gd {K : Type} [DecidableEq K] (D : List (K × By)) (k : K) (e : By) : By := (get D k).getD e
/-- the hashed leaves -/
def Lev0 (B : List By) (HD D : List (Int × By)) : Prop := ∀ k, (get HD k = none ∧ get D k = none) ∨ ∃ y n, get HD k = some y ∧ get D k = some n ∧ Named B y n
/-- one level above another -/
def Above (B : List By) (D : List (Int × By)) (e : By) (A : List (Int × By)) : Prop :=
  ∀ q, (∃ n, get A q = some n ∧ Named B (gd D (q * 2) e ++ gd D (q * 2 + 1) e) n) ∨ (get A q = none ∧ get D (q * 2) = none ∧ get D (q * 2 + 1) = none)
def Len32 (D : List (Int × By)) : Prop := ∀ k x, get D k = some x → x.length = 32
structure Levels (B : List By) (HD : List (Int × By)) (es : List By) (Ds : List (List (Int × By))) : Prop where
  zero : ∃ D, Ds[0]? = some D ∧ Lev0 B HD D
  step : ∀ h D A e, Ds[h]? = some D → Ds[h + 1]? = some A → es[h]? = some e → Above B D e A
  len : ∀ D ∈ Ds, Len32 D
theorem Lev0.mono {B B' : List By} {HD D : List (Int × By)} (h : Lev0 B HD D) (p : B <+: B') : Lev0 B' HD D := fun k => (h k).imp id fun ⟨y, n, a, b, c⟩ => ⟨y, n, a, b, c.mono p⟩
theorem Above.mono {B B' : List By} {D A : List (Int × By)} {e : By} (h : Above B D e A) (p : B <+: B') : Above B' D e A := fun q => (h q).imp (fun ⟨n, a, c⟩ => ⟨n, a, c.mono p⟩) id
theorem Levels.mono {B B' : List By} {HD : List (Int × By)} {es : List By} {Ds : List (List (Int × By))} (h : Levels B HD es Ds) (p : B <+: B') : Levels B' HD es Ds :=
  ⟨let ⟨D, a, b⟩ := h.zero; ⟨D, a, b.mono p⟩, fun h' D A e a b c => (h.step h' D A e a b c).mono p, h.len⟩
theorem Levels.one {B : List By} {HD D : List (Int × By)} {es : List By} (h : Lev0 B HD D) : Levels B HD es [D] :=
  ⟨⟨D, rfl, h⟩, fun k x y e a b => by simp at b, fun D' hD' k x hx => by
    rw [List.mem_singleton.mp hD'] at hx
    rcases h k with ⟨_, q⟩ | ⟨y, n, _, q, nm⟩
    · rw [q] at hx; cases hx
    · rw [q] at hx; cases hx; exact nm.length⟩
theorem Above.len {B : List By} {D A : List (Int × By)} {e : By} (h : Above B D e A) : Len32 A := fun k x hx => by
  rcases h k with ⟨n, q, nm⟩ | ⟨q, _⟩
  · rw [q] at hx; cases hx; exact nm.length
  · rw [q] at hx; cases hx
theorem Levels.snoc {B : List By} {HD D A : List (Int × By)} {es : List By} {Ds : List (List (Int × By))} {e : By} (h : Levels B HD es Ds) {k : Nat} (hk : Ds.length = k + 1) (hx : Ds[k]? = some D) (he : es[k]? = some e) (ha : Above B D e A) : Levels B HD es (Ds ++ [A]) := by
  refine ⟨?_, fun i u v e' a b c => ?_, fun D' hD' => ?_⟩
  · obtain ⟨z, a, b⟩ := h.zero
    exact ⟨z, by rw [List.getElem?_append_left (by omega)]; exact a, b⟩
  · by_cases q : i + 1 < Ds.length
    · rw [List.getElem?_append_left (by omega)] at a
      rw [List.getElem?_append_left q] at b
      exact h.step i u v e' a b c
    · have hi : i + 1 < (Ds ++ [A]).length := (List.getElem?_eq_some_iff.mp b).1
      rw [List.length_append, List.length_singleton] at hi
      have e2 : i = k := by omega
      subst e2
      rw [List.getElem?_append_left (by omega), hx] at a
      rw [List.getElem?_append_right (by omega), hk, Nat.sub_self] at b
      rw [he] at c
      cases a; cases b; cases c; exact ha
  · rcases List.mem_append.mp hD' with h' | h'
    · exact h.len D' h'
    · rw [List.mem_singleton.mp h']; exact ha.len
theorem get_take_none {D : List (Int × By)} (hn : (D.map (·.1)).Nodup) {i : Nat} {k : Int} {y : By} (h : D[i]? = some (k, y)) : k ∉ (D.take i).map (·.1) := by
  intro hm
  obtain ⟨p, hp, e⟩ := List.mem_map.mp hm
  obtain ⟨j, hj, rfl⟩ := List.mem_iff_getElem.mp hp
  rw [List.length_take] at hj
  rw [List.getElem_take] at e
  obtain ⟨hi, hie⟩ := List.getElem?_eq_some_iff.mp h
  have := (List.getElem_inj (xs := D.map (·.1)) (i := j) (j := i) (h₀ := by simp; omega) (h₁ := by simpa using hi) hn).mp (by simp [hie, e])
  omega
theorem get_of_nth {D : List (Int × By)} (hn : (D.map (·.1)).Nodup) {i : Nat} {k : Int} {y : By} (h : D[i]? = some (k, y)) : get D k = some y := by
  have hm : k ∈ D.map (·.1) := List.mem_map.mpr ⟨_, List.mem_of_getElem? h, rfl⟩
  obtain ⟨z, hz⟩ := Option.isSome_iff_exists.mp ((get_isSome D k).mpr hm)
  have hmem := get_mem hz
  obtain ⟨j, hj, e⟩ := List.mem_iff_getElem.mp hmem
  obtain ⟨hi, hie⟩ := List.getElem?_eq_some_iff.mp h
  have := (List.getElem_inj (xs := D.map (·.1)) (i := j) (j := i) (h₀ := by simpa using hj) (h₁ := by simpa using hi) hn).mp (by simp [hie, e])
  subst this
  rw [e] at hie; cases hie; exact hz
/-- the leaves' loop -/
def Part0 (B : List By) (HD D : List (Int × By)) (i : Nat) : Prop := ∀ k, if k ∈ (HD.take i).map (·.1) then ∃ y n, get HD k = some y ∧ get D k = some n ∧ Named B y n else get D k = none
theorem Part0.zero (B : List By) (HD : List (Int × By)) : Part0 B HD [] 0 := fun k => by simp [get]
theorem Part0.next {B B' : List By} {HD D : List (Int × By)} {i : Nat} {k : Int} {y n : By} (hn : (HD.map (·.1)).Nodup) (h : Part0 B HD D i) (p : B <+: B') (hk : HD[i]? = some (k, y)) (hm : Named B' y n) : Part0 B' HD (put D k n) (i + 1) := fun k' => by
  have e : HD.take (i + 1) = HD.take i ++ [(k, y)] := by rw [List.take_add_one, hk]; rfl
  rw [e, List.map_append]
  by_cases q : k' = k
  · subst q
    rw [if_pos (by simp)]
    exact ⟨y, n, get_of_nth hn hk, get_put_self _ _ _, hm⟩
  · have := h k'
    rw [get_put_ne _ _ q]
    by_cases r : k' ∈ (HD.take i).map (·.1)
    · rw [if_pos r] at this
      rw [if_pos (List.mem_append_left _ r)]
      obtain ⟨y', n', a, b, c⟩ := this
      exact ⟨y', n', a, b, c.mono p⟩
    · rw [if_neg r] at this
      rw [if_neg (by simp only [List.mem_append, r, false_or, List.map_cons, List.map_nil, List.mem_singleton, q, not_false_eq_true])]
      exact this
theorem Part0.done {B : List By} {HD D : List (Int × By)} (h : Part0 B HD D HD.length) : Lev0 B HD D := fun k => by
  have := h k
  rw [List.take_length] at this
  by_cases r : k ∈ HD.map (·.1)
  · rw [if_pos r] at this; exact .inr this
  · rw [if_neg r] at this
    refine .inl ⟨?_, this⟩
    cases q : get HD k with
    | none => rfl
    | some y => exact absurd ((get_isSome HD k).mp (by rw [q]; rfl)) r
/-- the loop of one level -/
def Part1 (B : List By) (D : List (Int × By)) (e : By) (A : List (Int × By)) (i : Nat) : Prop :=
  ∀ q, if q ∈ (D.take i).map (fun p => p.1.fdiv 2) then ∃ n, get A q = some n ∧ Named B (gd D (q * 2) e ++ gd D (q * 2 + 1) e) n else get A q = none
theorem Part1.zero (B : List By) (D : List (Int × By)) (e : By) : Part1 B D e [] 0 := fun k => by simp [get]
theorem Part1.next {B B' : List By} {D A : List (Int × By)} {e : By} {i : Nat} {k : Int} {y n : By} (h : Part1 B D e A i) (p : B <+: B') (hk : D[i]? = some (k, y)) (hm : Named B' (gd D (k.fdiv 2 * 2) e ++ gd D (k.fdiv 2 * 2 + 1) e) n) : Part1 B' D e (put A (k.fdiv 2) n) (i + 1) := fun q => by
  have e' : D.take (i + 1) = D.take i ++ [(k, y)] := by rw [List.take_add_one, hk]; rfl
  rw [e', List.map_append]
  by_cases r : q = k.fdiv 2
  · subst r
    rw [if_pos (by simp)]
    exact ⟨n, get_put_self _ _ _, hm⟩
  · have := h q
    rw [get_put_ne _ _ r]
    by_cases z : q ∈ (D.take i).map (fun p => p.1.fdiv 2)
    · rw [if_pos z] at this
      rw [if_pos (List.mem_append_left _ z)]
      obtain ⟨n', b, c⟩ := this
      exact ⟨n', b, c.mono p⟩
    · rw [if_neg z] at this
      rw [if_neg (by simp only [List.mem_append, z, false_or, List.map_cons, List.map_nil, List.mem_singleton, r, not_false_eq_true])]
      exact this
theorem Part1.done {B : List By} {D A : List (Int × By)} {e : By} (h : Part1 B D e A D.length) : Above B D e A := fun q => by
  have := h q
  rw [List.take_length] at this
  by_cases r : q ∈ D.map (fun p => p.1.fdiv 2)
  · rw [if_pos r] at this; exact .inl this
  · rw [if_neg r] at this
    have none_of : ∀ k, k.fdiv 2 = q → get D k = none := fun k hk => by
      cases z : get D k with
      | none => rfl
      | some y => exact absurd (List.mem_map.mpr ⟨(k, y), get_mem z, hk⟩) r
    exact .inr ⟨this, none_of _ (by rw [Int.fdiv_eq_ediv_of_nonneg _ (by decide)]; omega), none_of _ (by rw [Int.fdiv_eq_ediv_of_nonneg _ (by decide)]; omega)⟩
end
section
local macro_rules | `(tactic| walk_at "no such key 9") => `(tactic| fail)
theorem off_10 : True := by
  w_top off
  trivial
local macro_rules | `(tactic| ktr_rel) => `(tactic| first | assumption | (apply_assumption; done) | exact List.Mem.head _ | (refine List.Mem.tail _ ?_; ktr_rel) | (refine List.mem_append_left _ ?_; ktr_rel) | (refine List.mem_append_right _ ?_; ktr_rel))
local macro_rules | `(tactic| walk_at "eval Name") => `(tactic| (k_here; kc_free; k_dflt (refine' nameX_F ?N ?c ?m ?d ?_ ?a ?b; (case a => rfl); (case b => rfl); (case N => k_asm); (case c => rfl); (case m => ktr_rel); (case d => assumption))))
local macro_rules | `(tactic| walk_at "compareOp NotIn bytes ref") => `(tactic| (k_here; k_dflt (first
  | (refine' my_notin_n (knd := bytesKind _ _) ?N ?m ?T ?lo ?hk ?hv ?_; (case N => k_asm); (case m => ktr_rel); (case T => assumption); (case lo => assumption); (case hk => exact isB _ _ _ _); (case hv => assumption))
  | (refine' my_notin_s (knd := bytesKind _ _) ?N ?m ?T ?lo ?hk ?hv ?_; (case N => k_asm); (case m => ktr_rel); (case T => assumption); (case lo => assumption); (case hk => exact isB _ _ _ _); (case hv => assumption)))))
local macro_rules | `(tactic| walk_at "setItem ref bytes") => `(tactic| (k_here; k_dflt (refine' my_set (knd := bytesKind _ _) ?F ?N ?U ?T ?hk ?z ?_; (case F => k_asm); (case N => k_asm); (case U => first | assumption | k_updF); (case T => assumption); (case hk => exact isB _ _ _ _); (case z => first | assumption | omega); intro h' o' F' N' T')))
local macro_rules | `(tactic| walk_at "subscriptTail") => `(tactic| (k_here; (with_reducible show wpAny _ _ (subscriptTail _ _ (Value.ref _) (Value.bytes _ _)) _ _ _); k_dflt (refine' my_tail (knd := bytesKind _ _) ?N ?m ?T ?hk ?hv ?_; (case N => k_asm); (case m => ktr_rel); (case T => assumption); (case hk => exact isB _ _ _ _); (case hv => first | assumption | exact get_put_self _ _ _); intro t')))
local macro_rules | `(tactic| walk_at "call builtin:len") => `(tactic| (k_here; (with_reducible show wpAny _ _ (call (Value.builtin "len") [Value.ref _]) _ _ _); k_dflt (first
  | (refine' my_len (knd := bytesKind _ _) ?N ?m ?T ?lo ?z ?_; (case N => k_asm); (case m => ktr_rel); (case T => assumption); (case lo => assumption); (case z => first | assumption | omega); intro t' k')
  | (refine' my_len (knd := intKind _ _) ?N ?m ?T ?lo ?z ?_; (case N => k_asm); (case m => ktr_rel); (case T => assumption); (case lo => assumption); (case z => first | assumption | omega); intro t' k'))))
local macro_rules | `(tactic| walk_at "call builtin:int.to_bytes") => `(tactic| (k_here; (with_reducible show wpAny _ _ (call (Value.builtin "int.to_bytes") [Value.int _ _, Value.int _ _, Value.str _ _]) _ _ _); k_dflt (refine' my_tobytesI ?a ?b ?c ?d ?_; (case a => omega); (case b => omega); (case c => omega); (case d => first | assumption | omega); intro t' k')))
local macro_rules | `(tactic| walk_at "call builtin:int.to_bytes") => `(tactic| (k_here; (with_reducible show wpAny _ _ (call (Value.builtin "int.to_bytes") [Value.int _ _, Value.int 32 _, Value.str _ _]) _ _ _); k_dflt (refine' my_tobytes32 ?c ?d ?_; (case c => omega); (case d => omega); intro t' k')))
local macro_rules | `(tactic| k_all) => `(tactic| first | assumption | exact OwnOff.ne (by assumption) (by k_memK))
local macro_rules | `(tactic| ktr_unf) => `(tactic| ((try dsimp only [ktrTop, Around.deeper, Around.mark, Around.in1]); omega))
local macro_rules | `(tactic| tb_rel) => `(tactic| first | assumption | exact HashFn.mono (by assumption) (by intro p hp; ktr_rel))
local macro_rules | `(tactic| walk_at "callWith ref") => `(tactic| (k_here; k_dflt (refine' callWith_F ?X ?_; (case X => exact FnAt.hash (by k_asm) (by tb_rel)); k_whole)))
local macro_rules | `(tactic| walk_at "And") => `(tactic| ((with_reducible show FnAt _ _ ∧ _); k_dflt (refine ⟨FnAt.hash (by k_asm) (by tb_rel), ?_⟩); (try dsimp only [List.nil_append, List.cons_append])))
local macro_rules | `(tactic| walk_at "call ref") => `(tactic| (k_here; (with_reducible show wpAny _ _ (call (Value.ref _) [Value.bytes _ _]) _ _ _); k_dflt (refine' hash_call ?k1 ?k2 ?k3 ?k4 ?k5 ?k6 ?k7 ?k8 ?k9 ?ka ?kb ?kc ?kd ?_; (case k1 => k_asm); (case k2 => k_asm); (case k3 => k_asm); (case k4 => k_asm); (case k5 => k_asm); (case k6 => first | exact rfl | assumption); (case k7 => ktr_unf); (case k8 => ktr_unf); (case k9 => tb_rel); (case ka => k_updF); (case kb => assumption); (case kc => omega); (case kd => assumption); intro h' tk' t' o' B' n F' N' hB' hp' hl' hn')))
local macro_rules | `(tactic| walk_at "exec For Name Call cons nil") => `(tactic| (k_here; (rename Fr _ _ _ _ => lF'); (with_unfolding_all refine' For_invVF lF' ?k1 ?k2 ?_; (case k1 => exact rfl); (case k2 => exact rfl); k_whole)))
local macro_rules | `(tactic| walk_at "exec For Name Name cons nil") => `(tactic| (k_here; (rename Fr _ _ _ _ => lF'); (with_unfolding_all refine' For_invVF lF' ?k1 ?k2 ?_; (case k1 => exact rfl); (case k2 => exact rfl); k_whole)))
local macro_rules | `(tactic| walk_at "exec For Name Subscript cons nil") => `(tactic| (k_here; (rename Fr _ _ _ _ => lF'); (with_unfolding_all refine' For_invVF lF' ?k1 ?k2 ?_; (case k1 => exact rfl); (case k2 => exact rfl); k_whole)))
local macro_rules | `(tactic| walk_at "pyIter ref") => `(tactic| ((with_reducible show wpAny _ _ (pyIter (Value.ref _)) (fun it s₂ => LoopAtV _ _ _ _ _ _ _ _ _ it s₂) _ _); refine Stop.of ?_))
local macro_rules | `(tactic| walk_at "newList") => `(tactic| (k_here; k_dflt (refine' my_newList ?F ?N ?_ ?z; (case F => k_asm); (case N => k_asm); (case z => size_fits); intro l' o' h' F' N' hl' hv')))
local macro_rules | `(tactic| walk_at "getMethod ref") => `(tactic| (k_here; k_dflt (first | (refine' my_appmB ?N ?m ?v ?_; (case N => k_asm); (case m => ktr_rel); (case v => assumption)) | (refine' my_appm ?N ?m ?v ?_; (case N => k_asm); (case m => ktr_rel); (case v => assumption)))))
local macro_rules | `(tactic| walk_at "call builtin:list.append") => `(tactic| (k_here; k_dflt (first
  | ((with_reducible show wpAny _ _ (call (Value.builtin _) [Value.ref _, Value.bytes _ _]) _ _ _); refine' my_appendB ?F ?N ?U ?v ?z ?_; (case F => k_asm); (case N => k_asm); (case U => k_updF); (case v => assumption); (case z => omega); intro h' o' F' N' hv')
  | (refine' my_append ?F ?N ?U ?v ?z ?_; (case F => k_asm); (case N => k_asm); (case U => k_updF); (case v => assumption); (case z => omega); intro h' o' F' N' hv'))))
local macro_rules | `(tactic| walk_at "subscriptTail") => `(tactic| (k_here; (with_reducible show wpAny _ _ (subscriptTail _ _ (Value.ref _) (Value.int _ _)) _ _ _); k_dflt (refine' my_lgetB ?N ?m ?v ?z ?p ?x ?_; (case N => k_asm); (case m => ktr_rel); (case v => assumption); (case z => omega); (case p => omega); (case x => first | assumption | (dsimp only; assumption)); intro t')))
local macro_rules | `(tactic| walk_at "binaryOp Add bytes bytes") => `(tactic| (k_here; k_dflt (refine' my_addB ?z ?_; (case z => simp only [List.size_toArray]; omega); intro t' k')))
local macro_rules | `(tactic| walk_at "eval Dict nil nil") => `(tactic| (k_here; k_dflt (refine' my_newDict ?F ?N ?T ?_; (case F => k_asm); (case N => k_asm); (case T => k_asm); intro d' o' h' F' N' hl' lo' TI' TB')))
local macro_rules | `(tactic| walk_at "setItem ref int") => `(tactic| (k_here; k_dflt (refine' my_set (knd := intKind _ _) ?F ?N ?U ?T ?hk ?z ?_; (case F => k_asm); (case N => k_asm); (case U => k_updF); (case T => assumption); (case hk => exact isI _ _ _ _); (case z => omega); intro h' o' F' N' T')))
local macro_rules | `(tactic| walk_at "subscriptTail") => `(tactic| (k_here; (with_reducible show wpAny _ _ (subscriptTail _ _ (Value.ref _) (Value.int _ _)) _ _ _); k_dflt (refine' my_tail (knd := intKind _ _) ?N ?m ?T ?hk ?hv ?_; (case N => k_asm); (case m => ktr_rel); (case T => assumption); (case hk => exact isI _ _ _ _); (case hv => assumption); intro t')))
local macro_rules | `(tactic| walk_at "getMethod ref") => `(tactic| (k_here; k_dflt (first
  | (refine' my_getm (knd := intKind _ _) ?N ?m ?T ?_; (case N => k_asm); (case m => ktr_rel); (case T => assumption))
  | (refine' my_getm (knd := bytesKind _ _) ?N ?m ?T ?_; (case N => k_asm); (case m => ktr_rel); (case T => assumption)))))
local macro_rules | `(tactic| walk_at "call builtin:dict.get") => `(tactic| (k_here; (with_reducible show wpAny _ _ (call (Value.builtin _) [Value.ref _, Value.int _ _, Value.bytes _ _]) _ _ _); k_dflt (refine' my_get2 (knd := intKind _ _) ?N ?m ?T ?lo ?hk ?_; (case N => k_asm); (case m => ktr_rel); (case T => assumption); (case lo => assumption); (case hk => exact isI _ _ _ _); intro t' k')))
inductive LevT (prog : Program) (w : World) : Led → List (List (Int × By)) → Prop
  | nil : LevT prog w [] []
  | cons {a : Addr} {o : Obj} {D : List (Int × By)} {lvs : Led} {Ds : List (List (Int × By))} : Tab (intKind prog w) o D → (a == sysModules) = false → D.length ≤ 16 → LevT prog w lvs Ds → LevT prog w ((a, o) :: lvs) (D :: Ds)
theorem LevT.snoc {prog : Program} {w : World} {a : Addr} {o : Obj} {D : List (Int × By)} {lvs : Led} {Ds : List (List (Int × By))} (h : LevT prog w lvs Ds) (T : Tab (intKind prog w) o D) (lo : (a == sysModules) = false) (hz : D.length ≤ 16) : LevT prog w (lvs ++ [(a, o)]) (Ds ++ [D]) := by
  induction h with
  | nil => exact .cons T lo hz .nil
  | cons t l z _ ih => exact .cons t l z ih
theorem LevT.length {prog : Program} {w : World} {lvs : Led} {Ds : List (List (Int × By))} (h : LevT prog w lvs Ds) : lvs.length = Ds.length := by
  induction h with
  | nil => rfl
  | cons _ _ _ _ ih => simp [ih]
theorem LevT.at {prog : Program} {w : World} {lvs : Led} {Ds : List (List (Int × By))} (h : LevT prog w lvs Ds) {i : Nat} (hi : i < lvs.length) : ∃ a o D, lvs[i]? = some (a, o) ∧ Ds[i]? = some D ∧ Tab (intKind prog w) o D ∧ (a == sysModules) = false ∧ D.length ≤ 16 := by
  induction h generalizing i with
  | nil => simp at hi
  | @cons a o D lvs Ds t l z _ ih =>
    cases i with
    | zero => exact ⟨a, o, D, rfl, rfl, t, l, z⟩
    | succ i => simpa using ih (by simpa using hi)
section
variable {prog : Program} {w : World} {p : Program} {loose : List Str} {mean : ExcName → Option Value} {mg mb : Str → Option Value} {dp un : Nat} {gd : Option (List Code)} {cn : Str} {cs : Scope} {a : Addr} {ccd : Value} {cl : List (Str × Addr)} {outer : List Env} {A₀ : Around} {base h₀ : Heap} {L : Addr} {m : Str → Option Value} {s : Shared} {Q E : Value → Shared → Prop}
def Lv1J (prog : Program) (w : World) (bk : Addr) (B : List By) (HD : List (Int × By)) (m₀ : Str → Option Value) (fr₀ : Led) (i : Nat) (m : Str → Option Value) (fr : Led) : Prop :=
  ∃ u lv od₀ o₀ od o B' D, m = ovr [(Str.ofString "number", u)] m₀ ∧ [(lv, od₀), (bk, o₀)] = fr₀ ∧ fr = [(lv, od), (bk, o)] ∧ Book (prog := prog) (w := w) o B' ∧ B <+: B' ∧ B'.length ≤ B.length + i ∧ Tab (intKind prog w) od D ∧ D.length ≤ i ∧ Part0 B' HD D i
def Lv3J (prog : Program) (w : World) (bk : Addr) (B : List By) (D : List (Int × By)) (e : By) (m₀ : Str → Option Value) (fr₀ : Led) (i : Nat) (m : Str → Option Value) (fr : Led) : Prop :=
  ∃ u1 u2 u3 ab oab₀ o₀ oab o B' A, m = ovr [(Str.ofString "number", u1), (Str.ofString "left", u2), (Str.ofString "right", u3)] m₀ ∧ [(ab, oab₀), (bk, o₀)] = fr₀ ∧ fr = [(ab, oab), (bk, o)] ∧ Book (prog := prog) (w := w) o B' ∧ B <+: B' ∧ B'.length ≤ B.length + i ∧ Tab (intKind prog w) oab A ∧ A.length ≤ i ∧ Part1 B' D e A i
def Lv2J (prog : Program) (w : World) (bk : Addr) (B : List By) (HD : List (Int × By)) (es : List By) (rest : Led) (m₀ : Str → Option Value) (fr₀ : Led) (i : Nat) (m : Str → Option Value) (fr : Led) : Prop :=
  ∃ u1 u2 u3 u4 u5 a ll oll₀ o₀ lv₀ oll o B' lvs Ds oa, m = ovr [(Str.ofString "height", u1), (Str.ofString "above", u2), (Str.ofString "number", u3), (Str.ofString "left", u4), (Str.ofString "right", u5), (Str.ofString "level", some (.ref a))] m₀ ∧
    [(ll, oll₀), (bk, o₀), lv₀] = fr₀ ∧ fr = (ll, oll) :: (bk, o) :: lvs ∧ Book (prog := prog) (w := w) o B' ∧ B <+: B' ∧ B'.length ≤ B.length + 16 * (i + 1) ∧ ListV oll (lvs.map fun p => .ref p.1) ∧ LevT prog w lvs Ds ∧ lvs.length = i + 1 ∧ Levels B' HD es Ds ∧
    lvs[i]? = some (a, oa) ∧ (∀ p ∈ lvs, (∀ q ∈ rest, @LT.lt Nat _ q.1 p.1) ∧ @LT.lt Nat _ bk p.1 ∧ p.1 ≠ ll)
theorem levels_call {f bk he le : Addr} {o oh ol : Obj} {B : List By} {HD : List (Int × By)} {es : List By} {td : Tok} {depth : Int} {rest : Led} (Bl : Below A₀ base outer h₀) (F : Fr h₀ L s.heap m) (X : (hd.heap_39 w.params).In h₀) (T : Top p loose mean mg mb h₀) (hk : cs.kind = .function) (hdp : dp + 5 < recursionLimit) (hun : un + 40 < cLine)
    (N : News h₀ L s.heap ((bk, o) :: rest)) (hoff : OwnOff rest [bk]) (H : HashFn rest f bk) (hB : Book (prog := prog) (w := w) o B) (hlen : B.length < 900000) (hlo : (bk == sysModules) = false) (hd0 : 0 ≤ depth) (hd1 : depth ≤ 256)
    (hhe : (he, oh) ∈ rest) (hT : Tab (intKind prog w) oh HD) (hhl : (he == sysModules) = false) (hHD : HD.length ≤ 16) (hle : (le, ol) ∈ rest) (hes : ListB ol es) (hel : es.length = depth.toNat + 1) (he32 : ∀ x ∈ es, x.length = 32)
    (ret : ∀ h' tk' ll oll o' B' lvs Ds, Fr h₀ L h' m → News h₀ L h' ((ll, oll) :: (bk, o') :: (lvs ++ rest)) → @LT.lt Nat _ bk ll → (∀ p ∈ rest, @LT.lt Nat _ p.1 ll) → (∀ p ∈ lvs, (∀ q ∈ rest, @LT.lt Nat _ q.1 p.1) ∧ @LT.lt Nat _ bk p.1 ∧ p.1 ≠ ll) →
      Book (prog := prog) (w := w) o' B' → B <+: B' → B'.length ≤ B.length + 16 * (depth.toNat + 1) → ListV oll (lvs.map fun p => .ref p.1) → LevT prog w lvs Ds → lvs.length = depth.toNat + 1 → Levels B' HD es Ds → Q (.ref ll) { s with heap := h', toks := tk' }) :
    wpAny (model prog w) (ktrTop dp un gd cn cs L a ccd cl outer) (call (.ref 186) [.ref he, .int depth td, .ref le, .ref f]) Q E s := by
  have hnd := hT.nodup
  refine wpAny_call ?_
  k_dflt (refine' code_def (binds := [((Str.ofString "held"), .ref he), ((Str.ofString "depth"), .int depth td), ((Str.ofString "empty"), .ref le), ((Str.ofString "hash_of"), .ref f)]) ?k1 ?k2 ?k3 ?k4 ?k5 ?kA ?kF ?kK ?k6 ?k7 ?k8 ?k9 ?kB ?_ ?c2 ?c3 ?c4 ?c5; (case kA => exact rfl); (case kF => exact rfl); (case kK => assumption); (case k1 => k_asm); (case k2 => k_asm); (case k3 => k_asm); (case k4 => k_asm); (case k5 => k_asm); (case k6 => k_is); (case k7 => k_is); (case k8 => exact Nat.lt_of_le_of_lt (Nat.le_add_right _ _) hdp); (case k9 => exact BindsTo.of_eq rfl); (case c5 => decide); (case kB => exact locs rfl); (case c2 => exact rfl); (case c3 => exact rfl); (case c4 => exact rfl); intro g' L' h' FG' F' N' B' X' T')
  k_steps
  rename Fr g' _ _ _ => hF
  rename News g' _ _ _ => hN
  rename (∀ p, p ∈ _ → Prod.fst p < _) => hlt
  rename Tab (intKind _ _) _ [] => hT0
  have hlt1 : @LT.lt Nat _ bk _ := hlt _ (List.Mem.head _)
  have hlt2 : ∀ p ∈ rest, @LT.lt Nat _ p.1 _ := fun p hp => hlt p (List.Mem.tail _ hp)
  refine Stop.get (iter_keys (fr₀ := [(_, _), (_, _)]) (rest := rest) (Lv1J prog w bk B HD) rfl hhe hT hhl hF hN ?off ?j0 ?turn ?done)
  case off =>
    intro p hp b hb
    rcases List.mem_cons.mp hb with rfl | hb
    · exact Nat.ne_of_lt (hlt2 p hp)
    · exact hoff p hp b hb
  case j0 => exact ⟨_, _, _, _, _, _, _, _, ovr_of [Str.ofString "number"] (fun _ _ => rfl), rfl, rfl, hB, List.prefix_refl _, by omega, hT0, by simp, Part0.zero _ _⟩
  case turn =>
    rintro i v k y m₁ fr rest' h tk hDi hkey ⟨u, lv, od₀, o₀, od, o, B', D, rfl, e0, rfl, hB1, hp1, hl1, hT1, hD1, hP1⟩ ho hs F₁ N₁
    simp only [List.cons.injEq, Prod.mk.injEq, and_true, true_and] at e0
    obtain ⟨⟨rfl, rfl⟩, rfl⟩ := e0
    obtain ⟨tv, rfl⟩ := Value.isInt_shape hkey
    have H' := H.mono hs
    have hhe' := hs _ hhe
    have hgy := get_of_nth hnd hDi
    have hi16 : i < 16 := by have := (List.getElem?_eq_some_iff.mp hDi).1; omega
    simp only [List.map_cons, List.map_nil] at ho
    simp only [List.cons_append, List.nil_append] at N₁
    k_steps
    rename Named _ _ _ => hn1
    rename _ <+: _ => hp2
    rename Book _ _ => hB2
    rename Tab (intKind _ _) _ _ => hT2
    simp only [List.toList_toArray] at hn1 hT2
    refine ⟨_, _, _, _, _, rfl, by assumption, by assumption, ?a, ?b, ?c, _, _, _, _, _, _, _, _, ovr_of [Str.ofString "number"] ?d, rfl, rfl, hB2, hp1.trans hp2, by omega, hT2, Nat.le_trans (put_length_le _ _ _) (by omega), hP1.next hnd hp2 hDi hn1⟩
    case a => exact fun p hp => List.mem_append_left rest' hp
    case b => exact fun p hp => List.mem_append_right [_, _] hp
    case c => exact ho
    case d =>
      intro z hz
      simp only [List.mem_cons, List.not_mem_nil, or_false] at hz
      simp only [ovr, hz, if_false]
  case done =>
    rintro m₁ fr h tk ⟨u, lv, od₀, o₀, od, o, B1, D0, rfl, e0, rfl, hB1, hp1, hl1, hT1, hD1, hP1⟩ ho F₁ N₁
    simp only [List.cons.injEq, Prod.mk.injEq, and_true, true_and] at e0
    obtain ⟨⟨rfl, rfl⟩, rfl⟩ := e0
    simp only [List.cons_append, List.nil_append] at N₁
    have hLev := hP1.done
    rename (lv == sysModules) = false => hlv
    k_steps
    rename IsRange _ _ _ _ _ _ _ _ => hR
    rename Fr g' _ _ _ => hF
    rename News g' _ _ _ => hN
    rename ListV _ _ => hv
    rename (∀ p, p ∈ _ → Prod.fst p < _) => hlt
    have hll1 : @LT.lt Nat _ lv _ := hlt _ (List.Mem.head _)
    have hll2 : @LT.lt Nat _ bk _ := hlt _ (List.Mem.tail _ (List.Mem.head _))
    have hll3 : ∀ p ∈ rest, @LT.lt Nat _ p.1 _ := fun p hp => hlt p (List.Mem.tail _ (List.Mem.tail _ hp))
    have hsr := small_range hd0 (Int.lt_of_le_of_lt hd1 (by decide))
    have N2 := cb_drop (news := [(_, _), (bk, o), (lv, od)] ++ rest) hN (by
      intro p hp
      simp only [List.cons_append, List.nil_append, List.mem_cons] at hp ⊢
      rcases hp with h | h | h | h
      · exact .inl h
      · exact .inr (.inr (.inl h))
      · exact .inr (.inl h)
      · exact .inr (.inr (.inr h)))
    refine Stop.get (iter_range (n := depth.toNat) (fr₀ := [(_, _), (bk, o), (lv, od)]) (rest := rest) (Lv2J prog w bk B HD es rest) rfl hR hsr.1 hsr.2 hF N2 ?off2 ?j02 ?turn2 ?done2)
    case off2 =>
      intro p hp b hb
      rcases List.mem_cons.mp hb with rfl | hb
      · exact Nat.ne_of_lt (hll3 p hp)
      · rcases List.mem_cons.mp hb with rfl | hb
        · exact hoff p hp _ (.head _)
        · rw [List.mem_singleton.mp hb]; exact Nat.ne_of_lt (hlt2 p hp)
    case j02 =>
      refine ⟨_, _, _, _, _, lv, _, _, _, _, _, _, _, [(lv, od)], [D0], od, ovr_of [Str.ofString "height", Str.ofString "above", Str.ofString "number", Str.ofString "left", Str.ofString "right", Str.ofString "level"] (fun _ _ => rfl), rfl, rfl, hB1, hp1, by omega, hv, .cons hT1 hlv (by omega) .nil, rfl, Levels.one hLev, rfl, ?_⟩
      intro p hp
      rw [List.mem_singleton.mp hp]
      exact ⟨hlt2, hlt1, Nat.ne_of_lt hll1⟩
    case turn2 =>
      rintro i t m₁ fr rest' h tk hi ⟨u1, u2, u3, u4, u5, a1, ll, oll₀, o₀, lv₀, oll, o, B', lvs, Ds, oa, rfl, e0, rfl, hB2, hp2, hl2, hv2, hLT, hln, hLs, hat, hord⟩ hoT hs FT NT
      simp only [List.cons.injEq, Prod.mk.injEq, and_true, true_and] at e0
      obtain ⟨⟨rfl, rfl⟩, rfl, rfl⟩ := e0
      obtain ⟨a1', oa', D, hat', hDs, hTa, hla, hDl⟩ := hLT.at (i := i) (by omega)
      obtain ⟨rfl, rfl⟩ := Prod.mk.inj (Option.some.inj (hat.symm.trans hat'))
      obtain ⟨e, hee⟩ : ∃ e, es[(0 + (i : Int)).toNat]? = some e := ⟨_, List.getElem?_eq_getElem (by omega)⟩
      have he1 := he32 e (List.mem_of_getElem? hee)
      have hD32 := hLs.len D (List.mem_of_getElem? hDs)
      have H' := H.mono hs
      simp only [List.map_cons] at hoT
      simp only [List.cons_append] at NT
      clear F₁ N₁
      k_steps
      rename Fr g' _ _ _ => hF3
      rename News g' _ _ _ => hN3
      rename Tab (intKind _ _) _ [] => hTab
      rename (∀ p, p ∈ _ → Prod.fst p < _) => hlt3
      have hab1 : @LT.lt Nat _ ll _ := hlt3 _ (List.Mem.head _)
      have hab2 : @LT.lt Nat _ bk _ := hlt3 _ (List.Mem.tail _ (List.Mem.head _))
      have hab3 : ∀ p ∈ lvs, @LT.lt Nat _ p.1 _ := fun p hp => hlt3 p (List.Mem.tail _ (List.Mem.tail _ (List.mem_append_left _ hp)))
      have hab4 : ∀ p ∈ rest', @LT.lt Nat _ p.1 _ := fun p hp => hlt3 p (List.Mem.tail _ (List.Mem.tail _ (List.mem_append_right _ hp)))
      have hmem : (a1, oa) ∈ (ll, oll) :: (lvs ++ rest') := .tail _ (List.mem_append_left _ (List.mem_of_getElem? hat))
      have N4 := cb_drop (news := [(_, _), (bk, o)] ++ ((ll, oll) :: (lvs ++ rest'))) hN3 (by
        intro p hp
        simp only [List.cons_append, List.nil_append, List.mem_cons] at hp ⊢
        rcases hp with h | h | h | h
        · exact .inl h
        · exact .inr (.inr (.inl h))
        · exact .inr (.inl h)
        · exact .inr (.inr (.inr h)))
      refine Stop.get (iter_keys (fr₀ := [(_, _), (bk, o)]) (rest := (ll, oll) :: (lvs ++ rest')) (Lv3J prog w bk B' D e) rfl hmem hTa hla hF3 N4 ?off3 ?j03 ?turn3 ?done3)
      case off3 =>
        intro p hp b hb
        rcases List.mem_cons.mp hb with rfl | hb
        · rcases List.mem_cons.mp hp with rfl | hp
          · exact Nat.ne_of_lt hab1
          · rcases List.mem_append.mp hp with hp | hp
            · exact Nat.ne_of_lt (hab3 p hp)
            · exact Nat.ne_of_lt (hab4 p hp)
        · rw [List.mem_singleton.mp hb]
          rcases List.mem_cons.mp hp with rfl | hp
          · exact Nat.ne_of_gt hll2
          · rcases List.mem_append.mp hp with hp | hp
            · exact Nat.ne_of_gt (hord p hp).2.1
            · exact hoT p hp _ (.tail _ (.head _))
      case j03 => exact ⟨_, _, _, _, _, _, _, _, _, _, ovr_of [Str.ofString "number", Str.ofString "left", Str.ofString "right"] (fun _ _ => rfl), rfl, rfl, hB2, List.prefix_refl _, by omega, hTab, by simp, Part1.zero _ _ _⟩
      case turn3 =>
        rintro j v k y m₁ fr rest'' h tk hDj hkey ⟨v1, v2, v3, ab, oab₀, o₀, oab, o3, B3, A3, rfl, e0, rfl, hB3, hp3, hl3, hT3, hD3, hP3⟩ hoI hsI FI NI
        simp only [List.cons.injEq, Prod.mk.injEq, and_true, true_and] at e0
        obtain ⟨⟨rfl, rfl⟩, rfl⟩ := e0
        obtain ⟨tv, rfl⟩ := Value.isInt_shape hkey
        have H2 := H'.mono (fun p hp => hsI p (.tail _ (List.mem_append_right _ hp)))
        have hmem' := hsI _ hmem
        have hle' := hsI _ (.tail _ (List.mem_append_right _ (hs _ hle)))
        have hj16 : j < 16 := by have := (List.getElem?_eq_some_iff.mp hDj).1; omega
        have hgl : ∀ q, ((get D q).getD e.toArray.toList).length = 32 := fun q => by
          cases z : get D q with
          | none => simpa using he1
          | some x => exact hD32 q x z
        have hg1 := hgl (k.fdiv 2 * 2)
        have hg2 := hgl (k.fdiv 2 * 2 + 1)
        simp only [List.map_cons, List.map_nil] at hoI
        simp only [List.cons_append, List.nil_append] at NI
        clear hF3 hN3 N4 NT FT
        have hg3 : ((get D (k.fdiv 2 * 2)).getD e).length = 32 := by simpa using hg1
        have hg4 : ((get D (k.fdiv 2 * 2 + 1)).getD e).length = 32 := by simpa using hg2
        k_steps
        rename Named _ _ _ => hn1
        rename _ <+: _ => hp4
        rename Book _ _ => hB4
        rename Tab (intKind _ _) _ _ => hT4
        simp only [List.toList_toArray, Array.toList_append] at hn1 hT4
        refine ⟨_, _, _, _, _, rfl, by assumption, by assumption, ?a3, ?b3, ?c3, _, _, _, _, _, _, _, _, _, _, ovr_of [Str.ofString "number", Str.ofString "left", Str.ofString "right"] ?d3, rfl, rfl, hB4, hp3.trans hp4, by omega, hT4, Nat.le_trans (put_length_le _ _ _) (by omega), hP3.next hp4 hDj hn1⟩
        case a3 => exact fun p hp => List.mem_append_left rest'' hp
        case b3 => exact fun p hp => List.mem_append_right [_, _] hp
        case c3 => exact hoI
        case d3 =>
          intro z hz
          simp only [List.mem_cons, List.not_mem_nil, or_false, not_or] at hz
          obtain ⟨z1, z2, z3⟩ := hz
          simp only [ovr, z1, z2, z3, if_false]
      case done3 =>
        rintro m₁ fr h tk ⟨v1, v2, v3, ab, oab₀, o₀, oab, o3, B3, A3, rfl, e0, rfl, hB3, hp3, hl3, hT3, hD3, hP3⟩ hoI FI NI
        simp only [List.cons.injEq, Prod.mk.injEq, and_true, true_and] at e0
        obtain ⟨⟨rfl, rfl⟩, rfl⟩ := e0
        simp only [List.cons_append, List.nil_append] at NI
        have hAb := hP3.done
        rename (ab == sysModules) = false => hablo
        have hlv16 : lvs.length ≤ 257 := by omega
        have hmz : (lvs.map fun p => (Value.ref p.1)).length ≤ 16777216 := by rw [List.length_map]; omega
        have hne1 : @Ne Nat ab ll := Nat.ne_of_gt hab1
        have hne2 : @Ne Nat bk ll := Nat.ne_of_lt hll2
        have hllr : ∀ p ∈ lvs ++ rest', p.1 ≠ ll := fun p hp => by
          rcases List.mem_append.mp hp with hp | hp
          · exact (hord p hp).2.2
          · exact hoT p hp _ (.head _)
        clear hF3 hN3 N4 NT FT
        k_steps
        rename ListV _ _ => hv4
        refine ⟨_, _, _, (ll, _) :: (bk, o3) :: (lvs ++ [(ab, oab)]), _, rfl, by assumption, by assumption, ?a4, ?b4, ?c4, _, _, _, _, _, ab, ll, _, _, _, _, _, _, lvs ++ [(ab, oab)], Ds ++ [A3], oab, ovr_of [Str.ofString "height", Str.ofString "above", Str.ofString "number", Str.ofString "left", Str.ofString "right", Str.ofString "level"] ?d4, rfl, rfl, hB3, hp2.trans hp3, by omega, by simpa using hv4, hLT.snoc hT3 hablo (by omega), by simp [hln], (hLs.mono hp3).snoc (k := i) (by rw [← hLT.length]; exact hln) hDs (by simpa using hee) hAb, by rw [List.getElem?_append_right (by omega), hln, Nat.sub_self]; rfl, ?g4⟩
        case a4 =>
          intro p hp
          rcases List.mem_cons.mp hp with rfl | hp
          · exact .tail _ (.tail _ (.head _))
          rcases List.mem_cons.mp hp with rfl | hp
          · exact .tail _ (.head _)
          rcases List.mem_append.mp hp with hp | hp
          · exact .tail _ (.tail _ (.tail _ (List.mem_append_left _ hp)))
          · rw [List.mem_singleton.mp hp]; exact .head _
        case b4 => exact fun p hp => .tail _ (.tail _ (.tail _ (List.mem_append_right _ hp)))
        case c4 =>
          intro p hp b hb
          simp only [List.map_cons, List.map_append, List.map_nil] at hb
          rcases List.mem_cons.mp hb with rfl | hb
          · exact hoT p hp _ (.head _)
          rcases List.mem_cons.mp hb with rfl | hb
          · exact hoT p hp _ (.tail _ (.head _))
          rcases List.mem_append.mp hb with hb | hb
          · exact hoT p hp _ (.tail _ (.tail _ hb))
          · rw [List.mem_singleton.mp hb]; exact Nat.ne_of_lt (hab4 p hp)
        case d4 =>
          intro z hz
          simp only [List.mem_cons, List.not_mem_nil, or_false, not_or] at hz
          obtain ⟨z1, z2, z3, z4, z5, z6⟩ := hz
          simp only [ovr, z1, z2, z3, z4, z5, z6, if_false]
        case g4 =>
          intro p hp
          rcases List.mem_append.mp hp with hp | hp
          · exact hord p hp
          · rw [List.mem_singleton.mp hp]
            exact ⟨fun q hq => hab4 q (hs q hq), hab2, hne1⟩
    case done2 =>
      rintro m₁ fr h tk ⟨u1, u2, u3, u4, u5, a1, ll, oll₀, o₀, lv₀, oll, o, B', lvs, Ds, oa, rfl, e0, rfl, hB2, hp2, hl2, hv2, hLT, hln, hLs, hat, hord⟩ hoT FT NT
      simp only [List.cons.injEq, Prod.mk.injEq, and_true, true_and] at e0
      obtain ⟨⟨rfl, rfl⟩, rfl, rfl⟩ := e0
      simp only [List.cons_append] at NT
      clear F₁ N₁
      k_steps
      exact ret _ _ ll oll o B' lvs Ds (by assumption) (by assumption) hll2 hll3 hord hB2 hp2 hl2 hv2 hLT hln hLs
end
end
section
local macro_rules | `(tactic| ktr_rel) => `(tactic| first | assumption | (apply_assumption; done) | (apply_assumption <;> assumption) | exact List.Mem.head _ | (refine List.Mem.tail _ ?_; ktr_rel) | (refine List.mem_append_left _ ?_; ktr_rel) | (refine List.mem_append_right _ ?_; ktr_rel))
local macro_rules | `(tactic| walk_at "eval Name") => `(tactic| (k_here; kc_free; k_dflt (refine' nameX_F ?N ?c ?m ?d ?_ ?a ?b; (case a => rfl); (case b => rfl); (case N => k_asm); (case c => rfl); (case m => ktr_rel); (case d => assumption))))
local macro_rules | `(tactic| walk_at "compareOp NotIn bytes ref") => `(tactic| (k_here; k_dflt (first
  | (refine' my_notin_n (knd := bytesKind _ _) ?N ?m ?T ?lo ?hk ?hv ?_; (case N => k_asm); (case m => ktr_rel); (case T => assumption); (case lo => assumption); (case hk => exact isB _ _ _ _); (case hv => assumption))
  | (refine' my_notin_s (knd := bytesKind _ _) ?N ?m ?T ?lo ?hk ?hv ?_; (case N => k_asm); (case m => ktr_rel); (case T => assumption); (case lo => assumption); (case hk => exact isB _ _ _ _); (case hv => assumption)))))
local macro_rules | `(tactic| walk_at "setItem ref bytes") => `(tactic| (k_here; k_dflt (refine' my_set (knd := bytesKind _ _) ?F ?N ?U ?T ?hk ?z ?_; (case F => k_asm); (case N => k_asm); (case U => first | assumption | k_updF); (case T => assumption); (case hk => exact isB _ _ _ _); (case z => first | assumption | omega); intro h' o' F' N' T')))
local macro_rules | `(tactic| walk_at "subscriptTail") => `(tactic| (k_here; (with_reducible show wpAny _ _ (subscriptTail _ _ (Value.ref _) (Value.bytes _ _)) _ _ _); k_dflt (refine' my_tail (knd := bytesKind _ _) ?N ?m ?T ?hk ?hv ?_; (case N => k_asm); (case m => ktr_rel); (case T => assumption); (case hk => exact isB _ _ _ _); (case hv => first | assumption | exact get_put_self _ _ _); intro t')))
local macro_rules | `(tactic| walk_at "call builtin:len") => `(tactic| (k_here; (with_reducible show wpAny _ _ (call (Value.builtin "len") [Value.ref _]) _ _ _); k_dflt (first
  | (refine' my_len (knd := bytesKind _ _) ?N ?m ?T ?lo ?z ?_; (case N => k_asm); (case m => ktr_rel); (case T => assumption); (case lo => assumption); (case z => first | assumption | omega); intro t' k')
  | (refine' my_len (knd := intKind _ _) ?N ?m ?T ?lo ?z ?_; (case N => k_asm); (case m => ktr_rel); (case T => assumption); (case lo => assumption); (case z => first | assumption | omega); intro t' k'))))
local macro_rules | `(tactic| walk_at "call builtin:int.to_bytes") => `(tactic| (k_here; (with_reducible show wpAny _ _ (call (Value.builtin "int.to_bytes") [Value.int _ _, Value.int _ _, Value.str _ _]) _ _ _); k_dflt (refine' my_tobytesI ?a ?b ?c ?d ?_; (case a => omega); (case b => omega); (case c => omega); (case d => first | assumption | omega); intro t' k')))
local macro_rules | `(tactic| walk_at "call builtin:int.to_bytes") => `(tactic| (k_here; (with_reducible show wpAny _ _ (call (Value.builtin "int.to_bytes") [Value.int _ _, Value.int 32 _, Value.str _ _]) _ _ _); k_dflt (refine' my_tobytes32 ?c ?d ?_; (case c => omega); (case d => omega); intro t' k')))
local macro_rules | `(tactic| k_all) => `(tactic| first | assumption | exact OwnOff.ne (by assumption) (by k_memK))
local macro_rules | `(tactic| ktr_unf) => `(tactic| ((try dsimp only [ktrTop, Around.deeper, Around.mark, Around.in1]); omega))
local macro_rules | `(tactic| tb_rel) => `(tactic| first | assumption | exact HashFn.mono (by assumption) (by intro p hp; ktr_rel))
local macro_rules | `(tactic| walk_at "callWith ref") => `(tactic| (k_here; k_dflt (refine' callWith_F ?X ?_; (case X => exact FnAt.hash (by k_asm) (by tb_rel)); k_whole)))
local macro_rules | `(tactic| walk_at "And") => `(tactic| ((with_reducible show FnAt _ _ ∧ _); k_dflt (refine ⟨FnAt.hash (by k_asm) (by tb_rel), ?_⟩); (try dsimp only [List.nil_append, List.cons_append])))
local macro_rules | `(tactic| walk_at "call ref") => `(tactic| (k_here; (with_reducible show wpAny _ _ (call (Value.ref _) [Value.bytes _ _]) _ _ _); k_dflt (refine' hash_call ?k1 ?k2 ?k3 ?k4 ?k5 ?k6 ?k7 ?k8 ?k9 ?ka ?kb ?kc ?kd ?_; (case k1 => k_asm); (case k2 => k_asm); (case k3 => k_asm); (case k4 => k_asm); (case k5 => k_asm); (case k6 => first | exact rfl | assumption); (case k7 => ktr_unf); (case k8 => ktr_unf); (case k9 => tb_rel); (case ka => k_updF); (case kb => assumption); (case kc => omega); (case kd => assumption); intro h' tk' t' o' B' n F' N' hB' hp' hl' hn')))
local macro_rules | `(tactic| walk_at "exec For Name Call cons nil") => `(tactic| (k_here; (rename Fr _ _ _ _ => lF'); (with_unfolding_all refine' For_invVF lF' ?k1 ?k2 ?_; (case k1 => exact rfl); (case k2 => exact rfl); k_whole)))
local macro_rules | `(tactic| walk_at "exec For Name Name cons nil") => `(tactic| (k_here; (rename Fr _ _ _ _ => lF'); (with_unfolding_all refine' For_invVF lF' ?k1 ?k2 ?_; (case k1 => exact rfl); (case k2 => exact rfl); k_whole)))
local macro_rules | `(tactic| walk_at "exec For Name Subscript cons nil") => `(tactic| (k_here; (rename Fr _ _ _ _ => lF'); (with_unfolding_all refine' For_invVF lF' ?k1 ?k2 ?_; (case k1 => exact rfl); (case k2 => exact rfl); k_whole)))
local macro_rules | `(tactic| walk_at "pyIter ref") => `(tactic| ((with_reducible show wpAny _ _ (pyIter (Value.ref _)) (fun it s₂ => LoopAtV _ _ _ _ _ _ _ _ _ it s₂) _ _); refine Stop.of ?_))
local macro_rules | `(tactic| walk_at "newList") => `(tactic| (k_here; k_dflt (refine' my_newList ?F ?N ?_ ?z; (case F => k_asm); (case N => k_asm); (case z => size_fits); intro l' o' h' F' N' hl' hv')))
local macro_rules | `(tactic| walk_at "getMethod ref") => `(tactic| (k_here; k_dflt (first | (refine' my_appmB ?N ?m ?v ?_; (case N => k_asm); (case m => ktr_rel); (case v => assumption)) | (refine' my_appm ?N ?m ?v ?_; (case N => k_asm); (case m => ktr_rel); (case v => assumption)))))
local macro_rules | `(tactic| walk_at "call builtin:list.append") => `(tactic| (k_here; k_dflt (first
  | ((with_reducible show wpAny _ _ (call (Value.builtin _) [Value.ref _, Value.bytes _ _]) _ _ _); refine' my_appendB ?F ?N ?U ?v ?z ?_; (case F => k_asm); (case N => k_asm); (case U => k_updF); (case v => assumption); (case z => omega); intro h' o' F' N' hv')
  | (refine' my_append ?F ?N ?U ?v ?z ?_; (case F => k_asm); (case N => k_asm); (case U => k_updF); (case v => assumption); (case z => omega); intro h' o' F' N' hv'))))
local macro_rules | `(tactic| walk_at "subscriptTail") => `(tactic| (k_here; (with_reducible show wpAny _ _ (subscriptTail _ _ (Value.ref _) (Value.int _ _)) _ _ _); k_dflt (refine' my_lgetB ?N ?m ?v ?z ?p ?x ?_; (case N => k_asm); (case m => ktr_rel); (case v => assumption); (case z => omega); (case p => omega); (case x => first | assumption | (dsimp only; assumption)); intro t')))
local macro_rules | `(tactic| walk_at "binaryOp Add bytes bytes") => `(tactic| (k_here; k_dflt (refine' my_addB ?z ?_; (case z => simp only [List.size_toArray]; omega); intro t' k')))
local macro_rules | `(tactic| walk_at "eval Dict nil nil") => `(tactic| (k_here; k_dflt (refine' my_newDict ?F ?N ?T ?_; (case F => k_asm); (case N => k_asm); (case T => k_asm); intro d' o' h' F' N' hl' lo' TI' TB')))
local macro_rules | `(tactic| walk_at "setItem ref int") => `(tactic| (k_here; k_dflt (refine' my_set (knd := intKind _ _) ?F ?N ?U ?T ?hk ?z ?_; (case F => k_asm); (case N => k_asm); (case U => k_updF); (case T => assumption); (case hk => exact isI _ _ _ _); (case z => omega); intro h' o' F' N' T')))
local macro_rules | `(tactic| walk_at "subscriptTail") => `(tactic| (k_here; (with_reducible show wpAny _ _ (subscriptTail _ _ (Value.ref _) (Value.int _ _)) _ _ _); k_dflt (refine' my_tail (knd := intKind _ _) ?N ?m ?T ?hk ?hv ?_; (case N => k_asm); (case m => ktr_rel); (case T => assumption); (case hk => exact isI _ _ _ _); (case hv => assumption); intro t')))
local macro_rules | `(tactic| walk_at "getMethod ref") => `(tactic| (k_here; k_dflt (first
  | (refine' my_getm (knd := intKind _ _) ?N ?m ?T ?_; (case N => k_asm); (case m => ktr_rel); (case T => assumption))
  | (refine' my_getm (knd := bytesKind _ _) ?N ?m ?T ?_; (case N => k_asm); (case m => ktr_rel); (case T => assumption)))))
local macro_rules | `(tactic| walk_at "call builtin:dict.get") => `(tactic| (k_here; (with_reducible show wpAny _ _ (call (Value.builtin _) [Value.ref _, Value.int _ _, Value.bytes _ _]) _ _ _); k_dflt (refine' my_get2 (knd := intKind _ _) ?N ?m ?T ?lo ?hk ?_; (case N => k_asm); (case m => ktr_rel); (case T => assumption); (case lo => assumption); (case hk => exact isI _ _ _ _); intro t' k')))
local macro_rules | `(tactic| walk_at "subscriptTail") => `(tactic| (k_here; (with_reducible show wpAny _ _ (subscriptTail _ _ (Value.ref _) (Value.int _ _)) _ _ _); k_dflt (refine' my_lget ?N ?m ?v ?z ?p ?x ?_; (case N => k_asm); (case m => ktr_rel); (case v => assumption); (case z => first | assumption | omega); (case p => omega); (case x => first | assumption | (dsimp only; assumption)))))
section
local macro_rules | `(tactic| walk_at "no such key 11") => `(tactic| fail)
theorem off_12 : True := by
  w_top off
  trivial
/-! ### _law_name -/
def LevAt (prog : Program) (w : World) (news : Led) (ll le : Addr) (Ds : List (List (Int × By))) (es : List By) : Prop :=
  ∃ oll lvs ol, (ll, oll) ∈ news ∧ ListV oll (lvs.map fun p => .ref p.1) ∧ (∀ p ∈ lvs, p ∈ news) ∧ LevT prog w lvs Ds ∧ (le, ol) ∈ news ∧ ListB ol es ∧ lvs.length = es.length ∧ es.length ≤ 300
theorem LevAt.mono {prog : Program} {w : World} {news news' : Led} {ll le : Addr} {Ds : List (List (Int × By))} {es : List By} (h : LevAt prog w news ll le Ds es) (hs : ∀ p ∈ news, p ∈ news') : LevAt prog w news' ll le Ds es := by
  obtain ⟨oll, lvs, ol, a, b, c, d, e, f, g, z⟩ := h
  exact ⟨oll, lvs, ol, hs _ a, b, fun p hp => hs p (c p hp), d, hs _ e, f, g, z⟩
def nm (Ds : List (List (Int × By))) (es : List By) (h : Nat) (p : Int) : By := gd (Ds.getD h []) p (es.getD h [])
section
variable {prog : Program} {w : World} {p : Program} {loose : List Str} {mean : ExcName → Option Value} {mg mb : Str → Option Value} {dp un : Nat} {gd : Option (List Code)} {cn : Str} {cs : Scope} {a : Addr} {ccd : Value} {cl : List (Str × Addr)} {outer : List Env} {A₀ : Around} {base h₀ : Heap} {L : Addr} {m : Str → Option Value} {s : Shared} {Q E : Value → Shared → Prop}
theorem name_call {news : Led} {ll le : Addr} {Ds : List (List (Int × By))} {es : List By} {ht pl : Int} {t1 t2 : Tok} (Bl : Below A₀ base outer h₀) (F : Fr h₀ L s.heap m) (X : (hd.heap_39 w.params).In h₀) (T : Top p loose mean mg mb h₀) (hk : cs.kind = .function) (hdp : dp + 3 < recursionLimit) (hun : un + 30 < cLine)
    (N : News h₀ L s.heap news) (hL : LevAt prog w news ll le Ds es) (h0 : 0 ≤ ht) (h1 : ht.toNat < es.length)
    (ret : ∀ h' tk' t', Fr h₀ L h' m → News h₀ L h' news → Q (.bytes (nm Ds es ht.toNat pl).toArray t') { s with heap := h', toks := tk' }) :
    wpAny (model prog w) (ktrTop dp un gd cn cs L a ccd cl outer) (call (.ref 193) [.ref ll, .ref le, .int ht t1, .int pl t2]) Q E s := by
  obtain ⟨oll, lvs, ol, hll, hlv, hsub, hLT, hle, hes, hln, hz⟩ := hL
  obtain ⟨a1, o1, D, hat, hDs, hT1, hlo1, _⟩ := hLT.at (i := ht.toNat) (by omega)
  obtain ⟨e, hee⟩ : ∃ e, es[ht.toNat]? = some e := ⟨_, List.getElem?_eq_getElem (by omega)⟩
  have hm1 := hsub _ (List.mem_of_getElem? hat)
  have hxr : (lvs.map fun p => Value.ref p.1)[ht.toNat]? = some (.ref a1) := by rw [List.getElem?_map, hat]; rfl
  have hmz : (lvs.map fun p => (Value.ref p.1)).length ≤ 16777216 := by rw [List.length_map]; omega
  have hnm : nm Ds es ht.toNat pl = (get D pl).getD e := by
    unfold nm Mine.gd
    rw [List.getD_eq_getElem?_getD, hDs, List.getD_eq_getElem?_getD, hee]; rfl
  rw [hnm] at ret
  refine wpAny_call ?_
  k_dflt (refine' code_def (binds := [((Str.ofString "levels"), .ref ll), ((Str.ofString "empty"), .ref le), ((Str.ofString "height"), .int ht t1), ((Str.ofString "place"), .int pl t2)]) ?k1 ?k2 ?k3 ?k4 ?k5 ?kA ?kF ?kK ?k6 ?k7 ?k8 ?k9 ?kB ?_ ?c2 ?c3 ?c4 ?c5; (case kA => exact rfl); (case kF => exact rfl); (case kK => assumption); (case k1 => k_asm); (case k2 => k_asm); (case k3 => k_asm); (case k4 => k_asm); (case k5 => k_asm); (case k6 => k_is); (case k7 => k_is); (case k8 => exact Nat.lt_of_le_of_lt (Nat.le_add_right _ _) hdp); (case k9 => exact BindsTo.of_eq rfl); (case c5 => decide); (case kB => exact locs rfl); (case c2 => exact rfl); (case c3 => exact rfl); (case c4 => exact rfl); intro g' L' h' FG' F' N' B' X' T')
  k_steps
  exact ret _ _ _ (by assumption) (by assumption)
end
end
local macro_rules | `(tactic| tb_rel) => `(tactic| first | assumption | exact HashFn.mono (by assumption) (by intro p hp; ktr_rel) | exact LevAt.mono (by assumption) (by intro p hp; ktr_rel))
local macro_rules | `(tactic| walk_at "call ref") => `(tactic| (k_here; (with_reducible show wpAny _ _ (call (Value.ref _) [Value.ref _, Value.ref _, Value.int _ _, Value.int _ _]) _ _ _); k_dflt (refine' name_call ?k1 ?k2 ?k3 ?k5 ?k6 ?k7 ?k8 ?k4 ?k9 ?ka ?kb ?_; (case k1 => k_asm); (case k2 => k_asm); (case k3 => k_asm); (case k4 => k_asm); (case k5 => k_asm); (case k6 => first | exact rfl | assumption); (case k7 => ktr_unf); (case k8 => ktr_unf); (case k9 => tb_rel); (case ka => omega); (case kb => omega); intro h' tk' t' F' N')))
section
local macro_rules | `(tactic| walk_at "no such key 13") => `(tactic| fail)
theorem off_14 : True := by
  w_top off
  trivial
/-! ### _law_lay -/
theorem small_range2 {a b : Int} (h0 : 0 ≤ a) (h1 : a ≤ b) (h2 : b < 1000000) : Builtin.Range.small a b 1 = true ∧ Builtin.Range.rangeSize a b 1 = ((b - a).toNat : Int) := by
  refine ⟨small_one (by omega) (by omega) (by omega) (by omega), ?_⟩
  rw [rangeSize_one]
  split <;> omega
def layD (N : Nat → Int → By) (v : By) (number : Int) (KD : List (By × By)) : Nat → List (By × By)
  | 0 => put KD (N 0 number) v
  | d + 1 => put (layD N v number KD d) (N (d + 1) (number.fdiv (2 ^ (d + 1)))) (N d (2 * (number.fdiv (2 ^ (d + 1)))) ++ N d (2 * (number.fdiv (2 ^ (d + 1))) + 1))
theorem layD_length (N : Nat → Int → By) (v : By) (number : Int) (KD : List (By × By)) : ∀ d, (layD N v number KD d).length ≤ KD.length + d + 1
  | 0 => put_length_le _ _ _
  | d + 1 => Nat.le_trans (put_length_le _ _ _) (by have := layD_length N v number KD d; omega)
section
variable {prog : Program} {w : World} {p : Program} {loose : List Str} {mean : ExcName → Option Value} {mg mb : Str → Option Value} {dp un : Nat} {gd : Option (List Code)} {cn : Str} {cs : Scope} {a : Addr} {ccd : Value} {cl : List (Str × Addr)} {outer : List Env} {A₀ : Around} {base h₀ : Heap} {L : Addr} {m : Str → Option Value} {s : Shared} {Q E : Value → Shared → Prop}
def LayJ (prog : Program) (w : World) (N : Nat → Int → By) (v : By) (number : Int) (KD : List (By × By)) (m₀ : Str → Option Value) (fr₀ : Led) (i : Nat) (m : Str → Option Value) (fr : Led) : Prop :=
  ∃ u1 u2 u3 u4 kn ok₀ ok, m = ovr [(Str.ofString "height", u1), (Str.ofString "place", u2), (Str.ofString "left", u3), (Str.ofString "right", u4)] m₀ ∧ [(kn, ok₀)] = fr₀ ∧ fr = [(kn, ok)] ∧ Tab (bytesKind prog w) ok (layD N v number KD i)
theorem lay_call {kn ll le he : Addr} {ok oh : Obj} {rest : Led} {KD : List (By × By)} {HD : List (Int × By)} {Ds : List (List (Int × By))} {es : List By} {b : Array UInt8} {number depth : Int} {t1 t2 t3 : Tok} (Bl : Below A₀ base outer h₀) (F : Fr h₀ L s.heap m) (X : (hd.heap_39 w.params).In h₀) (T : Top p loose mean mg mb h₀) (hk : cs.kind = .function) (hdp : dp + 5 < recursionLimit) (hun : un + 40 < cLine)
    (N : News h₀ L s.heap ((kn, ok) :: rest)) (hoff : OwnOff rest [kn]) (hL : LevAt prog w rest ll le Ds es) (hT : Tab (bytesKind prog w) ok KD) (hz : KD.length ≤ 16000000) (hhe : (he, oh) ∈ rest) (hTh : Tab (intKind prog w) oh HD) (hhl : (he == sysModules) = false)
    (hn0 : 0 ≤ number) (hn1 : number < 65536) (hd0 : 0 ≤ depth) (hd1 : depth ≤ 16) (hel : es.length = depth.toNat + 1) (hes : ∀ h p, (nm Ds es h p).length ≤ 32)
    (ret : ∀ h' tk' ok', Fr h₀ L h' m → News h₀ L h' ((kn, ok') :: rest) → Tab (bytesKind prog w) ok' (layD (nm Ds es) (Mine.gd HD number b.toList) number KD depth.toNat) → Q .none { s with heap := h', toks := tk' }) :
    wpAny (model prog w) (ktrTop dp un gd cn cs L a ccd cl outer) (call (.ref 200) [.ref kn, .ref ll, .ref le, .ref he, .bytes b t1, .int number t2, .int depth t3]) Q E s := by
  have hz' : KD.length ≤ 16777216 := by omega
  refine wpAny_call ?_
  k_dflt (refine' code_def (binds := [((Str.ofString "known"), .ref kn), ((Str.ofString "levels"), .ref ll), ((Str.ofString "empty"), .ref le), ((Str.ofString "held"), .ref he), ((Str.ofString "default"), .bytes b t1), ((Str.ofString "number"), .int number t2), ((Str.ofString "depth"), .int depth t3)]) ?k1 ?k2 ?k3 ?k4 ?k5 ?kA ?kF ?kK ?k6 ?k7 ?k8 ?k9 ?kB ?_ ?c2 ?c3 ?c4 ?c5; (case kA => exact rfl); (case kF => exact rfl); (case kK => assumption); (case k1 => k_asm); (case k2 => k_asm); (case k3 => k_asm); (case k4 => k_asm); (case k5 => k_asm); (case k6 => k_is); (case k7 => k_is); (case k8 => exact Nat.lt_of_le_of_lt (Nat.le_add_right _ _) hdp); (case k9 => exact BindsTo.of_eq rfl); (case c5 => decide); (case kB => exact locs rfl); (case c2 => exact rfl); (case c3 => exact rfl); (case c4 => exact rfl); intro g' L' h' FG' F' N' B' X' T')
  k_steps
  rename IsRange _ _ _ _ _ _ _ _ => hR
  rename Fr g' _ _ _ => hF
  rename News g' _ _ _ => hN
  rename Tab (bytesKind _ _) _ _ => hT1
  have hsr := small_range2 (a := 1) (b := depth + 1) (by decide) (by omega) (by omega)
  rw [show (depth + 1 - 1) = depth by omega] at hsr
  refine Stop.get (iter_range (n := depth.toNat) (fr₀ := [(_, _)]) (rest := rest) (LayJ prog w (nm Ds es) (Mine.gd HD number b.toList) number KD) rfl hR hsr.1 hsr.2 hF hN ?off ?j0 ?turn ?done)
  case off => exact hoff
  case j0 =>
    refine ⟨_, _, _, _, _, _, _, ovr_of [Str.ofString "height", Str.ofString "place", Str.ofString "left", Str.ofString "right"] (fun _ _ => rfl), rfl, rfl, ?_⟩
    simpa [layD, Mine.gd] using hT1
  case turn =>
    rintro i t m₁ fr rest' h tk hi ⟨u1, u2, u3, u4, kn, ok₀, ok, rfl, e0, rfl, hT2⟩ ho hs F₁ N₁
    simp only [List.cons.injEq, Prod.mk.injEq, and_true, true_and] at e0
    obtain ⟨rfl, rfl⟩ := e0
    have hL' := hL.mono hs
    have hz2 : (layD (nm Ds es) (Mine.gd HD number b.toList) number KD i).length ≤ 16777216 := Nat.le_trans (layD_length _ _ _ _ _) (by omega)
    simp only [List.map_cons, List.map_nil] at ho
    simp only [List.cons_append, List.nil_append] at N₁
    have hq1 := hes (1 + (i : Int) - 1).toNat (2 * number.fdiv (2 ^ (1 + (i : Int)).toNat))
    have hq2 := hes (1 + (i : Int) - 1).toNat (2 * number.fdiv (2 ^ (1 + (i : Int)).toNat) + 1)
    have e1 : (1 + (i : Int) - 1).toNat = i := by omega
    have e2 : (1 + (i : Int)).toNat = i + 1 := by omega
    k_steps
    rename Tab (bytesKind _ _) _ _ => hT3
    rw [e1, e2] at hT3
    simp only [List.toList_toArray, Array.toList_append] at hT3
    refine ⟨_, _, _, _, _, rfl, by assumption, by assumption, ?a, ?b, ?c, _, _, _, _, _, _, _, ovr_of [Str.ofString "height", Str.ofString "place", Str.ofString "left", Str.ofString "right"] ?d, rfl, rfl, hT3⟩
    case a => exact fun p hp => List.mem_append_left rest' hp
    case b => exact fun p hp => List.mem_append_right [_] hp
    case c => exact ho
    case d =>
      intro z hz
      simp only [List.mem_cons, List.not_mem_nil, or_false, not_or] at hz
      obtain ⟨z1, z2, z3, z4⟩ := hz
      simp only [ovr, z1, z2, z3, z4, if_false]
  case done =>
    rintro m₁ fr h tk ⟨u1, u2, u3, u4, kn, ok₀, ok, rfl, e0, rfl, hT2⟩ ho F₁ N₁
    simp only [List.cons.injEq, Prod.mk.injEq, and_true, true_and] at e0
    obtain ⟨rfl, rfl⟩ := e0
    simp only [List.cons_append, List.nil_append] at N₁
    k_steps
    exact ret _ _ ok (by assumption) (by assumption) hT2
end
end
section
theorem off_15 : True := by
  w_top off
  trivial
/-! ### comprehensions -/
section
variable {prog : Program} {w : World} {A : Around} {E : Value → Shared → Prop} {s : Shared} {h₀ : Heap} {L : Addr} {m : Str → Option Value} {env : Env} {news : Led}
def SrcD (prog : Program) (w : World) (A : Around) (h₀ : Heap) (L : Addr) (m : Str → Option Value) (env : Env) (elt : PySem.Expr) (x : Str) (scope : Scope) (cl : List (Str × Addr)) (Fin : Shared → List Value → Led → Prop) (xv : Value) (s₁ : Shared) : Prop :=
  ∃ r a b c t u v n news, xv = .ref r ∧ A.handled = none ∧ Fr h₀ L s₁.heap m ∧ News h₀ L s₁.heap news ∧ IsRange s₁.heap r a b c t u v ∧ Builtin.Range.small a b c = true ∧ Builtin.Range.rangeSize a b c = ((n : Nat) : Int) ∧ n ≤ sizeLine ∧
    ∀ s₂ : Shared, (∃ h, s₂ = { s₁ with heap := h }) → LCg.CompRest prog w A h₀ L m env elt x scope cl s₂ (fun _ => True) (fun i v => ∃ t, v = .int (a + (i : Int) * c) t) (Fin s₂) n 0 [] news
theorem ListComp_D {elt iter : PySem.Expr} {x : Str} {px : Pos} {scope : Scope} {cl : List (Str × Addr)} {pos : Pos} {Q : Value → Shared → Prop} (F₀ : Fr h₀ L s.heap m)
    (hclos : closureFor scope env = pure cl) (hcell : ∀ y ∈ scope.names, y.2 ≠ .cell) (hkind : scope.kind = .function)
    (hnames : ∀ y ∈ scope.names, y.2 = .local → scope.names.lookup y.1 = some .local) (hx : scope.names.lookup x = some .local)
    (h : wpAny (model prog w) A (eval iter env) (SrcD prog w A h₀ L m env elt x scope cl (fun s₂ => LCg.FinE h₀ L m s₂ Q)) E s)
    (hs : ∀ x, foldedSetIterable iter env x = pure x := by intro _; rfl) :
    wpAny (model prog w) A (eval (.ListComp elt [⟨.Name x px, iter, [], 0⟩] scope pos) env) Q E s := by
  rw [eval_ListComp]
  refine wpAny_comprehension_free (use := none) rfl hs hclos hkind hnames (wpAny_mono h (fun xv s₁ h₁ => ?_) fun _ _ e => e)
  rcases h₁ with ⟨r, a, b, c, t, u, v, n, news, rfl, hh, F, N, hr, hsm, hn, hsz, R⟩
  refine wpAny_pyIter_range hr hsm ?_
  refine LCg.block_U (Walks.range hh s₁.heap.objs.size a c n) hsz (fun i h st => ⟨_, st⟩) (fun i h h' o nw st e e' _ _ _ => ?_) hcell hkind hx (by show IsRangeIter _ _ _ _ _; rw [hn]; simpa using Heap.get?_push_size _ rfl) (fun b hb => ?_)
    (F.keeps fun _ _ e => Heap.get?_push_of_some _ e) (N.grown fun _ _ e => Heap.get?_push_of_some _ e) (Nat.ne_of_lt F.ns.lt) (next_is_new F) (fun p hp => Nat.ne_of_lt (Heap.lt_size (N p hp).1)) trivial (R _ ⟨_, rfl⟩) ?_
  · have st' : h.get? _ = some _ := st
    show h'.get? _ = some _
    rw [e', ← e]; exact st'
  · rw [List.mem_singleton.mp hb]
    show s₁.heap.objs.size < (s₁.heap.push _).objs.size
    rw [Heap.size_push]; exact Nat.lt_succ_self _
  · intro D C h tk m' ys news' F' N' o1 hn hC₀ hD₀ hCL hDL hCD offC fin
    refine ⟨m', hn, fun h'' hs'' => fin D h'' tk (F'.change hs'' hCL hC₀) (fun p hp => ?_) o1⟩
    refine ⟨hs''.extBut _ _ ?_ (N' p hp).1, (N' p hp).2⟩
    rcases List.mem_cons.mp hp with rfl | hp
    · exact Ne.symm hCD
    · exact offC p hp
def TurnC (h₀ : Heap) (L : Addr) (m : Str → Option Value) (all : Led) (s₁ : Shared) (J : Value → Prop) (y : Value) (s' : Shared) : Prop :=
  ∃ h' tk', s' = { s₁ with heap := h', toks := tk' } ∧ Fr h₀ L h' m ∧ News h₀ L h' all ∧ J y
def TurnT (h₀ : Heap) (L : Addr) (m : Str → Option Value) (all : Led) (s₁ : Shared) (J : Prop) (s' : Shared) : Prop :=
  ∃ h' tk', s' = { s₁ with heap := h', toks := tk' } ∧ Fr h₀ L h' m ∧ News h₀ L h' all ∧ J
theorem rest_U {elt : PySem.Expr} {x : Str} {scope : Scope} {cl : List (Str × Addr)} {S : Led → Prop} {P : Nat → Value → Prop} {Fin : List Value → Led → Prop} {n : Nat} (J : Nat → List Value → Prop) (hS : S news)
    (turn : ∀ i v ys I oI C oC D m₂ h tk (E' : Value → Shared → Prop), i < n → J i ys → P i v → LCg.NsObj oC m₂ → m₂ x = some v → Fr h₀ L h m → News h₀ L h ((I, oI) :: (C, oC) :: (D, LCg.lst ys) :: news) →
      wpAny (model prog w) A (eval elt (compEnvC scope cl C env)) (TurnC h₀ L m ((I, oI) :: (C, oC) :: (D, LCg.lst ys) :: news) { s with heap := h, toks := tk } (fun y => J (i + 1) (ys ++ [y]))) E' { s with heap := h, toks := tk })
    (fin : ∀ ys, J n ys → Fin ys news) :
    ∀ k i ys, i + k = n → J i ys → LCg.CompRest prog w A h₀ L m env elt x scope cl s S P Fin k i ys news
  | 0, i, ys, e, j => by
    obtain rfl : i = n := by omega
    exact LCg.CompRest.zero (fin ys j)
  | k + 1, i, ys, e, j => by
    refine LCg.CompRest.succ fun v I oI C oC D m₂ h tk E' hP hC hx F N off ne => ?_
    refine wpAny_mono (turn i v ys I oI C oC D m₂ h tk E' (by omega) j hP hC hx F N) ?_ fun _ _ e => e
    rintro y s' ⟨h', tk', rfl, F', N', hj⟩
    exact ⟨h', tk', news, rfl, F', N', off, hS, rest_U J hS turn fin k (i + 1) _ (by omega) hj⟩
theorem rest_T {ct elt : PySem.Expr} {x : Str} {scope : Scope} {cl : List (Str × Addr)} {S : Led → Prop} {P : Nat → Value → Prop} {Fin : List Value → Led → Prop} {n : Nat} (J : Nat → List Value → Prop) (hS : S news)
    (turn : ∀ i v ys I oI C oC D m₂ h tk (E' : Value → Shared → Prop), i < n → J i ys → P i v → LCg.NsObj oC m₂ → m₂ x = some v → Fr h₀ L h m → News h₀ L h ((I, oI) :: (C, oC) :: (D, LCg.lst ys) :: news) →
      wpAny (model prog w) A (isTrue ct (compEnvC scope cl C env) (eval ct (compEnvC scope cl C env))) (fun ok s' => if ok = true then
        wpAny (model prog w) A (eval elt (compEnvC scope cl C env)) (TurnC h₀ L m ((I, oI) :: (C, oC) :: (D, LCg.lst ys) :: news) { s with heap := h, toks := tk } (fun y => J (i + 1) (ys ++ [y]))) E' s'
        else TurnT h₀ L m ((I, oI) :: (C, oC) :: (D, LCg.lst ys) :: news) { s with heap := h, toks := tk } (J (i + 1) ys) s') E' { s with heap := h, toks := tk })
    (fin : ∀ ys, J n ys → Fin ys news) :
    ∀ k i ys, i + k = n → J i ys → LCt.CompRestT prog w A h₀ L m env ct elt x scope cl s S P Fin k i ys news
  | 0, i, ys, e, j => by
    obtain rfl : i = n := by omega
    exact LCt.CompRestT.zero (fin ys j)
  | k + 1, i, ys, e, j => by
    refine LCt.CompRestT.succ fun v I oI C oC D m₂ h tk E' hP hC hx F N off ne => ?_
    refine wpAny_mono (turn i v ys I oI C oC D m₂ h tk E' (by omega) j hP hC hx F N) ?_ fun _ _ e => e
    intro ok s' z
    cases ok with
    | true =>
      simp only [if_true] at z ⊢
      refine wpAny_mono z ?_ fun _ _ e => e
      rintro y s' ⟨h', tk', rfl, F', N', hj⟩
      exact ⟨h', tk', news, rfl, F', N', off, hS, rest_T J hS turn fin k (i + 1) _ (by omega) hj⟩
    | false =>
      simp only [Bool.false_eq_true, if_false] at z ⊢
      obtain ⟨h', tk', rfl, F', N', hj⟩ := z
      exact ⟨h', tk', news, rfl, F', N', off, hS, rest_T J hS turn fin k (i + 1) _ (by omega) hj⟩
theorem ListComp_E {ct elt iter : PySem.Expr} {x : Str} {px : Pos} {scope : Scope} {cl : List (Str × Addr)} {pos : Pos} {Q : Value → Shared → Prop} (F₀ : Fr h₀ L s.heap m)
    (hclos : closureFor scope env = pure cl) (hcell : ∀ y ∈ scope.names, y.2 ≠ .cell) (hkind : scope.kind = .function)
    (hnames : ∀ y ∈ scope.names, y.2 = .local → scope.names.lookup y.1 = some .local) (hx : scope.names.lookup x = some .local)
    (h : wpAny (model prog w) A (eval iter env) (fun xv s₁ => Stop (LCt.CompSrcT prog w A h₀ L m env ct elt x scope cl (fun s₂ => LCg.FinE h₀ L m s₂ Q) xv s₁)) E s)
    (hs : ∀ x, foldedSetIterable iter env x = pure x := by intro _; rfl) :
    wpAny (model prog w) A (eval (.ListComp elt [⟨.Name x px, iter, [ct], 0⟩] scope pos) env) Q E s :=
  LCt.ListComp_T F₀ hclos hcell hkind hnames hx (wpAny_mono h (fun _ _ z => z) fun _ _ e => e) hs
/-! ### tuples of bytes -/
def TupV (o : Obj) (vs : List Value) : Prop := o = ({ cls := .type "tuple", data := .seq vs.toArray } : Obj)
def TupB (o : Obj) (es : List By) : Prop := ∃ vs, TupV o vs ∧ VB vs es
theorem my_tupleOf {l : Addr} {o : Obj} {es : List By} {Q : Value → Shared → Prop} (F : Fr h₀ L s.heap m) (N : News h₀ L s.heap news) (hm : (l, o) ∈ news) (hv : ListB o es) (hz : es.length ≤ 16384)
    (h : ∀ D o' h', Fr h₀ L h' m → News h₀ L h' ((D, o') :: news) → TupB o' es → (∀ p ∈ news, @LT.lt Nat _ p.1 D) → Q (.ref D) { s with heap := h' }) : wpAny (model prog w) A (call (.type "tuple") [.ref l]) Q E s := by
  obtain ⟨vs, hv, hb⟩ := hv
  refine kde_tupleOf (zs := vs) F N (ListV.isList N hm hv) (by rw [List.size_toArray, hb.length]; exact hz) (by simp) fun D h' F' N' l => h D _ h' F' N' ⟨vs, rfl, hb⟩ l
end
end
local macro_rules | `(tactic| walk_at "eval Name") => `(tactic| (k_here; (with_reducible show wpAny _ _ (eval (Expr.Name _ _) (compEnvC _ _ _ _)) _ _ _); k_dflt (first
  | (refine' LCgL.ld_own ?N ?m ?c ?d ?_; (case N => k_asm); (case m => ktr_rel); (case c => assumption); (case d => assumption))
  | (refine' lcf_cell ?N ?c ?m ?d ?_ ?a ?b; (case a => rfl); (case b => rfl); (case N => k_asm); (case c => rfl); (case m => ktr_rel); (case d => assumption))
  | (refine' lcf_free ?N ?c ?m ?d ?_ ?a ?b; (case a => rfl); (case b => rfl); (case N => k_asm); (case c => rfl); (case m => ktr_rel); (case d => assumption))
  | (refine' LCgL.ld_global ?F ?X ?T ?e ?_; (case F => k_asm); (case X => k_asm); (case T => k_asm); (case e => k_is); k_whole))))
local macro_rules | `(tactic| walk_at "eval ListComp") => `(tactic| (k_here; (with_reducible show wpAny _ _ (eval (Expr.ListComp _ [Comprehension.mk _ _ [] _] _ _) _) _ _ _); k_dflt (refine ListComp_D (F₀ := by k_asm) (by with_unfolding_all rfl) (by decide) (by rfl) (by decide) (by rfl) ?_)))
local macro_rules | `(tactic| walk_at "eval ListComp") => `(tactic| (k_here; (with_reducible show wpAny _ _ (eval (Expr.ListComp _ [Comprehension.mk _ _ [_] _] _ _) _) _ _ _); k_dflt (refine ListComp_E (F₀ := by k_asm) (by with_unfolding_all rfl) (by decide) (by rfl) (by decide) (by rfl) ?_)))
local macro_rules | `(tactic| walk_at "call type:tuple") => `(tactic| (k_here; (with_reducible show wpAny _ _ (call (Value.type _) [Value.ref _]) _ _ _); k_dflt (refine' my_tupleOf ?k1 ?k2 ?k3 ?k4 ?k5 ?_; (case k1 => k_asm); (case k2 => k_asm); (case k3 => ktr_rel); (case k4 => assumption); (case k5 => omega)); intro D' o' h' F' N' hT' l1))
section
theorem off_16 : True := by
  w_top off
  trivial
/-! ### _law_way, _law_side, _law_clear -/
theorem range_down {d : Int} (h0 : 0 ≤ d) (h1 : d ≤ 16) : Builtin.Range.small (d - 1) (-1) (-1) = true ∧ Builtin.Range.rangeSize (d - 1) (-1) (-1) = ((d.toNat : Nat) : Int) := by
  obtain ⟨n, rfl⟩ := Int.eq_ofNat_of_zero_le h0
  have : n ≤ 16 := by omega
  clear h0 h1
  have : n = 0 ∨ n = 1 ∨ n = 2 ∨ n = 3 ∨ n = 4 ∨ n = 5 ∨ n = 6 ∨ n = 7 ∨ n = 8 ∨ n = 9 ∨ n = 10 ∨ n = 11 ∨ n = 12 ∨ n = 13 ∨ n = 14 ∨ n = 15 ∨ n = 16 := by omega
  rcases this with rfl | rfl | rfl | rfl | rfl | rfl | rfl | rfl | rfl | rfl | rfl | rfl | rfl | rfl | rfl | rfl | rfl <;> exact ⟨by decide, by decide⟩
def downL (f : Nat → By) (d : Nat) : Nat → List By
  | 0 => []
  | i + 1 => downL f d i ++ [f (d - 1 - i)]
theorem downL_length (f : Nat → By) (d : Nat) : ∀ i, (downL f d i).length = i
  | 0 => rfl
  | i + 1 => by rw [downL, List.length_append, downL_length, List.length_singleton]
def wayF (N : Nat → Int → By) (number : Int) (h : Nat) : By := N h (number.fdiv (2 ^ h))
def sideF (N : Nat → Int → By) (number : Int) (h : Nat) : By := N h (Builtin.bitXor (number.fdiv (2 ^ h)) 1)
section
variable {prog : Program} {w : World} {p : Program} {loose : List Str} {mean : ExcName → Option Value} {mg mb : Str → Option Value} {dp un : Nat} {gd : Option (List Code)} {cn : Str} {cs : Scope} {a : Addr} {ccd : Value} {cl : List (Str × Addr)} {outer : List Env} {A₀ : Around} {base h₀ : Heap} {L : Addr} {m : Str → Option Value} {s : Shared} {Q E : Value → Shared → Prop}
theorem way_call {ll le : Addr} {news : Led} {Ds : List (List (Int × By))} {es : List By} {number depth : Int} {t1 t2 : Tok} (Bl : Below A₀ base outer h₀) (F : Fr h₀ L s.heap m) (X : (hd.heap_39 w.params).In h₀) (T : Top p loose mean mg mb h₀) (hk : cs.kind = .function) (hdp : dp + 6 < recursionLimit) (hun : un + 60 < cLine)
    (N : News h₀ L s.heap news) (hL : LevAt prog w news ll le Ds es) 
    (hn0 : 0 ≤ number) (hn1 : number < 65536) (hd0 : 0 ≤ depth) (hd1 : depth ≤ 16) (hel : es.length = depth.toNat + 1)
    (ret : ∀ h' tk' r o, Fr h₀ L h' m → News h₀ L h' ((r, o) :: news) → TupB o (downL (wayF (nm Ds es) number) depth.toNat depth.toNat) → (∀ p ∈ news, @LT.lt Nat _ p.1 r) → Q (.ref r) { s with heap := h', toks := tk' }) :
    wpAny (model prog w) (ktrTop dp un gd cn cs L a ccd cl outer) (call (.ref 210) [.ref ll, .ref le, .int number t1, .int depth t2]) Q E s := by
  refine wpAny_call ?_
  k_dflt (refine' code_defC (binds := [((Str.ofString "levels"), .ref ll), ((Str.ofString "empty"), .ref le), ((Str.ofString "number"), .int number t1), ((Str.ofString "depth"), .int depth t2)]) ?k1 ?k2 ?k3 ?k4 ?k5 ?kA ?kF ?kK ?k6 ?k7 ?k8 ?k9 ?kB ?kD ?_ ?c2 ?c3 ?c4; (case kA => exact rfl); (case kF => exact rfl); (case kK => assumption); (case k1 => k_asm); (case k2 => k_asm); (case k3 => k_asm); (case k4 => k_asm); (case k5 => k_asm); (case k6 => k_is); (case k7 => k_is); (case k8 => exact Nat.lt_of_le_of_lt (Nat.le_add_right _ _) hdp); (case k9 => exact BindsTo.of_eq rfl); (case kB => exact rfl); (case kD => decide +kernel); (case c2 => exact rfl); (case c3 => exact rfl); (case c4 => exact rfl); intro g' L' h' tk' cells' FG' F' N' Y' B' X' T' l1); obtain ⟨oc1, oc2, oc3, hE', d1', d2', d3'⟩ := CellsAre.three Y'; subst hE'; clear Y'; (try simp only [List.cons_append, List.nil_append] at N')
  have e1 : oc1.data = .cell (some (.int number t1)) := d1'
  have e2 : oc2.data = .cell (some (.ref le)) := d2'
  have e3 : oc3.data = .cell (some (.ref ll)) := d3'
  clear d1' d2' d3'
  k_steps
  have hsr := range_down hd0 hd1
  refine ⟨_, _, _, _, _, _, _, _, _, rfl, rfl, by assumption, by assumption, by assumption, hsr.1, hsr.2, by rw [sizeLine_eq]; omega, ?_⟩
  rintro _ ⟨h₁, rfl⟩
  refine rest_U (fun i ys => VB ys (downL (wayF (nm Ds es) number) depth.toNat i)) trivial ?turn ?fin _ 0 [] (Nat.zero_add _) .nil
  case turn =>
    rintro i v ys I oI C oC D m₂ h tk E' hi hj ⟨t, rfl⟩ hC hx F₁ N₁
    have hL₁ := hL.mono (news' := (I, oI) :: (C, oC) :: (D, LCg.lst ys) :: (L' + 1 + 1 + 1, oc1) :: (L' + 1 + 1, oc2) :: (L' + 1, oc3) :: news) (by intro p hp; ktr_rel)
    clear hL
    k_steps
    have q : (depth - 1 + (i : Int) * -1).toNat = depth.toNat - 1 - i := by omega
    exact ⟨_, _, rfl, by assumption, by assumption, hj.append (by rw [q]; exact .cons .nil)⟩
  case fin =>
    intro ys hj D h tk F₂ N₂ off
    have hLB : ListB (LCg.lst ys) (downL (wayF (nm Ds es) number) depth.toNat depth.toNat) := ⟨_, ⟨_, rfl⟩, hj⟩
    have hlz := downL_length (wayF (nm Ds es) number) depth.toNat depth.toNat
    k_steps
    rename TupB _ _ => hT
    rename Fr h₀ _ _ _ => kF
    rename News h₀ _ _ _ => kN
    rename (∀ p, p ∈ _ → Prod.fst p < _) => lt
    exact ret _ _ _ _ kF (fun p hp => kN p (by rcases List.mem_cons.mp hp with rfl | hp <;> ktr_rel)) hT (fun p hp => lt p (by ktr_rel))
theorem side_call {ll le : Addr} {news : Led} {Ds : List (List (Int × By))} {es : List By} {number depth : Int} {t1 t2 : Tok} (Bl : Below A₀ base outer h₀) (F : Fr h₀ L s.heap m) (X : (hd.heap_39 w.params).In h₀) (T : Top p loose mean mg mb h₀) (hk : cs.kind = .function) (hdp : dp + 6 < recursionLimit) (hun : un + 60 < cLine)
    (N : News h₀ L s.heap news) (hL : LevAt prog w news ll le Ds es) 
    (hn0 : 0 ≤ number) (hn1 : number < 65536) (hd0 : 0 ≤ depth) (hd1 : depth ≤ 16) (hel : es.length = depth.toNat + 1)
    (ret : ∀ h' tk' r o, Fr h₀ L h' m → News h₀ L h' ((r, o) :: news) → TupB o (downL (sideF (nm Ds es) number) depth.toNat depth.toNat) → (∀ p ∈ news, @LT.lt Nat _ p.1 r) → Q (.ref r) { s with heap := h', toks := tk' }) :
    wpAny (model prog w) (ktrTop dp un gd cn cs L a ccd cl outer) (call (.ref 215) [.ref ll, .ref le, .int number t1, .int depth t2]) Q E s := by
  refine wpAny_call ?_
  k_dflt (refine' code_defC (binds := [((Str.ofString "levels"), .ref ll), ((Str.ofString "empty"), .ref le), ((Str.ofString "number"), .int number t1), ((Str.ofString "depth"), .int depth t2)]) ?k1 ?k2 ?k3 ?k4 ?k5 ?kA ?kF ?kK ?k6 ?k7 ?k8 ?k9 ?kB ?kD ?_ ?c2 ?c3 ?c4; (case kA => exact rfl); (case kF => exact rfl); (case kK => assumption); (case k1 => k_asm); (case k2 => k_asm); (case k3 => k_asm); (case k4 => k_asm); (case k5 => k_asm); (case k6 => k_is); (case k7 => k_is); (case k8 => exact Nat.lt_of_le_of_lt (Nat.le_add_right _ _) hdp); (case k9 => exact BindsTo.of_eq rfl); (case kB => exact rfl); (case kD => decide +kernel); (case c2 => exact rfl); (case c3 => exact rfl); (case c4 => exact rfl); intro g' L' h' tk' cells' FG' F' N' Y' B' X' T' l1); obtain ⟨oc1, oc2, oc3, hE', d1', d2', d3'⟩ := CellsAre.three Y'; subst hE'; clear Y'; (try simp only [List.cons_append, List.nil_append] at N')
  have e1 : oc1.data = .cell (some (.int number t1)) := d1'
  have e2 : oc2.data = .cell (some (.ref le)) := d2'
  have e3 : oc3.data = .cell (some (.ref ll)) := d3'
  clear d1' d2' d3'
  k_steps
  have hsr := range_down hd0 hd1
  refine ⟨_, _, _, _, _, _, _, _, _, rfl, rfl, by assumption, by assumption, by assumption, hsr.1, hsr.2, by rw [sizeLine_eq]; omega, ?_⟩
  rintro _ ⟨h₁, rfl⟩
  refine rest_U (fun i ys => VB ys (downL (sideF (nm Ds es) number) depth.toNat i)) trivial ?turn ?fin _ 0 [] (Nat.zero_add _) .nil
  case turn =>
    rintro i v ys I oI C oC D m₂ h tk E' hi hj ⟨t, rfl⟩ hC hx F₁ N₁
    have hL₁ := hL.mono (news' := (I, oI) :: (C, oC) :: (D, LCg.lst ys) :: (L' + 1 + 1 + 1, oc1) :: (L' + 1 + 1, oc2) :: (L' + 1, oc3) :: news) (by intro p hp; ktr_rel)
    clear hL
    k_steps
    have q : (depth - 1 + (i : Int) * -1).toNat = depth.toNat - 1 - i := by omega
    exact ⟨_, _, rfl, by assumption, by assumption, hj.append (by rw [q]; exact .cons .nil)⟩
  case fin =>
    intro ys hj D h tk F₂ N₂ off
    have hLB : ListB (LCg.lst ys) (downL (sideF (nm Ds es) number) depth.toNat depth.toNat) := ⟨_, ⟨_, rfl⟩, hj⟩
    have hlz := downL_length (sideF (nm Ds es) number) depth.toNat depth.toNat
    k_steps
    rename TupB _ _ => hT
    rename Fr h₀ _ _ _ => kF
    rename News h₀ _ _ _ => kN
    rename (∀ p, p ∈ _ → Prod.fst p < _) => lt
    exact ret _ _ _ _ kF (fun p hp => kN p (by rcases List.mem_cons.mp hp with rfl | hp <;> ktr_rel)) hT (fun p hp => lt p (by ktr_rel))
end
/-- two lists of ints -/
theorem my_eq_ints {prog : Program} {w : World} {A : Around} {E : Value → Shared → Prop} {s : Shared} {h₀ : Heap} {L a b : Addr} {news : Led} {oa ob : Obj} {xs ys : List Value} {ns ms : List Int} {Q : Value → Shared → Prop} (N : News h₀ L s.heap news) (ha : (a, oa) ∈ news) (hb : (b, ob) ∈ news) (va : ListV oa xs) (vb : ListV ob ys) (hi : IntsAre xs ns) (hj : IntsAre ys ms) (hu : A.units + 64 < cLine) (h : Q (.bool (decide (ns = ms))) s) : wpAny (model prog w) A (compareOp .Eq (.ref a) (.ref b)) Q E s :=
  ke_eq_ints (ListV.isList N ha va) (ListV.isList N hb vb) hi hj hu h
def clearP (N : Nat → Int → By) (KD : List (By × By)) (number : Int) (n : Nat) : Prop := ∀ h, h < n → (get KD (wayF N number h)).isSome = true
section
variable {prog : Program} {w : World} {p : Program} {loose : List Str} {mean : ExcName → Option Value} {mg mb : Str → Option Value} {dp un : Nat} {gd : Option (List Code)} {cn : Str} {cs : Scope} {a : Addr} {ccd : Value} {cl : List (Str × Addr)} {outer : List Env} {A₀ : Around} {base h₀ : Heap} {L : Addr} {m : Str → Option Value} {s : Shared} {Q E : Value → Shared → Prop}
theorem clear_call {kn ll le : Addr} {ok : Obj} {news : Led} {KD : List (By × By)} {Ds : List (List (Int × By))} {es : List By} {number depth : Int} {t1 t2 : Tok} (Bl : Below A₀ base outer h₀) (F : Fr h₀ L s.heap m) (X : (hd.heap_39 w.params).In h₀) (T : Top p loose mean mg mb h₀) (hk : cs.kind = .function) (hdp : dp + 6 < recursionLimit) (hun : un + 150 < cLine)
    (N : News h₀ L s.heap news) (hL : LevAt prog w news ll le Ds es) (hm : (kn, ok) ∈ news) (hT : Tab (bytesKind prog w) ok KD) (hlo : (kn == sysModules) = false)
    (hn0 : 0 ≤ number) (hn1 : number < 65536) (hd0 : 0 ≤ depth) (hd1 : depth ≤ 16) (hel : es.length = depth.toNat + 1)
    (ret : ∀ h' tk' (b : Bool), Fr h₀ L h' m → News h₀ L h' news → (b = true ↔ clearP (nm Ds es) KD number (depth.toNat + 1)) → Q (.bool b) { s with heap := h', toks := tk' }) :
    wpAny (model prog w) (ktrTop dp un gd cn cs L a ccd cl outer) (call (.ref 205) [.ref kn, .ref ll, .ref le, .int number t1, .int depth t2]) Q E s := by
  refine wpAny_call ?_
  k_dflt (refine' code_defC (binds := [((Str.ofString "known"), .ref kn), ((Str.ofString "levels"), .ref ll), ((Str.ofString "empty"), .ref le), ((Str.ofString "number"), .int number t1), ((Str.ofString "depth"), .int depth t2)]) ?k1 ?k2 ?k3 ?k4 ?k5 ?kA ?kF ?kK ?k6 ?k7 ?k8 ?k9 ?kB ?kD ?_ ?c2 ?c3 ?c4; (case kA => exact rfl); (case kF => exact rfl); (case kK => assumption); (case k1 => k_asm); (case k2 => k_asm); (case k3 => k_asm); (case k4 => k_asm); (case k5 => k_asm); (case k6 => k_is); (case k7 => k_is); (case k8 => exact Nat.lt_of_le_of_lt (Nat.le_add_right _ _) hdp); (case k9 => exact BindsTo.of_eq rfl); (case kB => exact rfl); (case kD => decide +kernel); (case c2 => exact rfl); (case c3 => exact rfl); (case c4 => exact rfl); intro g' L' h' tk' cells' FG' F' N' Y' B' X' T' l1); obtain ⟨oc1, oc2, oc3, oc4, hE', d1', d2', d3', d4'⟩ := CellsAre.four Y'; subst hE'; clear Y'; (try simp only [List.cons_append, List.nil_append] at N')
  have e1 : oc1.data = .cell (some (.int number t1)) := d1'
  have e2 : oc2.data = .cell (some (.ref le)) := d2'
  have e3 : oc3.data = .cell (some (.ref ll)) := d3'
  have e4 : oc4.data = .cell (some (.ref kn)) := d4'
  clear d1' d2' d3' d4'
  k_steps
  have hsr := small_range2 (a := 0) (b := depth + 1) (by decide) (by omega) (by omega)
  rw [show (depth + 1 - 0) = depth + 1 by omega] at hsr
  have hdt : (depth + 1).toNat = depth.toNat + 1 := by omega
  refine Stop.get (LCt.CompSrcT.range (n := (depth + 1).toNat) rfl (by assumption) (by assumption) (by assumption) hsr.1 hsr.2 (by rw [sizeLine_eq]; omega) fun h₁ => ?_)
  refine rest_T (fun i ys => ∃ ns, IntsAre ys ns ∧ (ns = [] ↔ clearP (nm Ds es) KD number i)) trivial ?turn ?fin _ 0 [] (Nat.zero_add _) ⟨[], .nil, ⟨fun _ h hh => absurd hh (Nat.not_lt_zero _), fun _ => rfl⟩⟩
  case turn =>
    rintro i v ys I oI C oC D m₂ h tk E' hi ⟨ns, hj, hcl⟩ ⟨t, rfl⟩ hC hx F₁ N₁
    have hL₁ := hL.mono (news' := (I, oI) :: (C, oC) :: (D, LCg.lst ys) :: (L' + 1 + 1 + 1 + 1, oc1) :: (L' + 1 + 1 + 1, oc2) :: (L' + 1 + 1, oc3) :: (L' + 1, oc4) :: news) (by intro p hp; ktr_rel)
    clear hL
    have hwf : nm Ds es (0 + (i : Int)).toNat (number.fdiv (2 ^ (0 + (i : Int)).toNat)) = wayF (nm Ds es) number i := by
      rw [show (0 + (i : Int)).toNat = i by omega]; rfl
    cases hg : get KD (nm Ds es (0 + (i : Int)).toNat (number.fdiv (2 ^ (0 + (i : Int)).toNat))) with
    | none =>
      k_steps
      refine ⟨_, _, rfl, by assumption, by assumption, ns ++ [0 + (i : Int)], hj.append (.cons _ _ .nil), ⟨fun q => absurd q (by simp), fun q => ?_⟩⟩
      have := q i (Nat.lt_succ_self i)
      rw [← hwf, hg] at this
      exact absurd this (by simp)
    | some v =>
      k_steps
      refine ⟨_, _, rfl, by assumption, by assumption, ns, hj, hcl.trans ⟨fun q h hh => ?_, fun q h hh => q h (Nat.lt_succ_of_lt hh)⟩⟩
      rcases Nat.lt_succ_iff_lt_or_eq.mp hh with hh | rfl
      · exact q h hh
      · rw [← hwf, hg]; rfl
  case fin =>
    rintro ys ⟨ns, hj, hcl⟩ D h tk F₂ N₂ off
    have hvD : ListV (LCg.lst ys) ys := ⟨_, rfl⟩
    k_steps
    (k_here; k_dflt (refine' my_eq_ints ?k1 ?k2 ?k3 ?k4 ?k5 ?k6 ?k7 ?k8 ?_; (case k1 => k_asm); (case k2 => ktr_rel); (case k3 => ktr_rel); (case k4 => assumption); (case k5 => assumption); (case k6 => assumption); (case k7 => exact .nil); (case k8 => ktr_unf)))
    k_steps
    rename Fr h₀ _ _ _ => kF
    rename News h₀ _ _ _ => kN
    rw [hdt] at hcl
    exact ret _ _ _ kF (fun p hp => kN p (by ktr_rel)) (by rw [decide_eq_true_iff]; exact hcl)
end
theorem weight_tc (C : Addr) (vals : List Value) (kw : List (Str × Value)) : (Code.builtin "type.__call__" ⟨.ref C :: vals, kw⟩).weight = 1 := rfl
theorem units_tc (a : Args) : (Code.builtin "type.__call__" a).cUnits = 1 := rfl
end
section
local macro_rules | `(tactic| walk_at "no such key 17") => `(tactic| fail)
theorem off_18 : True := by
  w_top off
  trivial
/-! ### _law_hash -/
theorem hashfn_fin {h₀ h : Heap} {L f c' c Lx bk : Addr} {q : Str} {dc mn ct : Value} {oc o : Obj} {vs : Array Value} {t : Tok} {ps : Array Value} {rest : Led}
    (N : News h₀ L h ((f, fnMade (Str.ofString "hash_of") q hashArgs hashBody hashScope [(Str.ofString "book", c)] dc mn c' ct) :: (c', oc) :: (c, o) :: (167, tabObj ps) :: rest))
    (d1 : oc.data = .fields vs) (d2 : vs[1]? = some (.str q t)) (e1 : o.data = .cell (some (.ref bk))) (hr : ∀ q ∈ rest, @LT.lt Nat _ q.1 Lx) (h1 : @LT.lt Nat _ 167 Lx) (h2 : @LT.lt Nat _ Lx c) (h3 : @LT.lt Nat _ c c' ∧ @LT.lt Nat _ c' f) :
    ∃ news', News h₀ L h ((167, tabObj ps) :: (news' ++ rest)) ∧ HashFn news' f bk ∧ ∀ p ∈ news', @LT.lt Nat _ 167 p.1 ∧ ∀ q ∈ rest, @LT.lt Nat _ q.1 p.1 := by
  refine ⟨[(f, fnMade (Str.ofString "hash_of") q hashArgs hashBody hashScope [(Str.ofString "book", c)] dc mn c' ct), (c', oc), (c, o)], fun p hp => N p ?_, ⟨c, c', oc, vs, t, o, q, dc, mn, ct, .head _, .tail _ (.head _), d1, d2, .tail _ (.tail _ (.head _)), e1⟩, ?_⟩
  · simp only [List.cons_append, List.nil_append, List.mem_cons] at hp ⊢
    rcases hp with h | h | h | h | h <;> simp [h]
  · intro p hp
    simp only [List.mem_cons, List.not_mem_nil, or_false] at hp
    rcases hp with rfl | rfl | rfl
    · exact ⟨by show @LT.lt Nat _ 167 f; omega, fun q hq => by have := hr q hq; show @LT.lt Nat _ q.1 f; omega⟩
    · exact ⟨by show @LT.lt Nat _ 167 c'; omega, fun q hq => by have := hr q hq; show @LT.lt Nat _ q.1 c'; omega⟩
    · exact ⟨by show @LT.lt Nat _ 167 c; omega, fun q hq => by have := hr q hq; show @LT.lt Nat _ q.1 c; omega⟩
section
variable {prog : Program} {w : World} {p : Program} {loose : List Str} {mean : ExcName → Option Value} {mg mb : Str → Option Value} {dp un : Nat} {gd : Option (List Code)} {cn : Str} {cs : Scope} {a : Addr} {ccd : Value} {cl : List (Str × Addr)} {outer : List Env} {A₀ : Around} {base h₀ : Heap} {L : Addr} {m : Str → Option Value} {s : Shared} {Q E : Value → Shared → Prop}
theorem hashfn_call {bk : Addr} {rest : Led} (Bl : Below A₀ base outer h₀) (F : Fr h₀ L s.heap m) (X : (hd.heap_39 w.params).In h₀) (T : Top p loose mean mg mb h₀) (hk : cs.kind = .function) (hdp : dp + 3 < recursionLimit) (hun : un + 60 < cLine) (hcd : CodeHd h₀ 171 167)
    (N : News h₀ L s.heap ((167, tabObj #[]) :: rest)) (hoff : OwnOff rest [167])
    (ret : ∀ h' tk' f ps news', Fr h₀ L h' m → News h₀ L h' ((167, tabObj ps) :: (news' ++ rest)) → HashFn news' f bk → (∀ p ∈ news', @LT.lt Nat _ 167 p.1 ∧ ∀ q ∈ rest, @LT.lt Nat _ q.1 p.1) → Q (.ref f) { s with heap := h', toks := tk' }) :
    wpAny (model prog w) (ktrTop dp un gd cn cs L a ccd cl outer) (call (.ref 172) [.ref bk]) Q E s := by
  refine wpAny_call ?_
  k_dflt (refine' code_defC (binds := [((Str.ofString "book"), .ref bk)]) ?k1 ?k2 ?k3 ?k4 ?k5 ?kA ?kF ?kK ?k6 ?k7 ?k8 ?k9 ?kB ?kD ?_ ?c2 ?c3 ?c4; (case kA => exact rfl); (case kF => exact rfl); (case kK => assumption); (case k1 => k_asm); (case k2 => k_asm); (case k3 => k_asm); (case k4 => k_asm); (case k5 => k_asm); (case k6 => k_is); (case k7 => k_is); (case k8 => exact Nat.lt_of_le_of_lt (Nat.le_add_right _ _) hdp); (case k9 => exact BindsTo.of_eq rfl); (case kB => exact rfl); (case kD => decide +kernel); (case c2 => exact rfl); (case c3 => exact rfl); (case c4 => exact rfl); intro g' L' h' tk' cells' FG' F' N' Y' B' X' T' l1); obtain ⟨oc1, hE', d1'⟩ := CellsAre.one Y'; subst hE'; clear Y'; (try simp only [List.cons_append, List.nil_append] at N')
  have e1 : oc1.data = .cell (some (.ref bk)) := d1'
  clear d1'
  have hcd' := CodeHd.keeps hcd FG'.keep
  have hl1 : @LT.lt Nat _ 167 L' := l1 _ (.head _)
  k_steps
  rename Fr h₀ _ _ _ => kF
  rename News h₀ _ _ _ => kN
  rename Obj.data _ = Data.fields _ => d1
  rename _ = some (Value.str _ _) => d2
  rename _ ∧ _ ∧ AllLt _ _ => lB
  have lC : @LT.lt Nat _ _ _ := lB.1
  rename @LT.lt Addr _ _ _ => lD'
  have lD : @LT.lt Nat _ _ _ := lD'
  obtain ⟨news', kN2, hH, hlt⟩ := hashfn_fin kN d1 d2 e1 (fun q hq => l1 q (.tail _ hq)) hl1 (by omega) (by omega)
  exact ret _ _ _ _ news' kF kN2 hH hlt
end
end
local macro_rules | `(tactic| ktr_unf) => `(tactic| ((try dsimp only [ktrTop, Around.deeper, Around.mark, Around.in1, Around.under]); (try simp only [weight_tc, units_tc]); omega))
section
theorem off_19 : True := by
  w_top off
  trivial
/-! ### the tree -/
def ent (w : World) (k : String) (t : Tok) (v : Value) : DictEntry := { hash := PyData.keyHash w.params (PySem.Str.ofString k), key := .str (PySem.Str.ofString k) t, val := v }
def treeL (w : World) (size : Int) (dflt : Array UInt8) (f db : Addr) (root : Array UInt8) (t0 t1 t2 t3 t4 t5 t6 t7 t8 t9 : Tok) : List DictEntry :=
  [ent w "_key_size" t0 (.int size t1), ent w "depth" t2 (.int (size * 8) t3), ent w "_default" t4 (.bytes dflt t5), ent w "hash_of" t6 (.ref f), ent w "db" t7 (.ref db), ent w "root_hash" t8 (.bytes root t9)]
section
variable {prog : Program} {w : World} {p : Program} {loose : List Str} {mean : ExcName → Option Value} {mg mb : Str → Option Value} {dp un : Nat} {gd : Option (List Code)} {cn : Str} {cs : Scope} {a : Addr} {ccd : Value} {cl : List (Str × Addr)} {outer : List Env} {A₀ : Around} {base h₀ : Heap} {L : Addr} {m : Str → Option Value} {s : Shared} {Q E : Value → Shared → Prop}
def ClsJ (prog : Program) (w : World) (B : List By) (m₀ : Str → Option Value) (fr₀ : Led) (i : Nat) (m : Str → Option Value) (fr : Led) : Prop :=
  ∃ u1 u2 b t x d db bk ox od odb₀ ob₀ odb ob Bi D, m = ovr [(Str.ofString "_", u1), (Str.ofString "node_hash", u2), (Str.ofString "node", some (.bytes b t))] m₀ ∧ [(db, odb₀), (x, ox), (d, od), (bk, ob₀)] = fr₀ ∧ fr = [(db, odb), (x, ox), (d, od), (bk, ob)] ∧
    Book (prog := prog) (w := w) ob Bi ∧ B <+: Bi ∧ Bi.length ≤ B.length + i ∧ Tab (bytesKind prog w) odb D ∧ D.length ≤ i ∧ b.size ≤ 300
theorem cls_call {f bk : Addr} {o : Obj} {B : List By} {rest : Led} {size : Int} {dflt : Array UInt8} {t1 t2 : Tok} (Bl : Below A₀ base outer h₀) (F : Fr h₀ L s.heap m) (X : (hd.heap_39 w.params).In h₀) (T : Top p loose mean mg mb h₀) (hk : cs.kind = .function) (hdp : dp + 6 < recursionLimit) (hun : un + 60 < cLine)
    (N : News h₀ L s.heap ((bk, o) :: rest)) (hoff : OwnOff rest [bk]) (hf : HashFn rest f bk) (hB : Book (prog := prog) (w := w) o B) (hlen : B.length ≤ 900000) (hlo : (bk == sysModules) = false) (hdz : dflt.size ≤ 300) (hs0 : 1 ≤ size) (hs1 : size ≤ 2)
    (ret : ∀ h' tk' x d db o' B' root u0 u1 u2 u3 u4 u5 u6 u7 u8 u9, Fr h₀ L h' m → News h₀ L h' ((x, instObj 161 d) :: (d, dictOf (treeL w size dflt f db root u0 u1 u2 u3 u4 u5 u6 u7 u8 u9) 6) :: (bk, o') :: rest) → Book (prog := prog) (w := w) o' B' → B <+: B' → B'.length ≤ B.length + 20 →
      @LT.lt Nat _ d x → @LT.lt Nat _ bk d → (∀ p ∈ rest, @LT.lt Nat _ p.1 d) → Q (.ref x) { s with heap := h', toks := tk' }) :
    wpAny (model prog w) (ktrTop dp un gd cn cs L a ccd cl outer) (call (.ref 161) [.ref f] [(Str.ofString "key_size", .int size t1), (Str.ofString "default", .bytes dflt t2)]) Q E s := by
  (k_here; k_dflt (refine' call_cls ?k1 ?k2 ?k3 ?k4 ?k5 ?k6 ?_; (case k1 => k_asm); (case k2 => k_asm); (case k3 => k_asm); (case k4 => k_is); (case k5 => k_is); (case k6 => k_is); k_whole; intro x' d' h' F' N' l1 l2))
  have l3 : @LT.lt Nat _ d' x' := l2
  have l4 : @LT.lt Nat _ bk d' := l1 _ (.head _)
  have hoff' : OwnOff rest [x', d', bk] := by
    refine offs fun p hp b hb => ?_
    have h1 : @LT.lt Nat _ p.1 d' := l1 p (.tail _ hp)
    rcases List.mem_cons.mp hb with rfl | hb
    · exact Nat.ne_of_lt (Nat.lt_trans h1 l3)
    · rcases List.mem_cons.mp hb with rfl | hb
      · exact Nat.ne_of_lt h1
      · exact hoff p hp b hb
  have l5 : ∀ p ∈ rest, @LT.lt Nat _ p.1 d' := fun p hp => l1 p (.tail _ hp)
  clear l1 l2 hoff
  k_dflt (refine' code_def (binds := [((Str.ofString "self"), .ref x'), ((Str.ofString "hash_of"), .ref f), ((Str.ofString "key_size"), .int size t1), ((Str.ofString "default"), .bytes dflt t2)]) ?k1 ?k2 ?k3 ?k4 ?k5 ?kA ?kF ?kK ?k6 ?k7 ?k8 ?k9 ?kB ?_ ?c2 ?c3 ?c4 ?c5; (case kA => exact rfl); (case kF => exact rfl); (case kK => assumption); (case k1 => k_asm); (case k2 => k_asm); (case k3 => k_asm); (case k4 => k_asm); (case k5 => k_asm); (case k6 => k_is); (case k7 => k_is); (case k8 => first | exact Nat.lt_of_le_of_lt (Nat.le_add_right _ _) hdp | exact Nat.lt_of_le_of_lt (show _ ≤ dp + 1 from Nat.le_refl _) (by omega) | exact Nat.lt_of_le_of_lt (show _ ≤ dp + 2 from Nat.le_refl _) (by omega)); (case k9 => first | exact BindsTo.of_eq rfl | exact binds_K (by k_in) rfl (by k_is) rfl rfl rfl); (case c5 => decide); (case kB => exact locs rfl); (case c2 => exact rfl); (case c3 => exact rfl); (case c4 => exact rfl); intro g' L' h' FG' F' N' B' X' T')
  k_steps
  rename_i db odb hx1 F1 N1 lt1 lodb TI1 TB1
  have q1 : @LT.lt Nat _ x' db := lt1 _ (.head _)
  have q2 : @LT.lt Nat _ d' db := lt1 _ (.tail _ (.head _))
  have q3 : @LT.lt Nat _ bk db := lt1 _ (.tail _ (.tail _ (.head _)))
  have hoff2 : OwnOff rest [db, x', d', bk] := by
    refine offs fun p hp b hb => ?_
    rcases List.mem_cons.mp hb with rfl | hb
    · exact Nat.ne_of_lt (lt1 p (.tail _ (.tail _ (.tail _ hp))))
    · exact hoff' p hp b hb
  clear lt1 hoff' TI1
  dsimp only at N1
  k_steps
  rename IsRange _ _ _ _ _ _ _ _ => hR
  rename Fr g' _ _ _ => hF
  rename News g' _ _ _ => hN
  have hsr := small_range2 (a := 0) (b := size * 8) (by decide) (by omega) (by omega)
  rw [show (size * 8 - 0) = size * 8 by omega] at hsr
  refine Stop.get (iter_range (n := (size * 8).toNat) (fr₀ := [(db, odb), (x', _), (d', _), (bk, o)]) (rest := rest) (ClsJ prog w B) rfl hR hsr.1 hsr.2 hF hN ?off ?j0 ?turn ?done)
  case off => exact offs fun p hp b hb => hoff2 p hp b hb
  case j0 =>
    exact ⟨_, _, dflt, t2, _, _, _, _, _, _, _, _, _, _, B, [], ovr_of [Str.ofString "_", Str.ofString "node_hash", Str.ofString "node"] (fun _ _ => rfl), rfl, rfl, hB, List.prefix_refl _, Nat.le_refl _, TB1, Nat.le_refl _, hdz⟩
  case turn =>
    rintro i t m₁ fr rest' h tk hi ⟨u1, u2, b, tb, x', d', db, bk, ox, od, odb₀, ob₀, odb, ob, Bi, D, rfl, e0, rfl, hBi, hpre, hlb, hTD, hD, hbz⟩ ho hs F₂ N₂
    simp only [List.cons.injEq, Prod.mk.injEq, and_true, true_and] at e0
    obtain ⟨⟨rfl, rfl⟩, ⟨rfl, rfl⟩, ⟨rfl, rfl⟩, rfl, rfl⟩ := e0
    simp only [List.map_cons, List.map_nil] at ho
    simp only [List.cons_append, List.nil_append] at N₂
    have hf' := hf.mono hs
    have hBiz : Bi.length < 1000000 := by omega
    have hDz : D.length ≤ 16777216 := by omega
    k_steps
    rename Named _ _ _ => hn1
    have hn2 := hn1.length
    k_steps
    rename _ <+: _ => hp2
    rename Book _ _ => hB2
    rename Tab (bytesKind _ _) _ _ => hT2
    refine ⟨_, _, _, _, _, rfl, by assumption, by assumption, ?a, ?b, ?c, _, _, _, _, _, _, _, _, _, _, _, _, _, _, _, _, ovr_of [Str.ofString "_", Str.ofString "node_hash", Str.ofString "node"] ?d, rfl, rfl, hB2, hpre.trans hp2, by omega, hT2, Nat.le_trans (put_length_le _ _ _) (by omega), by simp; omega⟩
    case a => exact fun p hp => List.mem_append_left rest' hp
    case b => exact fun p hp => List.mem_append_right [_, _, _, _] hp
    case c => exact ho
    case d =>
      intro z hz
      simp only [List.mem_cons, List.not_mem_nil, or_false, not_or] at hz
      obtain ⟨z1, z2, z3⟩ := hz
      simp only [ovr, z1, z2, z3, if_false]
  case done =>
    rintro m₁ fr h tk ⟨u1, u2, b, tb, x', d', db, bk, ox, od, odb₀, ob₀, odb, ob, Bi, D, rfl, e0, rfl, hBi, hpre, hlb, hTD, hD, hbz⟩ ho F₂ N₂
    simp only [List.cons.injEq, Prod.mk.injEq, and_true, true_and] at e0
    obtain ⟨⟨rfl, rfl⟩, ⟨rfl, rfl⟩, ⟨rfl, rfl⟩, rfl, rfl⟩ := e0
    simp only [List.map_cons, List.map_nil] at ho
    simp only [List.cons_append, List.nil_append] at N₂
    have hBiz : Bi.length < 1000000 := by omega
    have hDz : D.length ≤ 16777216 := by omega
    k_steps
    rename _ <+: _ => hp2
    rename Book _ _ => hB2
    rename Fr h₀ _ _ _ => kF
    rename News h₀ _ _ _ => kN
    dsimp only at kN
    have kN2 := fun p hp => kN p (List.Mem.tail _ hp)
    exact ret _ _ x' d' db _ _ _ _ _ _ _ _ _ _ _ _ _ kF kN2 hB2 (hpre.trans hp2) (by omega) l3 l4 l5
end
end
section
local macro_rules | `(tactic| walk_at "no such key 20") => `(tactic| fail)
theorem off_21 : True := by
  w_top off
  trivial
/-! ### small functions of the project -/
theorem my_lenB {prog : Program} {w : World} {A : Around} {E : Value → Shared → Prop} {s : Shared} {b : Array UInt8} {t : Tok} {Q : Value → Shared → Prop} (hz : b.size ≤ 1000) (h : ∀ t' k, Q (.int (b.size : Int) t') { s with toks := k }) : wpAny (model prog w) A (call (.builtin "len") [.bytes b t]) Q E s := by
  have e : (KBw.bInts b).length = b.size := by unfold KBw.bInts; simp
  refine KBw.len_K (ks := KBw.bInts b) rfl (by rw [e]; omega) ?_
  rw [e]
  exact h _ _
local macro_rules | `(tactic| walk_at "call builtin:len") => `(tactic| (k_here; (with_reducible show wpAny _ _ (call (Value.builtin "len") [Value.bytes _ _]) _ _ _); k_dflt (refine' my_lenB ?z ?_; (case z => first | assumption | omega); intro t' k')))
section
variable {prog : Program} {w : World} {p : Program} {loose : List Str} {mean : ExcName → Option Value} {mg mb : Str → Option Value} {dp un : Nat} {gd : Option (List Code)} {cn : Str} {cs : Scope} {a : Addr} {ccd : Value} {cl : List (Str × Addr)} {outer : List Env} {A₀ : Around} {base h₀ : Heap} {L : Addr} {m : Str → Option Value} {s : Shared} {Q E : Value → Shared → Prop}
theorem validb_call {news : Led} {b : Array UInt8} {t : Tok} (Bl : Below A₀ base outer h₀) (F : Fr h₀ L s.heap m) (X : (hd.heap_39 w.params).In h₀) (T : Top p loose mean mg mb h₀) (hk : cs.kind = .function) (hdp : dp + 1 < recursionLimit) (hun : un + 30 < cLine)
    (N : News h₀ L s.heap news)
    (ret : ∀ h' tk', Fr h₀ L h' m → News h₀ L h' news → Q .none { s with heap := h', toks := tk' }) :
    wpAny (model prog w) (ktrTop dp un gd cn cs L a ccd cl outer) (call (.ref 55) [.bytes b t]) Q E s := by
  refine wpAny_call ?_
  k_dflt (refine' code_def (binds := [((Str.ofString "value"), .bytes b t)]) ?k1 ?k2 ?k3 ?k4 ?k5 ?kA ?kF ?kK ?k6 ?k7 ?k8 ?k9 ?kB ?_ ?c2 ?c3 ?c4 ?c5; (case kA => exact rfl); (case kF => exact rfl); (case kK => assumption); (case k1 => k_asm); (case k2 => k_asm); (case k3 => k_asm); (case k4 => k_asm); (case k5 => k_asm); (case k6 => k_is); (case k7 => k_is); (case k8 => exact Nat.lt_of_le_of_lt (Nat.le_add_right _ _) hdp); (case k9 => exact BindsTo.of_eq rfl); (case c5 => decide); (case kB => exact locs rfl); (case c2 => exact rfl); (case c3 => exact rfl); (case c4 => exact rfl); intro g' L' h' FG' F' N' B' X' T')
  k_steps
  exact ret _ _ (by assumption) (by assumption)
theorem validl_call {news : Led} {b : Array UInt8} {n : Int} {t u : Tok} (Bl : Below A₀ base outer h₀) (F : Fr h₀ L s.heap m) (X : (hd.heap_39 w.params).In h₀) (T : Top p loose mean mg mb h₀) (hk : cs.kind = .function) (hdp : dp + 1 < recursionLimit) (hun : un + 30 < cLine)
    (N : News h₀ L s.heap news) (hn : n = (b.size : Int)) (hz : b.size ≤ 1000)
    (ret : ∀ h' tk', Fr h₀ L h' m → News h₀ L h' news → Q .none { s with heap := h', toks := tk' }) :
    wpAny (model prog w) (ktrTop dp un gd cn cs L a ccd cl outer) (call (.ref 62) [.bytes b t, .int n u]) Q E s := by
  subst hn
  refine wpAny_call ?_
  k_dflt (refine' code_def (binds := [((Str.ofString "value"), .bytes b t), ((Str.ofString "length"), .int (b.size : Int) u)]) ?k1 ?k2 ?k3 ?k4 ?k5 ?kA ?kF ?kK ?k6 ?k7 ?k8 ?k9 ?kB ?_ ?c2 ?c3 ?c4 ?c5; (case kA => exact rfl); (case kF => exact rfl); (case kK => assumption); (case k1 => k_asm); (case k2 => k_asm); (case k3 => k_asm); (case k4 => k_asm); (case k5 => k_asm); (case k6 => k_is); (case k7 => k_is); (case k8 => exact Nat.lt_of_le_of_lt (Nat.le_add_right _ _) hdp); (case k9 => exact BindsTo.of_eq rfl); (case c5 => decide); (case kB => exact locs rfl); (case c2 => exact rfl); (case c3 => exact rfl); (case c4 => exact rfl); intro g' L' h' FG' F' N' B' X' T')
  k_steps
  · exact absurd rfl (by assumption : ((b.size : Nat) : Int) ≠ ((b.size : Nat) : Int))
  · exact ret _ _ (by assumption) (by assumption)
theorem cast_call {news : Led} {v x : Value} (Bl : Below A₀ base outer h₀) (F : Fr h₀ L s.heap m) (X : (hd.heap_39 w.params).In h₀) (T : Top p loose mean mg mb h₀) (hk : cs.kind = .function) (hdp : dp + 1 < recursionLimit) (hun : un + 30 < cLine)
    (N : News h₀ L s.heap news)
    (ret : ∀ h' tk', Fr h₀ L h' m → News h₀ L h' news → Q v { s with heap := h', toks := tk' }) :
    wpAny (model prog w) (ktrTop dp un gd cn cs L a ccd cl outer) (call (.ref 28) [x, v]) Q E s := by
  refine wpAny_call ?_
  k_dflt (refine' code_def (binds := [((Str.ofString "kind"), x), ((Str.ofString "value"), v)]) ?k1 ?k2 ?k3 ?k4 ?k5 ?kA ?kF ?kK ?k6 ?k7 ?k8 ?k9 ?kB ?_ ?c2 ?c3 ?c4 ?c5; (case kA => exact rfl); (case kF => exact rfl); (case kK => assumption); (case k1 => k_asm); (case k2 => k_asm); (case k3 => k_asm); (case k4 => k_asm); (case k5 => k_asm); (case k6 => k_is); (case k7 => k_is); (case k8 => exact Nat.lt_of_le_of_lt (Nat.le_add_right _ _) hdp); (case k9 => exact BindsTo.of_eq rfl); (case c5 => decide); (case kB => exact locs rfl); (case c2 => exact rfl); (case c3 => exact rfl); (case c4 => exact rfl); intro g' L' h' FG' F' N' B' X' T')
  k_steps
  exact ret _ _ (by assumption) (by assumption)
theorem toint_call {news : Led} {b : Array UInt8} {t : Tok} (Bl : Below A₀ base outer h₀) (F : Fr h₀ L s.heap m) (X : (hd.heap_39 w.params).In h₀) (T : Top p loose mean mg mb h₀) (hk : cs.kind = .function) (hdp : dp + 1 < recursionLimit) (hun : un + 30 < cLine)
    (N : News h₀ L s.heap news) (hz : b.size ≤ 8)
    (ret : ∀ h' tk' t', Fr h₀ L h' m → News h₀ L h' news → Q (.int (KFB.value (intsOf b.toList)) t') { s with heap := h', toks := tk' }) :
    wpAny (model prog w) (ktrTop dp un gd cn cs L a ccd cl outer) (call (.ref 35) [.bytes b t]) Q E s := by
  refine wpAny_call ?_
  k_dflt (refine' code_def (binds := [((Str.ofString "octets"), .bytes b t)]) ?k1 ?k2 ?k3 ?k4 ?k5 ?kA ?kF ?kK ?k6 ?k7 ?k8 ?k9 ?kB ?_ ?c2 ?c3 ?c4 ?c5; (case kA => exact rfl); (case kF => exact rfl); (case kK => assumption); (case k1 => k_asm); (case k2 => k_asm); (case k3 => k_asm); (case k4 => k_asm); (case k5 => k_asm); (case k6 => k_is); (case k7 => k_is); (case k8 => exact Nat.lt_of_le_of_lt (Nat.le_add_right _ _) hdp); (case k9 => exact BindsTo.of_eq rfl); (case c5 => decide); (case kB => exact locs rfl); (case c2 => exact rfl); (case c3 => exact rfl); (case c4 => exact rfl); intro g' L' h' FG' F' N' B' X' T')
  k_steps
  rename Fr h₀ _ _ _ => kF
  rename News h₀ _ _ _ => kN
  exact ret _ _ _ kF (fun p hp => kN p (.tail _ hp))
end
end
local macro_rules | `(tactic| walk_at "call builtin:len") => `(tactic| (k_here; (with_reducible show wpAny _ _ (call (Value.builtin "len") [Value.bytes _ _]) _ _ _); k_dflt (refine' my_lenB ?z ?_; (case z => first | assumption | omega); intro t' k')))
local macro_rules | `(tactic| walk_at "call ref") => `(tactic| (k_here; (with_reducible show wpAny _ _ (call (Value.ref _) [Value.bytes _ _]) _ _ _); k_dflt (first
  | (refine' validb_call ?k1 ?k2 ?k3 ?k4 ?k5 ?k6 ?k7 ?N ?_; (case k1 => k_asm); (case k2 => k_asm); (case k3 => k_asm); (case k4 => k_asm); (case k5 => first | exact rfl | assumption); (case k6 => ktr_unf); (case k7 => ktr_unf); (case N => k_asm); intro h' tk' F' N')
  | (refine' toint_call ?k1 ?k2 ?k3 ?k4 ?k5 ?k6 ?k7 ?N ?z ?_; (case k1 => k_asm); (case k2 => k_asm); (case k3 => k_asm); (case k4 => k_asm); (case k5 => first | exact rfl | assumption); (case k6 => ktr_unf); (case k7 => ktr_unf); (case N => k_asm); (case z => omega); intro h' tk' t' F' N')
  | (refine' hash_call ?k1 ?k2 ?k3 ?k4 ?k5 ?k6 ?k7 ?k8 ?k9 ?ka ?kb ?kc ?kd ?_; (case k1 => k_asm); (case k2 => k_asm); (case k3 => k_asm); (case k4 => k_asm); (case k5 => k_asm); (case k6 => first | exact rfl | assumption); (case k7 => ktr_unf); (case k8 => ktr_unf); (case k9 => tb_rel); (case ka => k_updF); (case kb => assumption); (case kc => omega); (case kd => assumption); intro h' tk' t' o' B' n F' N' hB' hp' hl' hn'))))
local macro_rules | `(tactic| walk_at "call ref") => `(tactic| (k_here; (with_reducible show wpAny _ _ (call (Value.ref _) [Value.bytes _ _, Value.int _ _]) _ _ _); k_dflt (refine' validl_call ?k1 ?k2 ?k3 ?k4 ?k5 ?k6 ?k7 ?N ?n ?z ?_; (case k1 => k_asm); (case k2 => k_asm); (case k3 => k_asm); (case k4 => k_asm); (case k5 => first | exact rfl | assumption); (case k6 => ktr_unf); (case k7 => ktr_unf); (case N => k_asm); (case n => omega); (case z => omega); intro h' tk' F' N')))
local macro_rules | `(tactic| walk_at "call ref") => `(tactic| (k_here; (with_reducible show wpAny _ _ (call (Value.ref _) [Value.ref _, Value.bytes _ _]) _ _ _); k_dflt (refine' cast_call ?k1 ?k2 ?k3 ?k4 ?k5 ?k6 ?k7 ?N ?_; (case k1 => k_asm); (case k2 => k_asm); (case k3 => k_asm); (case k4 => k_asm); (case k5 => first | exact rfl | assumption); (case k6 => ktr_unf); (case k7 => ktr_unf); (case N => k_asm); intro h' tk' F' N')))
local macro_rules | `(tactic| walk_at "call ref") => `(tactic| (k_here; (with_reducible show wpAny _ _ (call (Value.ref _) [Value.ref _] _) _ _ _); k_dflt (refine' cls_call (t1 := _) (t2 := _) ?k1 ?k2 ?k3 ?k4 ?k5 ?k6 ?k7 ?N ?o ?H ?b ?c ?d ?e ?f ?g ?_; (case k1 => k_asm); (case k2 => k_asm); (case k3 => k_asm); (case k4 => k_asm); (case k5 => first | exact rfl | assumption); (case k6 => ktr_unf); (case k7 => ktr_unf); (case N => k_asm); (case o => assumption); (case H => tb_rel); (case b => assumption); (case c => assumption); (case d => assumption); (case e => assumption); (case f => assumption); (case g => assumption); intro h' tk' x' d' db' o' B' rt' u0' u1' u2' u3' u4' u5' u6' u7' u8' u9' F' N' hB' hp' hl' l1' l2' l3')))
section
theorem off_22 : True := by
  w_top off
  trivial
/-! ### from_db -/
section
variable {prog : Program} {w : World} {p : Program} {loose : List Str} {mean : ExcName → Option Value} {mg mb : Str → Option Value} {dp un : Nat} {gd : Option (List Code)} {cn : Str} {cs : Scope} {a : Addr} {ccd : Value} {cl : List (Str × Addr)} {outer : List Env} {A₀ : Around} {base h₀ : Heap} {L : Addr} {m : Str → Option Value} {s : Shared} {Q E : Value → Shared → Prop}
theorem fromdb_call {f bk sd : Addr} {o : Obj} {B : List By} {rest : Led} {size : Int} {dflt root : Array UInt8} {t0 t1 t2 : Tok} {R : Result → Shared → Prop} (Bl : Below A₀ base outer h₀) (F : Fr h₀ L s.heap m) (X : (hd.heap_39 w.params).In h₀) (T : Top p loose mean mg mb h₀) (hk : cs.kind = .function) (hdp : dp + 8 < recursionLimit) (hun : un + 80 < cLine)
    (N : News h₀ L s.heap ((bk, o) :: rest)) (hoff : OwnOff rest [bk]) (hf : HashFn rest f bk) (hB : Book (prog := prog) (w := w) o B) (hlen : B.length ≤ 900000) (hlo : (bk == sysModules) = false) (hdz : dflt.size ≤ 300) (hrz : root.size = 32) (hs0 : 1 ≤ size) (hs1 : size ≤ 2)
    (ret : ∀ h' tk' x d o' B' u0 u1 u2 u3 u4 u5 u6 u7 u8 u9, Fr h₀ L h' m → News h₀ L h' ((x, instObj 161 d) :: (d, dictOf (treeL w size dflt f sd root u0 u1 u2 u3 u4 u5 u6 u7 u8 u9) 6) :: (bk, o') :: rest) → Book (prog := prog) (w := w) o' B' → B <+: B' → B'.length ≤ B.length + 20 →
      @LT.lt Nat _ d x → @LT.lt Nat _ bk d → (∀ p ∈ rest, @LT.lt Nat _ p.1 d) → R (.ok (.ret (.ref x))) { s with heap := h', toks := tk' }) :
    codeAny (model prog w) (ktrTop dp un gd cn cs L a ccd cl outer) (.call (.ref 85) ⟨[.ref 161, .ref sd, .bytes root t0, .ref f], [(Str.ofString "key_size", .int size t1), (Str.ofString "default", .bytes dflt t2)]⟩) R s := by
  k_dflt (refine' code_def (binds := [((Str.ofString "cls"), .ref 161), ((Str.ofString "db"), .ref sd), ((Str.ofString "root_hash"), .bytes root t0), ((Str.ofString "hash_of"), .ref f), ((Str.ofString "key_size"), .int size t1), ((Str.ofString "default"), .bytes dflt t2)]) ?k1 ?k2 ?k3 ?k4 ?k5 ?kA ?kF ?kK ?k6 ?k7 ?k8 ?k9 ?kB ?_ ?c2 ?c3 ?c4 ?c5; (case kA => exact rfl); (case kF => exact rfl); (case kK => assumption); (case k1 => k_asm); (case k2 => k_asm); (case k3 => k_asm); (case k4 => k_asm); (case k5 => k_asm); (case k6 => k_is); (case k7 => k_is); (case k8 => first | exact Nat.lt_of_le_of_lt (Nat.le_add_right _ _) hdp | exact Nat.lt_of_le_of_lt (show _ ≤ dp + 1 from Nat.le_refl _) (by omega) | exact Nat.lt_of_le_of_lt (show _ ≤ dp + 2 from Nat.le_refl _) (by omega)); (case k9 => first | exact BindsTo.of_eq rfl | exact binds_K (by k_in) rfl (by k_is) rfl rfl rfl); (case c5 => decide); (case kB => exact locs rfl); (case c2 => exact rfl); (case c3 => exact rfl); (case c4 => exact rfl); intro g' L' h' FG' F' N' B' X' T')
  k_steps
  rename Fr h₀ _ _ _ => kF
  rename News h₀ _ _ _ => kN
  rename Book _ _ => hB1
  rename _ <+: _ => hp1
  exact ret _ _ _ _ _ _ _ _ _ _ _ _ _ _ _ _ kF kN hB1 hp1 (by assumption) (by assumption) (by assumption) (by assumption)
end
end
local macro_rules | `(tactic| k_inst) => `(tactic| (refine' InstAt.of_news ?N ?h1 ?h2; (case N => k_asm); (case h1 => ktr_rel); (case h2 => ktr_rel)))
section
local macro_rules | `(tactic| walk_at "no such key 23") => `(tactic| fail)
theorem off_24 : True := by
  w_top off
  trivial
/-! ### the two halves of a node; a missing key -/
section
variable {prog : Program} {w : World} {A : Around} {E : Value → Shared → Prop} {s : Shared} {h₀ : Heap} {L : Addr} {m : Str → Option Value} {news : Led} {value slice : PySem.Expr} {b : Array UInt8} {t u : Tok} {Q : Value → Shared → Prop}
theorem my_left (hF : Fr h₀ L s.heap m) (hN : News h₀ L s.heap news) (hz : b.size ≤ 16777216)
    (h : ∀ h' t' k, Fr h₀ L h' m → News h₀ L h' news → Q (.bytes (b.toList.take 32).toArray t') { s with heap := h', toks := k })
    (hs : subscripted slice false (.bytes b t) (.ref s.heap.objs.size) = operate [.ref s.heap.objs.size, .bytes b t] (getItem (.bytes b t) (.ref s.heap.objs.size)) := by with_unfolding_all rfl)
    (ht : ∀ r, letTemporaryGo value (.bytes b t) r = pure () := by intro _; with_unfolding_all rfl) :
    wpAny (model prog w) A (subscriptTail value slice (.bytes b t) (.ref s.heap.objs.size)) Q E { s with heap := s.heap.push { cls := .type "slice", data := .fields #[.none, .int 32 u, .none] } } := by
  refine KBc.slice_K (ks := KBw.bInts b) hF hN rfl .none (.int 32 u) (by rw [KBw.ints_length]; exact hz) (fun h' t' k F' N' _ => ?_) hs ht
  have := h h' t' k F' N'
  rw [KBc.picked_eq]
  simp only [Option.elim, List.drop_zero, Nat.sub_zero]
  rw [show clipAt b.size 32 = min 32 b.size from clipAt_nat _ 32, ← Array.length_toList, ← List.take_eq_take_min]
  exact this
theorem my_right (hF : Fr h₀ L s.heap m) (hN : News h₀ L s.heap news) (hz : b.size ≤ 16777216)
    (h : ∀ h' t' k, Fr h₀ L h' m → News h₀ L h' news → Q (.bytes (b.toList.drop 32).toArray t') { s with heap := h', toks := k })
    (hs : subscripted slice false (.bytes b t) (.ref s.heap.objs.size) = operate [.ref s.heap.objs.size, .bytes b t] (getItem (.bytes b t) (.ref s.heap.objs.size)) := by with_unfolding_all rfl)
    (ht : ∀ r, letTemporaryGo value (.bytes b t) r = pure () := by intro _; with_unfolding_all rfl) :
    wpAny (model prog w) A (subscriptTail value slice (.bytes b t) (.ref s.heap.objs.size)) Q E { s with heap := s.heap.push { cls := .type "slice", data := .fields #[.int 32 u, .none, .none] } } := by
  refine KBc.slice_K (ks := KBw.bInts b) hF hN rfl (.int 32 u) .none (by rw [KBw.ints_length]; exact hz) (fun h' t' k F' N' _ => ?_) hs ht
  have := h h' t' k F' N'
  rw [KBc.picked_eq]
  simp only [Option.elim]
  rw [show clipAt b.size 32 = min 32 b.size from clipAt_nat _ 32]
  have e : (b.toList.drop (min 32 b.size)).take (b.size - min 32 b.size) = b.toList.drop 32 := by
    by_cases q : 32 ≤ b.size
    · rw [Nat.min_eq_left q, List.take_of_length_le (by rw [List.length_drop, Array.length_toList]; omega)]
    · rw [Nat.min_eq_right (by omega), Nat.sub_self, List.take_zero, List.drop_of_length_le (by rw [Array.length_toList]; omega)]
  rw [e]
  exact this
theorem my_tail_miss {K : Type} [DecidableEq K] {knd : KeyKind prog w K} {d : Addr} {o : Obj} {D : List (K × By)} {k : K} {key : Value} (hh : A.handled = none) (N : News h₀ L s.heap news) (hm : (d, o) ∈ news) (T : Tab knd o D) (lo : (d == sysModules) = false) (hkey : knd.is k key = true) (hv : get D k = none)
    (h : ∀ h' e, Heap.NewExc s.heap h' e "KeyError" → E (.ref e) { s with heap := h', toks := s.toks + 1 })
    (hs : subscripted slice false (.ref d) key = operate [.ref d, key] (getItem (.ref d) key) := by with_unfolding_all rfl) : wpAny (model prog w) A (subscriptTail value slice (.ref d) key) Q E s := by
  obtain ⟨kvs, hd, v⟩ := T
  rcases v.get k with ⟨_, e2⟩ | ⟨y, t', e1, _⟩
  · exact tail_any (kda_dict N hm hd).typeIs slot_dict_getitem.lookup (wpAny_getItem_missing_of hkey lo hh (kda_dict N hm hd).mapOf e2 h) hs
  · rw [hv] at e1; cases e1
end
local macro_rules | `(tactic| walk_at "subscriptTail") => `(tactic| (k_here; (with_reducible show wpAny _ _ (subscriptTail _ (PySem.Expr.Slice _ _ none _) (Value.bytes _ _) (Value.ref _)) _ _ _); (with_reducible rename Fr _ _ _ _ => F'); (with_reducible rename News _ _ _ _ => N'); k_dflt (first
  | (refine' my_left (s := ⟨_, _, _, _, _⟩) F' N' ?z ?_; (case z => first | assumption | omega); intro h' t' k' F' N')
  | (refine' my_right (s := ⟨_, _, _, _, _⟩) F' N' ?z ?_; (case z => first | assumption | omega); intro h' t' k' F' N'))))
local macro_rules | `(tactic| walk_at "subscriptTail") => `(tactic| (k_here; (with_reducible show wpAny _ _ (subscriptTail _ _ (Value.ref _) (Value.bytes _ _)) _ _ _); k_dflt (first
  | (refine' my_tail (knd := bytesKind _ _) ?N ?m ?T ?hk ?hv ?_; (case N => k_asm); (case m => ktr_rel); (case T => assumption); (case hk => exact isB _ _ _ _); (case hv => first | assumption | exact get_put_self _ _ _); intro t')
  | (refine' my_tail_miss (knd := bytesKind _ _) ?hh ?N ?m ?T ?lo ?hk ?hv ?_; (case hh => exact rfl); (case N => k_asm); (case m => ktr_rel); (case T => assumption); (case lo => assumption); (case hk => exact isB _ _ _ _); (case hv => assumption); intro h' e' ne'))))
def tbs (n : Nat) : Nat → Int
  | 0 => 1 * 2 ^ n
  | i + 1 => (tbs n i).fdiv (2 ^ (1 : Int).toNat)
def bitT (path : Int) (n : Nat) (i : Nat) : Bool := decide (Builtin.bitAnd path (tbs n i) ≠ 0)
def getW (SD : List (By × By)) (bit : Nat → Bool) (root : By) : Nat → Option (By × List By)
  | 0 => some (root, [])
  | i + 1 => (getW SD bit root i).bind fun p => (get SD p.1).bind fun v => if bit i then some (v.drop 32, p.2 ++ [v.take 32]) else some (v.take 32, p.2 ++ [v.drop 32])
def getR (SD : List (By × By)) (bit : Nat → Bool) (root : By) (n : Nat) : Option (By × List By) := (getW SD bit root n).bind fun p => (get SD p.1).bind fun v => some (v, p.2)
theorem getW_length {SD : List (By × By)} {bit : Nat → Bool} {root : By} : ∀ {n : Nat} {p : By × List By}, getW SD bit root n = some p → p.2.length = n
  | 0, p, h => by simp only [getW, Option.some.injEq] at h; rw [← h]; rfl
  | n + 1, p, h => by
    rw [getW] at h
    cases e : getW SD bit root n with
    | none => rw [e] at h; cases h
    | some q =>
      rw [e] at h
      simp only [Option.bind_some] at h
      cases e2 : get SD q.1 with
      | none => rw [e2] at h; cases h
      | some v =>
        rw [e2] at h
        have := getW_length e
        simp only [Option.bind_some] at h
        split at h <;> (cases h; simp [this])
theorem getW_none {SD : List (By × By)} {bit : Nat → Bool} {root : By} {i : Nat} (h : getW SD bit root i = none) : ∀ n, i ≤ n → getW SD bit root n = none
  | 0, q => by obtain rfl : i = 0 := by omega
               exact h
  | n + 1, q => by
    by_cases e : i = n + 1
    · exact e ▸ h
    · rw [getW, getW_none h n (by omega)]; rfl
theorem RaisedN.mono {base : Heap} {l : List Env} {e : Addr} {cls : Value} {news news' : Led} {h : Heap} (R : RaisedN base l e cls news h) (hs : ∀ p ∈ news', p ∈ news) : RaisedN base l e cls news' h := by
  obtain ⟨B, a, x, y, z⟩ := R
  exact ⟨B, a, x, fun q hq => y q (hs q hq), z⟩
theorem News.skip3 {h₀ h : Heap} {L : Addr} {a b c : Addr × Obj} {rest : Led} (N : News h₀ L h (a :: b :: c :: rest)) : News h₀ L h (a :: b :: rest) := fun p hp => N p (by
  rcases List.mem_cons.mp hp with rfl | hp
  · exact .head _
  · rcases List.mem_cons.mp hp with rfl | hp
    · exact .tail _ (.head _)
    · exact .tail _ (.tail _ (.tail _ hp)))
def GetJ (SD : List (By × By)) (path : Int) (n : Nat) (root : By) (m₀ : Str → Option Value) (fr₀ : Led) (i : Nat) (m : Str → Option Value) (fr : Led) : Prop :=
  ∃ u1 u2 u3 u4 b t tt br ob₀ ob bl, m = ovr [(Str.ofString "_", u1), (Str.ofString "node", u2), (Str.ofString "left", u3), (Str.ofString "right", u4), (Str.ofString "node_hash", some (.bytes b t)), (Str.ofString "target_bit", some (.int (tbs n i) tt))] m₀ ∧
    [(br, ob₀)] = fr₀ ∧ fr = [(br, ob)] ∧ ListB ob bl ∧ getW SD (bitT path n) root i = some (b.toList, bl)
/-! ### _get -/
section
variable {prog : Program} {w : World} {p : Program} {loose : List Str} {mean : ExcName → Option Value} {mg mb : Str → Option Value} {dp un : Nat} {gd : Option (List Code)} {cn : Str} {cs : Scope} {a : Addr} {ccd : Value} {cl : List (Str × Addr)} {outer : List Env} {A₀ : Around} {base h₀ : Heap} {L : Addr} {m : Str → Option Value} {s : Shared} {Q E : Value → Shared → Prop}
set_option maxHeartbeats 2000000 in
theorem get_call {x d sd f : Addr} {osd : Obj} {SD : List (By × By)} {news : Led} {size : Int} {dflt root key : Array UInt8} {t0 u0 u1 u2 u3 u4 u5 u6 u7 u8 u9 : Tok} (Bl : Below A₀ base outer h₀) (F : Fr h₀ L s.heap m) (X : (hd.heap_39 w.params).In h₀) (T : Top p loose mean mg mb h₀) (hk : cs.kind = .function) (hdp : dp + 8 < recursionLimit) (hun : un + 80 < cLine)
    (N : News h₀ L s.heap news) (hx : (x, instObj 161 d) ∈ news) (hd : (d, dictOf (treeL w size dflt f sd root u0 u1 u2 u3 u4 u5 u6 u7 u8 u9) 6) ∈ news) (hsd : (sd, osd) ∈ news) (hT : Tab (bytesKind prog w) osd SD) (hlo : (sd == sysModules) = false)
    (hkz : (key.size : Int) = size) (hs0 : 1 ≤ size) (hs1 : size ≤ 2) (hSD : ∀ k v, get SD k = some v → v.length ≤ 300) (hroot : root.size = 32)
    (ret : ∀ h' tk' r br ob v t bl, Fr h₀ L h' m → News h₀ L h' ((r, ({ cls := .type "tuple", data := .seq #[.bytes v t, .ref br] } : Obj)) :: (br, ob) :: news) → (∀ p ∈ news, @LT.lt Nat _ p.1 br) → @LT.lt Nat _ br r → TupB ob bl → getR SD (bitT (KFB.value (intsOf key.toList)) (size * 8 - 1).toNat) root.toList (size * 8).toNat = some (v.toList, bl) → Q (.ref r) { s with heap := h', toks := tk' })
    (exc : ∀ e g h' tk', Fr h₀ L g m → RaisedN base (envX cn cs L a ccd cl :: outer) e (.type "KeyError") news h' → g.UpToSlots h' → getR SD (bitT (KFB.value (intsOf key.toList)) (size * 8 - 1).toNat) root.toList (size * 8).toNat = none → E (.ref e) { s with heap := h', toks := tk' }) :
    wpAny (model prog w) (ktrTop dp un gd cn cs L a ccd cl outer) (call (.ref 109) [.ref x, .bytes key t0]) Q E s := by
  refine wpAny_call ?_
  k_dflt (refine' code_def (binds := [((Str.ofString "self"), .ref x), ((Str.ofString "key"), .bytes key t0)]) ?k1 ?k2 ?k3 ?k4 ?k5 ?kA ?kF ?kK ?k6 ?k7 ?k8 ?k9 ?kB ?_ ?c2 ?c3 ?c4 ?c5; (case kA => exact rfl); (case kF => exact rfl); (case kK => assumption); (case k1 => k_asm); (case k2 => k_asm); (case k3 => k_asm); (case k4 => k_asm); (case k5 => k_asm); (case k6 => k_is); (case k7 => k_is); (case k8 => exact Nat.lt_of_le_of_lt (Nat.le_add_right _ _) hdp); (case k9 => exact BindsTo.of_eq rfl); (case c5 => decide); (case kB => exact locs rfl); (case c2 => exact rfl); (case c3 => exact rfl); (case c4 => exact rfl); intro g' L' h' FG' F' N' B' X' T')
  k_steps
  rename IsRange _ _ _ _ _ _ _ _ => hR
  rename Fr g' _ _ _ => hF
  rename News g' _ _ _ => hN
  rename ListV _ [] => hv
  rename (∀ p, p ∈ _ → Prod.fst p < _) => lt1
  have hsr := small_range2 (a := 0) (b := size * 8) (by decide) (by omega) (by omega)
  rw [show (size * 8 - 0) = size * 8 by omega] at hsr
  generalize hn : (size * 8 - 1).toNat = n at hF ret exc
  generalize hpa : KFB.value (intsOf key.toList) = path at hF ret exc
  refine Stop.get (iter_range (n := (size * 8).toNat) (fr₀ := [(_, _)]) (rest := news) (GetJ SD path n root.toList) rfl hR hsr.1 hsr.2 hF hN ?off ?j0 ?turn ?done)
  case off =>
    refine offs fun p hp b hb => ?_
    rw [List.mem_singleton.mp hb]
    exact Nat.ne_of_lt (lt1 p hp)
  case j0 =>
    exact ⟨_, _, _, _, root, _, _, _, _, _, [], ovr_of [Str.ofString "_", Str.ofString "node", Str.ofString "left", Str.ofString "right", Str.ofString "node_hash", Str.ofString "target_bit"] (fun _ _ => rfl), rfl, rfl, ⟨[], hv, .nil⟩, rfl⟩
  case turn =>
    rintro i t m₁ fr rest' h tk hi ⟨w1, w2, w3, w4, b, tb, tt, br, ob₀, ob, bl, rfl, e0, rfl, hbl, hW⟩ ho hs F₂ N₂
    simp only [List.cons.injEq, Prod.mk.injEq, and_true, true_and] at e0
    obtain ⟨rfl, rfl⟩ := e0
    simp only [List.map_cons, List.map_nil] at ho
    simp only [List.cons_append, List.nil_append] at N₂
    have hx' := hs _ hx
    have hd' := hs _ hd
    have hsd' := hs _ hsd
    have hbz := getW_length hW
    have hbz' : bl.length ≤ 16777216 := by dsimp only at hbz; omega
    clear hbz hx hd hsd
    cases hg : get SD b.toList with
    | none =>
      k_steps
      rename RaisedN _ _ _ _ _ _ => R1
      rename Heap.UpToSlots _ _ => U1
      refine exc _ _ _ _ FG' (RaisedN.mono R1 (fun p hp => .tail _ (hs p hp))) U1 ?_
      have q1 : getW SD (bitT path n) root.toList (i + 1) = none := by rw [getW, hW]; simp [hg]
      rw [getR, getW_none q1 _ hi]; rfl
    | some v =>
      have hvz := hSD _ _ hg
      have hvz2 : v.toArray.size ≤ 16777216 := by rw [List.size_toArray]; omega
      k_steps
      · rename Builtin.bitAnd _ _ ≠ _ => hb
        rename ListB _ _ => hv2
        simp only [List.toList_toArray] at hv2
        refine ⟨_, _, _, _, _, rfl, by assumption, by assumption, ?a1, ?b1, ?c1, _, _, _, _, _, _, _, _, _, _, _, ovr_of [Str.ofString "_", Str.ofString "node", Str.ofString "left", Str.ofString "right", Str.ofString "node_hash", Str.ofString "target_bit"] ?d1, rfl, rfl, hv2, ?e1⟩
        case a1 => intro p hp; exact .tail _ (List.mem_append_left rest' hp)
        case b1 => intro p hp; exact .tail _ (.tail _ hp)
        case c1 => exact ho
        case d1 =>
          intro z hz
          simp only [List.mem_cons, List.not_mem_nil, or_false, not_or] at hz
          obtain ⟨z1, z2, z3, z4, z5, z6⟩ := hz
          simp only [ovr, z1, z2, z3, z4, z5, z6, if_false]
        case e1 => rw [getW, hW]; simp [hg, bitT, hb]
      · rename Builtin.bitAnd _ _ = _ => hb
        rename ListB _ _ => hv2
        simp only [List.toList_toArray] at hv2
        refine ⟨_, _, _, _, _, rfl, by assumption, by assumption, ?a2, ?b2, ?c2, _, _, _, _, _, _, _, _, _, _, _, ovr_of [Str.ofString "_", Str.ofString "node", Str.ofString "left", Str.ofString "right", Str.ofString "node_hash", Str.ofString "target_bit"] ?d2, rfl, rfl, hv2, ?e2⟩
        case a2 => intro p hp; exact .tail _ (List.mem_append_left rest' hp)
        case b2 => intro p hp; exact .tail _ (.tail _ hp)
        case c2 => exact ho
        case d2 =>
          intro z hz
          simp only [List.mem_cons, List.not_mem_nil, or_false, not_or] at hz
          obtain ⟨z1, z2, z3, z4, z5, z6⟩ := hz
          simp only [ovr, z1, z2, z3, z4, z5, z6, if_false]
        case e2 => rw [getW, hW]; simp [hg, bitT, hb]
  case done =>
    rintro m₁ fr h tk ⟨w1, w2, w3, w4, b, tb, tt, br, ob₀, ob, bl, rfl, e0, rfl, hbl, hW⟩ ho F₂ N₂
    simp only [List.cons.injEq, Prod.mk.injEq, and_true, true_and] at e0
    obtain ⟨rfl, rfl⟩ := e0
    simp only [List.map_cons, List.map_nil] at ho
    simp only [List.cons_append, List.nil_append] at N₂
    have hbz := getW_length hW
    have hbz' : bl.length ≤ 16384 := by dsimp only at hbz; omega
    cases hg : get SD b.toList with
    | none =>
      k_steps
      rename RaisedN _ _ _ _ _ _ => R1
      rename Heap.UpToSlots _ _ => U1
      refine exc _ _ _ _ FG' (RaisedN.mono R1 (fun p hp => .tail _ hp)) U1 ?_
      rw [getR, hW]; simp [hg]
    | some v =>
      k_steps
      rename TupB _ _ => hTB
      rename Fr h₀ _ _ _ => kF
      rename News h₀ _ _ _ => kN
      rename (∀ p, p ∈ _ → Prod.fst p < _) => ltA
      rename _ ∧ _ ∧ AllLt _ _ => ltB
      exact ret _ _ _ _ _ v.toArray _ _ kF (News.skip3 kN) (fun p hp => ltA p (.tail _ hp)) ltB.1 hTB (by rw [getR, hW]; simp [hg])
end
end
local macro_rules | `(tactic| walk_at "call ref") => `(tactic| (k_here; (with_reducible show wpAny _ _ (call (Value.ref _) [Value.ref _, Value.bytes _ _]) _ _ _); k_dflt (first
  | (refine' cast_call ?k1 ?k2 ?k3 ?k4 ?k5 ?k6 ?k7 ?N ?_; (case k1 => k_asm); (case k2 => k_asm); (case k3 => k_asm); (case k4 => k_asm); (case k5 => first | exact rfl | assumption); (case k6 => ktr_unf); (case k7 => ktr_unf); (case N => k_asm); intro h' tk' F' N')
  | (refine' get_call ?k1 ?k2 ?k3 ?k4 ?k5 ?k6 ?k7 ?N ?x ?d ?sd ?T ?lo ?kz ?s0 ?s1 ?SD ?rz (fun h' tk' r br ob v t bl F' N' hlA hlB hTB hG => ?_) (fun e g h' tk' Fg R U hG => ?_); (case k1 => k_asm); (case k2 => k_asm); (case k3 => k_asm); (case k4 => k_asm); (case k5 => first | exact rfl | assumption); (case k6 => ktr_unf); (case k7 => ktr_unf); (case N => k_asm); (case x => ktr_rel); (case d => ktr_rel); (case sd => ktr_rel); (case T => assumption); (case lo => assumption); (case kz => assumption); (case s0 => assumption); (case s1 => assumption); (case SD => assumption); (case rz => assumption)))))
section
theorem off_25 : True := by
  w_top off
  trivial
/-! ### get, branch -/
theorem getR_mem {SD : List (By × By)} {bit : Nat → Bool} {root v : By} {bl : List By} {n : Nat} (h : getR SD bit root n = some (v, bl)) : ∃ k, get SD k = some v := by
  rw [getR] at h
  cases e : getW SD bit root n with
  | none => rw [e] at h; cases h
  | some q =>
    rw [e] at h
    simp only [Option.bind_some] at h
    cases e2 : get SD q.1 with
    | none => rw [e2] at h; cases h
    | some v => rw [e2] at h; cases h; exact ⟨_, e2⟩
theorem not_blank {v : Array UInt8} (h : (v.toList == (#[] : Array UInt8).toList) = true) : v.toList = [] := by
  simpa using h
section
variable {prog : Program} {w : World} {p : Program} {loose : List Str} {mean : ExcName → Option Value} {mg mb : Str → Option Value} {dp un : Nat} {gd : Option (List Code)} {cn : Str} {cs : Scope} {a : Addr} {ccd : Value} {cl : List (Str × Addr)} {outer : List Env} {A₀ : Around} {base h₀ : Heap} {L : Addr} {m : Str → Option Value} {s : Shared} {Q E : Value → Shared → Prop}
theorem tget_call {x d sd f : Addr} {osd : Obj} {SD : List (By × By)} {news : Led} {size : Int} {dflt root key : Array UInt8} {t0 u0 u1 u2 u3 u4 u5 u6 u7 u8 u9 : Tok} (Bl : Below A₀ base outer h₀) (F : Fr h₀ L s.heap m) (X : (hd.heap_39 w.params).In h₀) (T : Top p loose mean mg mb h₀) (hk : cs.kind = .function) (hdp : dp + 12 < recursionLimit) (hun : un + 120 < cLine)
    (N : News h₀ L s.heap news) (hx : (x, instObj 161 d) ∈ news) (hd : (d, dictOf (treeL w size dflt f sd root u0 u1 u2 u3 u4 u5 u6 u7 u8 u9) 6) ∈ news) (hsd : (sd, osd) ∈ news) (hT : Tab (bytesKind prog w) osd SD) (hlo : (sd == sysModules) = false)
    (hkz : (key.size : Int) = size) (hs0 : 1 ≤ size) (hs1 : size ≤ 2) (hSD : ∀ k v, get SD k = some v → v.length ≤ 300) (hne : ∀ k v, get SD k = some v → v ≠ []) (hroot : root.size = 32)
    (ret : ∀ h' tk' v t bl, Fr h₀ L h' m → News h₀ L h' news → getR SD (bitT (KFB.value (intsOf key.toList)) (size * 8 - 1).toNat) root.toList (size * 8).toNat = some (v.toList, bl) → Q (.bytes v t) { s with heap := h', toks := tk' })
    (exc : ∀ e g h' tk', Fr h₀ L g m → RaisedN base (envX cn cs L a ccd cl :: outer) e (.type "KeyError") news h' → g.UpToSlots h' → getR SD (bitT (KFB.value (intsOf key.toList)) (size * 8 - 1).toNat) root.toList (size * 8).toNat = none → E (.ref e) { s with heap := h', toks := tk' }) :
    wpAny (model prog w) (ktrTop dp un gd cn cs L a ccd cl outer) (call (.ref 95) [.ref x, .bytes key t0]) Q E s := by
  refine wpAny_call ?_
  k_dflt (refine' code_def (binds := [((Str.ofString "self"), .ref x), ((Str.ofString "key"), .bytes key t0)]) ?k1 ?k2 ?k3 ?k4 ?k5 ?kA ?kF ?kK ?k6 ?k7 ?k8 ?k9 ?kB ?_ ?c2 ?c3 ?c4 ?c5; (case kA => exact rfl); (case kF => exact rfl); (case kK => assumption); (case k1 => k_asm); (case k2 => k_asm); (case k3 => k_asm); (case k4 => k_asm); (case k5 => k_asm); (case k6 => k_is); (case k7 => k_is); (case k8 => exact Nat.lt_of_le_of_lt (Nat.le_add_right _ _) hdp); (case k9 => exact BindsTo.of_eq rfl); (case c5 => decide); (case kB => exact locs rfl); (case c2 => exact rfl); (case c3 => exact rfl); (case c4 => exact rfl); intro g' L' h' FG' F' N' B' X' T')
  k_steps
  · rename getR _ _ _ _ = _ => hG
    rename (_ == _) = true => hb
    obtain ⟨k, hk⟩ := getR_mem hG
    exact absurd (not_blank hb) (hne _ _ hk)
  · rename getR _ _ _ _ = _ => hG
    rename Fr h₀ _ _ _ => kF
    rename News h₀ _ _ _ => kN
    exact ret _ _ _ _ _ kF (fun p hp => kN p (.tail _ (.tail _ hp))) hG
  · rename RaisedN _ _ _ _ _ _ => R1
    rename Heap.UpToSlots _ _ => U1
    rename getR _ _ _ _ = _ => hG
    exact exc _ _ _ _ FG' R1 U1 hG
theorem tbranch_call {x d sd f : Addr} {osd : Obj} {SD : List (By × By)} {news : Led} {size : Int} {dflt root key : Array UInt8} {t0 u0 u1 u2 u3 u4 u5 u6 u7 u8 u9 : Tok} (Bl : Below A₀ base outer h₀) (F : Fr h₀ L s.heap m) (X : (hd.heap_39 w.params).In h₀) (T : Top p loose mean mg mb h₀) (hk : cs.kind = .function) (hdp : dp + 12 < recursionLimit) (hun : un + 120 < cLine)
    (N : News h₀ L s.heap news) (hx : (x, instObj 161 d) ∈ news) (hd : (d, dictOf (treeL w size dflt f sd root u0 u1 u2 u3 u4 u5 u6 u7 u8 u9) 6) ∈ news) (hsd : (sd, osd) ∈ news) (hT : Tab (bytesKind prog w) osd SD) (hlo : (sd == sysModules) = false)
    (hkz : (key.size : Int) = size) (hs0 : 1 ≤ size) (hs1 : size ≤ 2) (hSD : ∀ k v, get SD k = some v → v.length ≤ 300) (hne : ∀ k v, get SD k = some v → v ≠ []) (hroot : root.size = 32)
    (ret : ∀ h' tk' br ob v bl, Fr h₀ L h' m → News h₀ L h' ((br, ob) :: news) → (∀ p ∈ news, @LT.lt Nat _ p.1 br) → TupB ob bl → getR SD (bitT (KFB.value (intsOf key.toList)) (size * 8 - 1).toNat) root.toList (size * 8).toNat = some (v, bl) → Q (.ref br) { s with heap := h', toks := tk' })
    (exc : ∀ e g h' tk', Fr h₀ L g m → RaisedN base (envX cn cs L a ccd cl :: outer) e (.type "KeyError") news h' → g.UpToSlots h' → getR SD (bitT (KFB.value (intsOf key.toList)) (size * 8 - 1).toNat) root.toList (size * 8).toNat = none → E (.ref e) { s with heap := h', toks := tk' }) :
    wpAny (model prog w) (ktrTop dp un gd cn cs L a ccd cl outer) (call (.ref 102) [.ref x, .bytes key t0]) Q E s := by
  refine wpAny_call ?_
  k_dflt (refine' code_def (binds := [((Str.ofString "self"), .ref x), ((Str.ofString "key"), .bytes key t0)]) ?k1 ?k2 ?k3 ?k4 ?k5 ?kA ?kF ?kK ?k6 ?k7 ?k8 ?k9 ?kB ?_ ?c2 ?c3 ?c4 ?c5; (case kA => exact rfl); (case kF => exact rfl); (case kK => assumption); (case k1 => k_asm); (case k2 => k_asm); (case k3 => k_asm); (case k4 => k_asm); (case k5 => k_asm); (case k6 => k_is); (case k7 => k_is); (case k8 => exact Nat.lt_of_le_of_lt (Nat.le_add_right _ _) hdp); (case k9 => exact BindsTo.of_eq rfl); (case c5 => decide); (case kB => exact locs rfl); (case c2 => exact rfl); (case c3 => exact rfl); (case c4 => exact rfl); intro g' L' h' FG' F' N' B' X' T')
  k_steps
  · rename getR _ _ _ _ = _ => hG
    rename (_ == _) = true => hb
    obtain ⟨k, hk⟩ := getR_mem hG
    exact absurd (not_blank hb) (hne _ _ hk)
  · rename getR _ _ _ _ = _ => hG
    rename Fr h₀ _ _ _ => kF
    rename News h₀ _ _ _ => kN
    rename TupB _ _ => hTB
    rename (∀ p, p ∈ _ → Prod.fst p < _) => ltA
    exact ret _ _ _ _ _ _ kF (fun p hp => kN p (.tail _ hp)) ltA hTB hG
  · rename RaisedN _ _ _ _ _ _ => R1
    rename Heap.UpToSlots _ _ => U1
    rename getR _ _ _ _ = _ => hG
    exact exc _ _ _ _ FG' R1 U1 hG
end
end
section
local macro_rules | `(tactic| walk_at "no such key 26") => `(tactic| fail)
theorem off_27 : True := by
  w_top off
  trivial
/-! ### reversed(tuple) -/
namespace RF
theorem owner_rev : Manifest.owners.lookup (String.ofList ['d', 'e', 's', 'r', 'e', 'v', 'e', 'r'].reverse) = some Manifest.sig_reversed := by kernel_rfl
theorem slot_rev_next : Slot "reversed" "__next__" "reversed.__next__" :=
  .of (owner := "reversed") (n := "__next__") (by rw [typeLookup_type, builtinLookup_eq_fast]; kernel_rfl) (by decide +kernel) (by decide +kernel) (by decide +kernel)
    (by first | exact .inl (by decide +kernel) | exact .inr (by decide +kernel)) (by rw [isSubtype_type]; kernel_rfl)
theorem entry_rev_next : entryFor table "reversed.__next__" = some Builtin.«reversed.__next__» := entryFor_of_tree (by kernel_rfl)
theorem args_rev_next_1 (a : Value) : argsOk "reversed.__next__" ⟨[a], []⟩ := by
  unfold argsOk; rw [signature?_of (id := "reversed.__next__") (n := ['_', '_', 't', 'x', 'e', 'n', '_', '_']) (o := ['d', 'e', 's', 'r', 'e', 'v', 'e', 'r']) (by kernel_rfl) owner_rev]; kernel_rfl
theorem slot_rev_iter : Slot "reversed" "__iter__" "reversed.__iter__" :=
  .of (owner := "reversed") (n := "__iter__") (by rw [typeLookup_type, builtinLookup_eq_fast]; kernel_rfl) (by decide +kernel) (by decide +kernel) (by decide +kernel)
    (by first | exact .inl (by decide +kernel) | exact .inr (by decide +kernel)) (by rw [isSubtype_type]; kernel_rfl)
theorem args_rev_iter_1 (a : Value) : argsOk "reversed.__iter__" ⟨[a], []⟩ := by
  unfold argsOk; rw [signature?_of (id := "reversed.__iter__") (n := ['_', '_', 'r', 'e', 't', 'i', '_', '_']) (o := ['d', 'e', 's', 'r', 'e', 'v', 'e', 'r']) (by kernel_rfl) owner_rev]; kernel_rfl
theorem entry_rev_iter : entryFor table "reversed.__iter__" = some Builtin.«dict_keyiterator.__iter__» :=
  entryFor_alias (id' := "dict_keyiterator.__iter__") (by kernel_rfl) (by first | rfl | decide +kernel | (unfold String.splitOn; simp +decide [String.splitOnAux])) (by decide +kernel) (by kernel_rfl)
theorem slot_rev_init : Slot "reversed" "__init__" "object.__init__" :=
  .of (owner := "object") (n := "__init__") (by rw [typeLookup_type, builtinLookup_eq_fast]; kernel_rfl) (by decide +kernel) (by decide +kernel) (by decide +kernel)
    (by first | exact .inl (by decide +kernel) | exact .inr (by decide +kernel)) (by rw [isSubtype_type]; kernel_rfl)
theorem called_rev : TypeCalled "reversed" "reversed.__new__" "object.__init__" :=
  ⟨by decide +kernel, F.create_reversed, ⟨_, _, F.mro_reversed⟩, F.made_reversed, F.plain_reversed_new, F.sub_reversed_self, slot_rev_init⟩
theorem tuple_norev : typeLookup (.type "tuple") "__reversed__" = pure none := by rw [typeLookup_type, builtinLookup_eq_fast]; kernel_rfl
theorem tuple_nodict : isSubtype (.type "tuple") (.type "dict") = pure false := by rw [isSubtype_type]; kernel_rfl
end RF
def revT (l : Addr) (i : Int) : Obj := { cls := .type "reversed", data := .fields #[.ref l, rawInt i] }
def IsRevT (h : Heap) (a l : Addr) (i : Int) : Prop := ∃ o, h.get? a = some o ∧ o.cls = .type "reversed" ∧ o.data = .fields #[.ref l, rawInt i]
section
variable {prog : Program} {w : World} {A : Around} {E : Value → Shared → Prop} {s : Shared}
theorem IsRevT.typeIs {a l : Addr} {i : Int} (x : IsRevT s.heap a l i) : s.TypeIs (.ref a) "reversed" := let ⟨o, ho, hc, _⟩ := x; ⟨o, ho, hc⟩
theorem IsRevT.at {h h' : Heap} {a l : Addr} {i : Int} (x : IsRevT h a l i) (e : ∀ o, h.get? a = some o → h'.get? a = some o) : IsRevT h' a l i := let ⟨o, ho, r⟩ := x; ⟨o, e _ ho, r⟩
theorem meets_rev_new (t : Addr) (items : Array Value) :
    Meets (Builtin.«reversed.__new__» ⟨[.type "reversed", .ref t], []⟩) (fun _ R s => IsTup s.heap t items ∧ (items.size : Int) < 2 ^ 62 ∧ ∀ tk, R (.ok (.ret (.ref s.heap.objs.size))) { s with heap := s.heap.push (revT t ((items.size : Int) - 1)), toks := tk }) :=
  .of_wp fun prog w A R s h => by
    obtain ⟨ht, hz, h⟩ := h
    unfold Builtin.«reversed.__new__»
    refine wpAny_bind (wpAny_of_eq (newClass_reversed _) ?_)
    try dsimp only
    refine wpAny_bind (wpAny_of_eq (a := ()) (by first | rfl | kernel_rfl) ?_)
    refine wpAny_bind (wpAny_of_eq (a := ()) (by first | rfl | kernel_rfl) ?_)
    try dsimp only
    refine wpAny_bind (wpAny_specialOf ht.typeIs RF.tuple_norev ?_)
    try dsimp only
    refine wpAny_bind ?_
    show wpAny _ _ (isInstance (.ref t) (.type "dict") >>= _) _ _ _
    refine wpAny_bind (wpAny_isInstance ht.typeIs RF.tuple_nodict ?_)
    rw [if_neg Bool.false_ne_true]
    refine wpAny_bind (wpAny_specialOf ht.typeIs slot_tuple_getitem.lookup ?_)
    try dsimp only
    rw [if_pos (by decide +kernel)]
    refine wpAny_pure ?_
    rw [if_neg (by decide)]
    refine wpAny_bind (len_tuple ht (by omega) ?_)
    refine wpAny_bind (wpAny_of_eq (a := some (items.size : Int)) (by first | rfl | kernel_rfl) ?_)
    try dsimp only
    refine wpAny_bind ?_
    unfold Builtin.SmallTypes.newRecord
    refine wpAny_newObj_type ?_
    exact wpAny_pure ⟨_, rfl, h _⟩
theorem call_reversed_tuple {t : Addr} {items : Array Value} {Q : Value → Shared → Prop} (ht : IsTup s.heap t items) (hz : (items.size : Int) < 2 ^ 62)
    (h : ∀ tk, Q (.ref s.heap.objs.size) { s with heap := s.heap.push (revT t ((items.size : Int) - 1)), toks := tk }) : wpAny (model prog w) A (call (.type "reversed") [.ref t]) Q E s :=
  callType_new RF.called_rev (by decide) (F.typeCall_reversed_1 _) (F.newCall_reversed_1 _) (fun obj => F.args_object_init_2 obj _) F.entry_reversed_new (meets_rev_new t items)
    ⟨ht, hz, fun tk => ⟨⟨_, Heap.get?_push_size _ rfl, rfl⟩, h tk⟩⟩
theorem next_revT {it l : Addr} {i : Nat} {items : Array Value} {x : Value} {Q : Option Value → Shared → Prop} (hz : (i : Int) < 2 ^ 62) (hit : IsRevT s.heap it l (i : Int)) (hl : IsTup s.heap l items) (hx : items[i]? = some x)
    (hQ : ∀ h' tk, IsRevT h' it l ((i : Int) - 1) → Heap.SameBut it s.heap h' → Q (some x) { s with heap := h', toks := tk }) : wpAny (model prog w) A (pyNext (.ref it)) Q E s := by
  obtain ⟨o, ho, hc, hd⟩ := id hit
  have hi : i < items.size := (Array.getElem?_eq_some_iff.mp hx).1
  have e0 : ¬ ((i : Int) < 0) := by omega
  have e1 : (0 : Int) ≤ i := by omega
  have hj : seqIndex? (i : Int) items.size = some i := by simp [seqIndex?, e0, e1, hi]
  unfold pyNext
  refine wpAny_bind (wpAny_attempt (wpAny_callSpecial?_slot (name := Str.ofString "__next__") hit.typeIs RF.slot_rev_next
    (wpAny_call_entry RF.slot_rev_next hit.typeIs RF.entry_rev_next ?_ (RF.args_rev_next_1 _))))
  unfold Builtin.«reversed.__next__»
  refine wpAny_bind (wpAny_of_eq (a := (Value.ref it, [])) rfl ?_)
  try dsimp only
  refine wpAny_bind (wpAny_field ho hd (x := .ref l) rfl ?_)
  refine wpAny_bind (wpAny_field ho hd (x := rawInt (i : Int)) rfl ?_)
  show wpAny _ _ (if (i : Int) < 0 then _ else _) _ _ s
  rw [if_neg (by omega)]
  refine wpAny_bind (wpAny_specialOf hl.typeIs slot_tuple_getitem.lookup ?_)
  try dsimp only
  rw [if_neg (by decide)]
  refine wpAny_bind (wpAny_mkInt ?_)
  refine wpAny_bind (wpAny_attempt (getItem_tuple (s := { s with toks := s.toks + 1 }) (j := i) hl (by omega) (by omega) hj hx ?_))
  try dsimp only
  refine wpAny_bind (wpAny_field (s := { s with toks := s.toks + 1 }) ho hd (x := rawInt (i : Int)) rfl ?_)
  show wpAny _ _ (setField (.ref it) 1 (rawInt ((i : Int) - 1)) >>= _) _ _ _
  refine wpAny_bind (wpAny_setField ho hd (by simp) ?_)
  refine wpAny_pure ⟨x, rfl, wpAny_pure (hQ _ _ ?_ (Heap.SameBut.update ..))⟩
  exact ⟨_, Heap.get?_update_self _ ho (Obj.isFreed_of_fields (Obj.data_mapFields hd _)), (Obj.cls_mapFields ..).trans hc, by
    rw [Obj.data_mapFields hd]; simp⟩
theorem next_revT_end {it l : Addr} {Q : Option Value → Shared → Prop} (hh : A.handled = none) (hit : IsRevT s.heap it l (-1))
    (hQ : ∀ h', Heap.ExtBut it s.heap h' → Q none { s with heap := h' }) : wpAny (model prog w) A (pyNext (.ref it)) Q E s := by
  obtain ⟨o, ho, hc, hd⟩ := id hit
  unfold pyNext
  refine wpAny_bind (wpAny_attempt (wpAny_callSpecial?_slot (name := Str.ofString "__next__") hit.typeIs RF.slot_rev_next
    (wpAny_call_entry RF.slot_rev_next hit.typeIs RF.entry_rev_next ?_ (RF.args_rev_next_1 _))))
  unfold Builtin.«reversed.__next__»
  refine wpAny_bind (wpAny_of_eq (a := (Value.ref it, [])) rfl ?_)
  try dsimp only
  refine wpAny_bind (wpAny_field ho hd (x := .ref l) rfl ?_)
  refine wpAny_bind (wpAny_field ho hd (x := rawInt (-1)) rfl ?_)
  show wpAny _ _ (if (-1 : Int) < 0 then _ else _) _ _ s
  rw [if_pos (by decide)]
  refine wpAny_bind (wpAny_rule ?_)
  refine wpAny_bind ?_
  show wpAny _ _ (setField (.ref it) 1 (rawInt (-1)) >>= fun _ => setField (.ref it) 0 .none) _ _ _
  refine wpAny_bind (wpAny_setField ho hd (by simp) ?_)
  refine wpAny_setField (Heap.get?_update_self _ ho (Obj.isFreed_of_fields (Obj.data_mapFields hd _))) (Obj.data_mapFields hd _) (by simp) ?_
  first
  | show wpAny _ _ (newExc (.type "StopIteration") [] >>= _) _ _ _
  | (refine wpAny_bind ?_; show wpAny _ _ (newExc (.type "StopIteration") [] >>= _) _ _ _)
  refine wpAny_bind ?_
  simp only [newExc, newTuple]
  refine wpAny_bind (wpAny_newObj_type ?_ (by size_fits))
  refine wpAny_bind (m := firstArgMember _ _) (wpAny_of_eq (a := Value.none) (by first | rfl | (simp only [firstArgMember]; rfl)) ?_)
  refine wpAny_newObj_type ?_ (by size_fits)
  simp only [raiseNew]
  refine wpAny_bind (wpAny_handled ?_)
  first | rw [show A.in1.handled = none from hh] | rw [hh]
  refine wpAny_bind (wpAny_pure (wpAny_throw ?_))
  refine wpAny_bind (wpAny_isInstance (T := "StopIteration") (b := true) ⟨_, Heap.get?_push_size _ rfl, rfl⟩ isSubtype_stop ?_)
  exact wpAny_pure (hQ _ fun b o hb e => Heap.get?_push_of_some _ (Heap.get?_push_of_some _ ((Heap.SameBut.update ..).extBut b o hb ((Heap.SameBut.update ..).extBut b o hb e))))
theorem iter_revT {it l : Addr} {i : Int} {Q : Value → Shared → Prop} (hit : IsRevT s.heap it l i) (h : Q (.ref it) s) : wpAny (model prog w) A (pyIter (.ref it)) Q E s := by
  refine wpAny_pyIter_slot hit.typeIs RF.slot_rev_iter (wpAny_call_entry RF.slot_rev_iter hit.typeIs RF.entry_rev_iter ?_ (RF.args_rev_iter_1 _))
  show wpAny _ _ (ret (.ref it)) _ _ s
  exact wpAny_pure ⟨_, rfl, "reversed", _, hit.typeIs, RF.slot_rev_next.lookup, h⟩
end
theorem Walks.tupRev {prog : Program} {w : World} {A : Around} (hh : A.handled = none) (I l : Addr) (hne : l ≠ I) (items : Array Value) (hz : (items.size : Int) < 2 ^ 62) :
    Walks prog w A I [I, l] [I] items.size (fun i v => items[items.size - 1 - i]? = some v) (fun i h => i ≤ items.size ∧ IsRevT h I l ((items.size : Int) - 1 - (i : Int)) ∧ IsTup h l items) where
  sub := fun b hb => by simp at hb; simp [hb]
  frame := fun _ _ _ x hk => ⟨x.1, x.2.1.at fun o e => hk I (by simp) o e, let ⟨o, ho, r⟩ := x.2.2; ⟨o, hk l (by simp) o ho, r⟩⟩
  item := fun i s Q E hi x hQ => by
    have e : (items.size : Int) - 1 - (i : Int) = ((items.size - 1 - i : Nat) : Int) := by omega
    have hit := x.2.1
    rw [e] at hit
    have hx : items[items.size - 1 - i]? = some (items[items.size - 1 - i]'(by omega)) := Array.getElem?_eq_getElem (by omega)
    refine next_revT (by omega) hit x.2.2 hx fun h' tk hit' hs' => ?_
    have e2 : ((items.size - 1 - i : Nat) : Int) - 1 = (items.size : Int) - 1 - ((i + 1 : Nat) : Int) := by omega
    rw [e2] at hit'
    exact hQ _ h' tk hx ⟨hi, hit', let ⟨o, ho, r⟩ := x.2.2; ⟨o, (hs'.2 l hne).trans ho, r⟩⟩ fun b o hb eo => hs'.extBut b o (fun h => hb (by simp [h])) eo
  done := fun s Q E x hQ => by
    have e : (items.size : Int) - 1 - (items.size : Int) = -1 := by omega
    have hit := x.2.1
    rw [e] at hit
    exact next_revT_end hh hit fun h' he' => hQ h' s.toks fun b o hb eo => he' b o (fun h => hb (by simp [h])) eo
  self := fun _ _ _ _ x hQ => iter_revT x.2.1 hQ
end
section
local macro_rules | `(tactic| walk_at "no such key 28") => `(tactic| fail)
local macro_rules | `(tactic| walk_at "no such key 29") => `(tactic| fail)
theorem off_30 : True := by
  w_top off
  trivial
/-! ### tuple(reversed(list)) -/
namespace RF
theorem nolen_lri : typeLookup (.type "list_reverseiterator") "__len__" = pure none := by rw [typeLookup_type, builtinLookup_eq_fast]; kernel_rfl
theorem hint_lri : typeLookup (.type "list_reverseiterator") "__length_hint__" = pure (some (.builtin "list_reverseiterator.__length_hint__")) := by rw [typeLookup_type, builtinLookup_eq_fast]; kernel_rfl
end RF
section
variable {prog : Program} {w : World} {A : Around} {E : Value → Shared → Prop} {s : Shared} {I : Addr} {fp wr : List Addr} {G : Array GenState → Array GenState → Prop} {n : Nat} {P : Nat → Value → Prop} {St : Nat → Shared → Prop}
theorem collect_lri {Q : List Value → Shared → Prop}
    (W : WalksS prog w A.in1 I fp wr G n P St) (hT : ∀ i s, St i s → s.TypeIs (.ref I) "list_reverseiterator") (hst : St 0 s) (hfp : ∀ b ∈ fp, b < s.heap.objs.size) (hI : I ∈ fp)
    (hQ : ∀ s' acc, Moved wr G s s' → ItemsOf P acc n → Q acc.toList s') (hn : n ≤ sizeLine) : wpAny (model prog w) A (collect (.ref I)) Q E s := by
  have hSf : s.heap.objs.size ∉ fp := fun hm => Nat.lt_irrefl _ (hfp _ hm)
  have hSI : s.heap.objs.size ≠ I := fun e => hSf (e ▸ hI)
  unfold collect
  refine wpAny_bind (wpAny_runValue (codeAny_builtin F.entry_proto_collect ?_))
  rw [Around.under_plainId F.plain_proto_collect _]
  show wpAny _ A.in1 (newList [] >>= fun l => again (.builtin "list.__iadd__" ⟨[l, .ref I], []⟩)) _ _ s
  refine wpAny_bind (wpAny_newObj_type ?_)
  refine wpAny_pure ⟨plainId_quiet F.plain_list_iadd _, codeAny_builtin F.entry_list_iadd ?_⟩
  rw [Around.under_plainId F.plain_list_iadd _]
  have hst₁ := W.frame 0 s (s.heap.push { cls := .type "list", data := .seq ([] : List Value).toArray }) s.toks hst (Nat.le_refl _) fun b _ o e => Heap.get?_push_of_some _ e
  have hS₁ : (s.heap.push { cls := .type "list", data := .seq ([] : List Value).toArray }).get? s.heap.objs.size = some { cls := .type "list", data := .seq ([] : List Value).toArray } := Heap.get?_push_size _ rfl
  have h1 : Builtin.List.listSameRef (.ref s.heap.objs.size) (.ref I) = false := by simp [Builtin.List.listSameRef, hSI]
  show wpAny _ A.in1 (Builtin.List.listExtendWith (.ref s.heap.objs.size) (.ref I) (.ref s.heap.objs.size)) _ _ _
  unfold Builtin.List.listExtendWith
  refine wpAny_bind (wpAny_typeOf (hT 0 _ hst₁) ?_)
  rw [if_neg (by rw [h1]; decide)]
  refine wpAny_bind (W.self 0 _ _ _ hst₁ ?_)
  refine wpAny_bind (wpAny_holding ?_)
  unfold Builtin.List.listLengthHint
  refine wpAny_bind (wpAny_specialOf (hT 0 _ hst₁) RF.nolen_lri ?_)
  show wpAny _ A.in1 (specialOf (Value.ref I) (Str.ofString "__length_hint__") >>= _) _ _ _
  refine wpAny_bind (wpAny_specialOf (hT 0 _ hst₁) RF.hint_lri ?_)
  (generalize hid : ("list_reverseiterator.__length_hint__" : String) = id0; (fail_if_success (clear hid id0)); wp_delta; rw [show splitId id0 = some ("list_reverseiterator", "__length_hint__") from by subst hid; decide +kernel]; subst hid)
  refine wpAny_bind (wpAny_isInstance (b := true) (hT 0 _ hst₁) (by rw [isSubtype_type]; kernel_rfl) ?_)
  refine wpAny_pure ?_
  rw [if_neg (by decide)]
  refine wpAny_pure ⟨plainId_quiet F.plain_extend_loop _, codeAny_extend_loopS W hn _ hSf _ n 0 _ _ _ rfl (Nat.zero_le _) hst₁ hS₁ (ItemsOf.nil P) fun s' acc' c' hm hS' hacc => ?_⟩
  show wpAny _ A (load s.heap.objs.size >>= _) _ _ s'
  refine wpAny_bind (wpAny_load hS' ?_)
  exact wpAny_pure (hQ s' acc' (Moved.drop_new (o := { cls := .type "list", data := .seq ([] : List Value).toArray }) (tk := s.toks) hm (Nat.le_refl _)) hacc)
theorem code_tuple_lri {Q₁ : Value → Shared → Prop} (W : WalksS prog w A.in1.in1 I fp wr G n P St) (hT : ∀ i s, St i s → s.TypeIs (.ref I) "list_reverseiterator") (hst : St 0 s) (hfp : ∀ b ∈ fp, b < s.heap.objs.size) (hI : I ∈ fp)
    (h : ∀ s' acc, Moved wr G s s' → ItemsOf P acc n → Q₁ (.ref s'.heap.objs.size) { s' with heap := s'.heap.push { cls := .type "tuple", data := .seq acc } }) (hsz : n ≤ sizeLine) :
    codeAny (model prog w) A (.call (.builtin "tuple.__new__") ⟨[.type "tuple", .ref I], []⟩) (wants Q₁ E) s := by
  refine codeAny_of_tree ?_
  show wpAny _ A.in1 (do checkBuiltinCall "tuple.__new__" ⟨[.type "tuple", .ref I], []⟩; again (.builtin "tuple.__new__" ⟨[.type "tuple", .ref I], []⟩)) _ _ s
  refine wpAny_bind (wpAny_of_eq (F.newCall_tuple_1 _) (wpAny_pure ⟨plainId_quiet F.plain_tuple_new _, codeAny_builtin F.entry_tuple_new ?_⟩))
  rw [Around.under_plainId F.plain_tuple_new _]
  have hsub := sub_tuple_self
  have hinit := init_tuple_lookup
  have hmh := madeHere_tuple
  have hTI := hT 0 s hst
  wp_walk using wpAny_typeOf hTI, collect_lri (hn := hsz) W hT hst hfp hI
  intro s' acc hm hacc
  show wpAny _ _ (Builtin.Tuple.tupleExact acc.toList.toArray >>= fun v => ret v) _ _ _
  unfold Builtin.Tuple.tupleExact
  refine wpAny_bind (wpAny_newObj_type ?_ (by show acc.toList.toArray.size ≤ sizeLine; simp only [Array.toArray_toList]; rw [hacc.1]; exact hsz))
  refine wpAny_pure ?_
  have e : acc.toList.toArray = acc := by simp
  rw [e]
  exact h s' acc hm hacc
theorem call_tuple_lri {Q : Value → Shared → Prop} (W : WalksS prog w A.in1.in1.in1 I fp wr G n P St) (hT : ∀ i s, St i s → s.TypeIs (.ref I) "list_reverseiterator") (hst : St 0 s) (hfp : ∀ b ∈ fp, b < s.heap.objs.size) (hI : I ∈ fp)
    (hQ : ∀ s' acc, Moved wr G s s' → ItemsOf P acc n → Q (.ref s'.heap.objs.size) { s' with heap := s'.heap.push { cls := .type "tuple", data := .seq acc } }) (hsz : n ≤ sizeLine) :
    wpAny (model prog w) A (call (.type "tuple") [.ref I]) Q E s := by
  refine callType_codes (Q₁ := fun obj s₁ => s₁.TypeIs obj "tuple" ∧ Q obj s₁) F.called_tuple (F.typeCall_tuple_1 _) F.entry_object_init
    (code_tuple_lri (hsz := hsz) W hT hst hfp hI fun s' acc hm hacc => ⟨⟨_, Heap.get?_push_size _ rfl, rfl⟩, hQ s' acc hm hacc⟩) fun obj s₁ h₁ => ?_
  exact ⟨h₁.1, F.args_object_init_2 obj _, object_init_meets F.called_tuple.init.lookup F.called_tuple.made (by decide) prog w A.in1 _ s₁ ⟨h₁.1, rfl, h₁.2⟩⟩
end
section
variable {prog : Program} {w : World} {A : Around} {E : Value → Shared → Prop} {s : Shared} {h₀ : Heap} {L : Addr} {m : Str → Option Value} {news : Led}
theorem my_tupleRev {D l : Addr} {o : Obj} {es : List By} {Q : Value → Shared → Prop} (hh : A.handled = none) (F : Fr h₀ L s.heap m) (N : News h₀ L s.heap ((D, revObj l ((es.length : Int) - 1)) :: news)) (hD : ∀ p ∈ news, p.1 ≠ D) (hm : (l, o) ∈ news) (hv : ListB o es) (hz : es.length ≤ 16384)
    (h : ∀ D' o' h' tk, Fr h₀ L h' m → News h₀ L h' ((D', o') :: news) → TupB o' es.reverse → (∀ p ∈ news, @LT.lt Nat _ p.1 D') → Q (.ref D') { s with heap := h', toks := tk }) : wpAny (model prog w) A (call (.type "tuple") [.ref D]) Q E s := by
  obtain ⟨vs, hv, hb⟩ := hv
  have hl := ListV.isList (fun p hp => N p (.tail _ hp)) hm hv
  have hDx := N _ (List.mem_cons_self ..)
  have hlx := N _ (List.mem_cons_of_mem _ hm)
  have hne : l ≠ D := hD _ hm
  have W := (Walks.listRev (prog := prog) (w := w) (A := A.in1.in1.in1) hh D l hne vs.toArray).toS
  have hsz : vs.toArray.size = es.length := by rw [List.size_toArray, hb.length]
  refine call_tuple_lri W (fun i s st => Heap.IsRevIter.typeIs st.2.1) ⟨Nat.zero_le _, ⟨_, hDx.1, rfl, by rw [hsz]; simp [revObj]⟩, hl⟩ (fun b hb => ?_) (List.mem_cons_self ..) (fun s' acc hm' hacc => ?_) (by rw [hsz, sizeLine_eq]; omega)
  · rcases List.mem_cons.mp hb with rfl | hb
    · exact Heap.lt_size hDx.1
    · rw [List.mem_singleton.mp hb]; exact Heap.lt_size hlx.1
  · obtain ⟨h', g', d', tk', os'⟩ := s'
    have e1 : g' = s.gens := hm'.gens
    have e2 : d' = s.drawn := hm'.drawn
    have e3 : os' = s.os := hm'.os
    subst e1 e2 e3
    have F' : Fr h₀ L h' m := LCg.fr_but F (fun b o hb e => hm'.heap b o hb e) (Ne.symm hDx.2.1) hDx.2.2
    have N' : News h₀ L h' news := LCg.news_but (fun p hp => N p (.tail _ hp)) (fun b o hb e => hm'.heap b o hb e) hD
    have ha : acc = vs.reverse.toArray := by
      refine Array.ext_getElem? fun i => ?_
      by_cases hi : i < acc.size
      · have h1 := hacc.2 i _ (Array.getElem?_eq_getElem hi)
        rw [Array.getElem?_eq_getElem hi]
        have hi' : i < vs.length := by have := hacc.1; simp at this; omega
        rw [← h1]
        simp only [List.getElem?_toArray, List.size_toArray]
        rw [List.getElem?_reverse hi']
      · rw [Array.getElem?_eq_none (by omega)]
        have := hacc.1
        simp only [List.size_toArray] at this
        rw [List.getElem?_toArray, List.getElem?_eq_none (by rw [List.length_reverse]; omega)]
    subst ha
    exact h _ _ _ _ (F'.push _) (N'.push F' _) ⟨vs.reverse, rfl, hb.reverse⟩ fun p hp => Heap.lt_size (N' p hp).1
theorem my_revT {t : Addr} {o : Obj} {es : List By} {Q : Value → Shared → Prop} (F : Fr h₀ L s.heap m) (N : News h₀ L s.heap news) (hm : (t, o) ∈ news) (hv : TupB o es) (hz : es.length ≤ 16384)
    (h : ∀ D h' tk, Fr h₀ L h' m → News h₀ L h' ((D, revT t ((es.length : Int) - 1)) :: news) → (∀ p ∈ news, @LT.lt Nat _ p.1 D) → Q (.ref D) { s with heap := h', toks := tk }) : wpAny (model prog w) A (call (.type "reversed") [.ref t]) Q E s := by
  obtain ⟨vs, hv, hb⟩ := hv
  have hsz : vs.toArray.size = es.length := by rw [List.size_toArray, hb.length]
  refine call_reversed_tuple (items := vs.toArray) ⟨o, (N _ hm).1, by rw [hv], ⟨_, by rw [hv]⟩⟩ (by rw [hsz]; omega) fun tk => ?_
  rw [hsz]
  exact h _ _ _ (F.push _) (News.push F N _) fun p hp => Heap.lt_size (N p hp).1
end
end
section
local macro_rules | `(tactic| walk_at "no such key 31") => `(tactic| fail)
local macro_rules | `(tactic| walk_at "no such key 32") => `(tactic| fail)
local macro_rules | `(tactic| walk_at "no such key 33") => `(tactic| fail)
theorem off_34 : True := by
  w_top off
  trivial
/-! ### a loop over reversed(tuple) -/
section
variable {prog : Program} {w : World} {A : Around} {E : Value → Shared → Prop} {s : Shared} {env : Env} {h₀ : Heap} {x : Str} {body : List Stmt} {Q : Flow → Shared → Prop}
theorem VB.item {vs : List Value} {es : List By} (h : VB vs es) {i : Nat} {v : Value} (e : vs[i]? = some v) : ∃ b t, v = .bytes b t ∧ es[i]? = some b.toList := by
  induction h generalizing i with
  | nil => simp at e
  | @cons b t vs es _ ih =>
    cases i with
    | zero => simp only [List.getElem?_cons_zero, Option.some.injEq] at e ⊢; exact ⟨b, t, e.symm, rfl⟩
    | succ i => simp only [List.getElem?_cons_succ] at e ⊢; exact ih e
theorem iter_rev {I t : Addr} {o : Obj} {es : List By} {m₀ : Str → Option Value} {fr₀ rest : Led} (J : (Str → Option Value) → Led → Nat → (Str → Option Value) → Led → Prop)
    (hh : A.handled = none) (hI : s.heap.get? I = some (revT t ((es.length : Int) - 1)) ∧ I ≠ env.locals ∧ h₀.get? I = none) (hIn : ∀ p ∈ fr₀ ++ rest, p.1 ≠ I) (hm : (t, o) ∈ rest) (hT : TupB o es) (hz : es.length ≤ 16384) (F : Fr h₀ env.locals s.heap m₀) (N : News h₀ env.locals s.heap (fr₀ ++ rest)) (hoff : OwnOff rest (fr₀.map (·.1))) (j0 : J m₀ fr₀ 0 m₀ fr₀)
    (turn : ∀ (i : Nat) b t m₁ fr rest' h tk, i < es.length → es.reverse[i]? = some b.toList → J m₀ fr₀ i m₁ fr → OwnOff rest' (fr.map (·.1)) → (∀ p ∈ rest, p ∈ rest') → Fr h₀ env.locals h (fun y => if y = x then some (.bytes b t) else m₁ y) → News h₀ env.locals h (fr ++ rest') →
      wpAny (model prog w) A (execs body env) (TurnPost h₀ env.locals (J m₀ fr₀ (i + 1)) rest' { s with heap := h, toks := tk } Q) E { s with heap := h, toks := tk })
    (done : ∀ m₁ fr h tk, J m₀ fr₀ es.length m₁ fr → OwnOff rest (fr.map (·.1)) → Fr h₀ env.locals h m₁ → News h₀ env.locals h (fr ++ rest) → Q .next { s with heap := h, toks := tk }) :
    wpAny (model prog w) A (pyIter (.ref I)) (fun it s₂ => LoopAtV prog w A h₀ env x body Q E it s₂) E s := by
  obtain ⟨vs, rfl, hb⟩ := hT
  have htx := N _ (List.mem_append_right _ hm)
  have hsz : vs.toArray.size = es.length := by rw [List.size_toArray, hb.length]
  have htup : IsTup s.heap t vs.toArray := ⟨_, htx.1, rfl, _, rfl⟩
  have hrv : IsRevT s.heap I t ((es.length : Int) - 1) := ⟨_, hI.1, rfl, rfl⟩
  have hne : t ≠ I := hIn _ (List.mem_append_right _ hm)
  refine iter_revT hrv ?_
  have W := (Walks.tupRev (prog := prog) (w := w) (A := A) hh I t hne vs.toArray (by rw [hsz]; omega)).bound
  rw [hsz] at W
  refine loop_rule (J m₀ fr₀) W ?_ ?_ ?_ ?_ F N ?_ ?_ hoff j0 ?_ done
  · intro hmm
    rcases List.mem_cons.mp hmm with e | hmm
    · exact hI.2.1 e.symm
    · exact htx.2.1 (List.mem_singleton.mp hmm).symm
  · intro b hb; rw [List.mem_singleton.mp hb]; exact hI.2.2
  · rintro i h ⟨_, ⟨oi, hi, _⟩, ⟨od, hod, _⟩⟩ b hb
    rcases List.mem_cons.mp hb with rfl | hb
    · exact ⟨_, hi⟩
    · rw [List.mem_singleton.mp hb]; exact ⟨_, hod⟩
  · refine ⟨Nat.zero_le _, ?_, htup⟩
    simpa using hrv
  · intro p hp hb
    exact hIn p (List.mem_append_right _ hp) (List.mem_singleton.mp hb)
  · intro p hp hb
    rcases List.mem_cons.mp hb with e | hb
    · exact hIn p (List.mem_append_left _ hp) e
    · exact hoff _ hm _ (List.mem_map_of_mem hp) (List.mem_singleton.mp hb).symm
  · rintro i v m₁ fr rest' h tk hi ⟨_, hv⟩ hJ ho hs F₁ N₁
    have hi' : i < es.length := hi
    rw [List.getElem?_toArray] at hv
    obtain ⟨b, tb, rfl, he⟩ := hb.item hv
    refine turn i b tb m₁ fr rest' h tk hi' ?_ hJ ho hs F₁ N₁
    rw [List.getElem?_reverse hi']
    exact he
theorem my_revL {L l : Addr} {m : Str → Option Value} {news : Led} {o : Obj} {es : List By} {Q : Value → Shared → Prop} (F : Fr h₀ L s.heap m) (N : News h₀ L s.heap news) (hm : (l, o) ∈ news) (hv : ListB o es)
    (h : ∀ D h', Fr h₀ L h' m → News h₀ L h' ((D, revObj l ((es.length : Int) - 1)) :: news) → (∀ p ∈ news, @LT.lt Nat _ p.1 D) → Q (.ref D) { s with heap := h' }) : wpAny (model prog w) A (call (.type "reversed") [.ref l]) Q E s := by
  obtain ⟨vs, hv, hb⟩ := hv
  rw [← hb.length] at h
  exact krv_reversed F N (ListV.isList N hm hv) fun D h' F' N' lt => h D h' F' N' lt
end
/-! ### set -/
def tbl : Nat → Int
  | 0 => 1
  | i + 1 => tbl i * 2 ^ (1 : Int).toNat
def bitS (path : Int) (i : Nat) : Bool := decide (Builtin.bitAnd path (tbl i) ≠ 0)
inductive SetW (B : List By) (bit : Nat → Bool) (sibs : List By) (value : By) (SD : List (By × By)) : Nat → By → List By → List (By × By) → Prop
  | zero : SetW B bit sibs value SD 0 value [] SD
  | succ {i : Nat} {node : By} {ns : List By} {SD' : List (By × By)} {n sb : By} : SetW B bit sibs value SD i node ns SD' → Named B node n → sibs[i]? = some sb → SetW B bit sibs value SD (i + 1) (if bit i then sb ++ n else n ++ sb) (ns ++ [n]) (put SD' n node)
theorem SetW.mono {B B' : List By} {bit : Nat → Bool} {sibs : List By} {value : By} {SD : List (By × By)} {i : Nat} {node : By} {ns : List By} {SD' : List (By × By)} (h : SetW B bit sibs value SD i node ns SD') (hp : B <+: B') : SetW B' bit sibs value SD i node ns SD' := by
  induction h with
  | zero => exact .zero
  | succ _ hn hs ih => exact .succ ih (hn.mono hp) hs
theorem SetW.lengths {B : List By} {bit : Nat → Bool} {sibs : List By} {value : By} {SD : List (By × By)} {i : Nat} {node : By} {ns : List By} {SD' : List (By × By)} (h : SetW B bit sibs value SD i node ns SD') : ns.length = i ∧ SD'.length ≤ SD.length + i := by
  induction h with
  | zero => exact ⟨rfl, Nat.le_refl _⟩
  | succ _ hn hs ih => exact ⟨by rw [List.length_append, ih.1]; rfl, Nat.le_trans (put_length_le _ _ _) (by omega)⟩
theorem ne_all {news : Led} {D : Addr} (h : ∀ p ∈ news, @LT.lt Nat _ p.1 D) : ∀ p ∈ news, p.1 ≠ D := fun p hp => Nat.ne_of_lt (h p hp)
end
local macro_rules | `(tactic| walk_at "call type:reversed") => `(tactic| (k_here; (with_reducible show wpAny _ _ (call (Value.type _) [Value.ref _]) _ _ _); k_dflt (first
  | (refine' my_revT ?F ?N ?m ?v ?z ?_; (case F => k_asm); (case N => k_asm); (case m => ktr_rel); (case v => assumption); (case z => omega); intro D' h' tk' F' N' l1)
  | (refine' my_revL ?F ?N ?m ?v ?_; (case F => k_asm); (case N => k_asm); (case m => ktr_rel); (case v => assumption); intro D' h' F' N' l1))))
local macro_rules | `(tactic| walk_at "call type:tuple") => `(tactic| (k_here; (with_reducible show wpAny _ _ (call (Value.type _) [Value.ref _]) _ _ _); k_dflt (first
  | (refine' my_tupleRev ?hh ?k1 ?k2 ?kd ?k3 ?k4 ?k5 ?_; (case hh => exact rfl); (case k1 => k_asm); (case k2 => k_asm); (case kd => exact ne_all (by assumption)); (case k3 => ktr_rel); (case k4 => assumption); (case k5 => omega); intro D' o' h' tk' F' N' hT' l1)
  | (refine' my_tupleOf ?k1 ?k2 ?k3 ?k4 ?k5 ?_; (case k1 => k_asm); (case k2 => k_asm); (case k3 => ktr_rel); (case k4 => assumption); (case k5 => omega); intro D' o' h' F' N' hT' l1))))
local macro_rules | `(tactic| walk_at "binaryOp Add bytes bytes") => `(tactic| (k_here; k_dflt (refine' my_addB ?z ?_; (case z => first | (simp only [List.size_toArray]; omega) | (rename Named _ _ _ => hq'; have hq'' := Named.length hq'; simp only [List.size_toArray]; omega)); intro t' k')))
local macro_rules | `(tactic| walk_at "inplaceOp LShift int int") => `(tactic| (k_here; k_dflt (refine' ilshift_int_small ?a ?b ?c ?_; (case a => decide); (case b => decide); (case c => assumption))))
section
theorem off_35 : True := by
  w_top off
  trivial
theorem News.drop7 {h₀ h : Heap} {L : Addr} {D l r br bk sd d : Addr × Obj} {rest : Led} (N : News h₀ L h (D :: l :: bk :: sd :: d :: r :: br :: rest)) : News h₀ L h (D :: bk :: sd :: d :: rest) := fun p hp => N p (by
  simp only [List.mem_cons] at hp ⊢
  rcases hp with h | h | h | h | h <;> simp [h])
theorem tbl_pow : ∀ i, tbl i = ((2 ^ i : Nat) : Int)
  | 0 => rfl
  | i + 1 => by rw [tbl, tbl_pow i, Nat.pow_succ]; simp
theorem tbl_small {i : Nat} (h : i ≤ 16) : (tbl i).natAbs < 2 ^ 64 := by
  rw [tbl_pow, Int.natAbs_natCast]
  exact Nat.lt_of_le_of_lt (Nat.pow_le_pow_right (by decide) h) (by decide)
theorem getW_sizes {SD : List (By × By)} {bit : Nat → Bool} {root : By} (hSD : ∀ k v, get SD k = some v → v.length ≤ 300) : ∀ {n : Nat} {p : By × List By}, getW SD bit root n = some p → ∀ e ∈ p.2, e.length ≤ 300
  | 0, p, h => by simp only [getW, Option.some.injEq] at h; rw [← h]; intro e he; cases he
  | n + 1, p, h => by
    rw [getW] at h
    cases e : getW SD bit root n with
    | none => rw [e] at h; cases h
    | some q =>
      rw [e] at h
      simp only [Option.bind_some] at h
      cases e2 : get SD q.1 with
      | none => rw [e2] at h; cases h
      | some v =>
        rw [e2] at h
        have ih := getW_sizes hSD e
        have hv := hSD _ _ e2
        simp only [Option.bind_some] at h
        split at h <;> (cases h; intro x hx; rcases List.mem_append.mp hx with hx | hx; · exact ih x hx) <;> (rw [List.mem_singleton.mp hx]; first | (rw [List.length_take]; omega) | (rw [List.length_drop]; omega))
theorem getR_sizes {SD : List (By × By)} {bit : Nat → Bool} {root v : By} {bl : List By} {n : Nat} (hSD : ∀ k v, get SD k = some v → v.length ≤ 300) (h : getR SD bit root n = some (v, bl)) : ∀ e ∈ bl, e.length ≤ 300 := by
  rw [getR] at h
  cases e : getW SD bit root n with
  | none => rw [e] at h; cases h
  | some q =>
    rw [e] at h
    simp only [Option.bind_some] at h
    cases e2 : get SD q.1 with
    | none => rw [e2] at h; cases h
    | some v => rw [e2] at h; cases h; exact getW_sizes hSD e
theorem News.perm7 {h₀ h : Heap} {L : Addr} {I l r br bk sd d : Addr × Obj} {rest : Led} (N : News h₀ L h (I :: l :: r :: br :: bk :: sd :: d :: rest)) : News h₀ L h ([l, bk, sd, d] ++ (r :: br :: rest)) := fun p hp => N p (by
  simp only [List.cons_append, List.nil_append, List.mem_cons] at hp ⊢
  rcases hp with h | h | h | h | h | h | h <;> simp [h])
theorem getR_length {SD : List (By × By)} {bit : Nat → Bool} {root v : By} {bl : List By} {n : Nat} (h : getR SD bit root n = some (v, bl)) : bl.length = n := by
  rw [getR] at h
  cases e : getW SD bit root n with
  | none => rw [e] at h; cases h
  | some q =>
    rw [e] at h
    simp only [Option.bind_some] at h
    cases e2 : get SD q.1 with
    | none => rw [e2] at h; cases h
    | some v => rw [e2] at h; cases h; exact getW_length e
section
variable {prog : Program} {w : World} {p : Program} {loose : List Str} {mean : ExcName → Option Value} {mg mb : Str → Option Value} {dp un : Nat} {gd : Option (List Code)} {cn : Str} {cs : Scope} {a : Addr} {ccd : Value} {cl : List (Str × Addr)} {outer : List Env} {A₀ : Around} {base h₀ : Heap} {L : Addr} {m : Str → Option Value} {s : Shared} {Q E : Value → Shared → Prop}
def SetJ (prog : Program) (w : World) (path : Int) (B0 : List By) (sibs : List By) (value : By) (SD : List (By × By)) (m₀ : Str → Option Value) (fr₀ : Led) (i : Nat) (m : Str → Option Value) (fr : Led) : Prop :=
  ∃ u1 u2 b t tt l bk sd d ol₀ ob₀ osd₀ od ol ob osd Bi ns SDi, m = ovr [(Str.ofString "sibling_node", u1), (Str.ofString "node_hash", u2), (Str.ofString "node", some (.bytes b t)), (Str.ofString "target_bit", some (.int (tbl i) tt))] m₀ ∧
    [(l, ol₀), (bk, ob₀), (sd, osd₀), (d, od)] = fr₀ ∧ fr = [(l, ol), (bk, ob), (sd, osd), (d, od)] ∧ ListB ol ns ∧ Book (prog := prog) (w := w) ob Bi ∧ B0 <+: Bi ∧ Bi.length ≤ B0.length + i ∧ Tab (bytesKind prog w) osd SDi ∧ SetW Bi (bitS path) sibs value SD i b.toList ns SDi ∧ b.size ≤ 400
set_option maxHeartbeats 2000000 in
theorem set_call {x d sd bk f : Addr} {o osd : Obj} {B : List By} {SD : List (By × By)} {rest : Led} {size : Int} {dflt root key value : Array UInt8} {t0 t1 u0 u1 u2 u3 u4 u5 u6 u7 u8 u9 : Tok} (Bl : Below A₀ base outer h₀) (F : Fr h₀ L s.heap m) (X : (hd.heap_39 w.params).In h₀) (T : Top p loose mean mg mb h₀) (hk : cs.kind = .function) (hdp : dp + 12 < recursionLimit) (hun : un + 120 < cLine)
    (N : News h₀ L s.heap ((bk, o) :: (sd, osd) :: (d, dictOf (treeL w size dflt f sd root u0 u1 u2 u3 u4 u5 u6 u7 u8 u9) 6) :: rest)) (hoff : OwnOff rest [bk, sd, d]) (n1 : @Ne Nat bk sd) (n2 : @Ne Nat bk d) (n3 : @Ne Nat sd d)
    (hx : (x, instObj 161 d) ∈ rest) (hf : HashFn rest f bk) (hB : Book (prog := prog) (w := w) o B) (hlen : B.length ≤ 900000) (hblo : (bk == sysModules) = false) (hT : Tab (bytesKind prog w) osd SD) (hSz : SD.length ≤ 900000) (hlo : (sd == sysModules) = false)
    (hkz : (key.size : Int) = size) (hs0 : 1 ≤ size) (hs1 : size ≤ 2) (hvz : value.size ≤ 300) (hSD : ∀ k v, get SD k = some v → v.length ≤ 300) (hroot : root.size = 32)
    (ret : ∀ h' tk' r orr o' osd' B' root' node n ns SD1 v bl v0 v1 v2 v3 v4 v5 v6 v7 v8 v9, Fr h₀ L h' m → News h₀ L h' ((r, orr) :: (bk, o') :: (sd, osd') :: (d, dictOf (treeL w size dflt f sd root' v0 v1 v2 v3 v4 v5 v6 v7 v8 v9) 6) :: rest) →
      (∀ p ∈ rest, @LT.lt Nat _ p.1 r) → Book (prog := prog) (w := w) o' B' → B <+: B' → B'.length ≤ B.length + 20 → getR SD (bitT (KFB.value (intsOf key.toList)) (size * 8 - 1).toNat) root.toList (size * 8).toNat = some (v, bl) →
      SetW B' (bitS (KFB.value (intsOf key.toList))) bl.reverse value.toList SD (size * 8).toNat node ns SD1 → Named B' node n → root' = n.toArray → Tab (bytesKind prog w) osd' (put SD1 n node) → TupB orr ns.reverse → Q (.ref r) { s with heap := h', toks := tk' })
    (exc : ∀ e g h' tk', Fr h₀ L g m → RaisedN base (envX cn cs L a ccd cl :: outer) e (.type "KeyError") ((bk, o) :: (sd, osd) :: (d, dictOf (treeL w size dflt f sd root u0 u1 u2 u3 u4 u5 u6 u7 u8 u9) 6) :: rest) h' → g.UpToSlots h' → getR SD (bitT (KFB.value (intsOf key.toList)) (size * 8 - 1).toNat) root.toList (size * 8).toNat = none → E (.ref e) { s with heap := h', toks := tk' }) :
    wpAny (model prog w) (ktrTop dp un gd cn cs L a ccd cl outer) (call (.ref 116) [.ref x, .bytes key t0, .bytes value t1]) Q E s := by
  refine wpAny_call ?_
  k_dflt (refine' code_def (binds := [((Str.ofString "self"), .ref x), ((Str.ofString "key"), .bytes key t0), ((Str.ofString "value"), .bytes value t1)]) ?k1 ?k2 ?k3 ?k4 ?k5 ?kA ?kF ?kK ?k6 ?k7 ?k8 ?k9 ?kB ?_ ?c2 ?c3 ?c4 ?c5; (case kA => exact rfl); (case kF => exact rfl); (case kK => assumption); (case k1 => k_asm); (case k2 => k_asm); (case k3 => k_asm); (case k4 => k_asm); (case k5 => k_asm); (case k6 => k_is); (case k7 => k_is); (case k8 => exact Nat.lt_of_le_of_lt (Nat.le_add_right _ _) hdp); (case k9 => exact BindsTo.of_eq rfl); (case c5 => decide); (case kB => exact locs rfl); (case c2 => exact rfl); (case c3 => exact rfl); (case c4 => exact rfl); intro g' L' h' FG' F' N' B' X' T')
  k_steps
  · rename getR _ _ _ _ = _ => hG
    have hblz := getR_length hG
    k_steps
    rename_i r br ob v t bl hlA hlB hTB ha1 ha2 ha3 tka l ol ha4 hltl hvl ha5 tkb ha6 Na D hD tkD FD ND ltD
    have m1 : @LT.lt Nat _ bk br := hlA _ (.head _)
    have m2 : @LT.lt Nat _ sd br := hlA _ (.tail _ (.head _))
    have m3 : @LT.lt Nat _ d br := hlA _ (.tail _ (.tail _ (.head _)))
    have m4 : ∀ p ∈ rest, @LT.lt Nat _ p.1 br := fun p hp => hlA _ (.tail _ (.tail _ (.tail _ hp)))
    have m5 : @LT.lt Nat _ br r := hlB
    have m6 : @LT.lt Nat _ r l := hltl _ (.head _)
    have m7 : @LT.lt Nat _ l D := ltD _ (.head _)
    clear hlA hlB hltl ltD
    have hsizes := getR_sizes hSD hG
    generalize hpa : KFB.value (intsOf key.toList) = path at FD ret exc hG
    refine Stop.get (iter_rev (t := br) (o := ob) (es := bl) (fr₀ := [(l, ol), (bk, o), (sd, osd), (d, dictOf (treeL w size dflt f sd root u0 u1 u2 u3 u4 u5 u6 u7 u8 u9) 6)]) (rest := (r, ({ cls := .type "tuple", data := .seq #[.bytes v t, .ref br] } : Obj)) :: (br, ob) :: rest) (SetJ prog w path B bl.reverse value.toList SD) rfl (ND _ (.head _)) ?hIn (.tail _ (.head _)) hTB (by omega) FD (News.perm7 ND) ?off ?j0 ?turn ?done)
    case hIn =>
      intro p hp
      simp only [List.cons_append, List.nil_append, List.mem_cons] at hp
      rcases hp with rfl | rfl | rfl | rfl | rfl | rfl | h
      · exact Nat.ne_of_lt (show @LT.lt Nat _ l D by omega)
      · exact Nat.ne_of_lt (show @LT.lt Nat _ bk D by omega)
      · exact Nat.ne_of_lt (show @LT.lt Nat _ sd D by omega)
      · exact Nat.ne_of_lt (show @LT.lt Nat _ d D by omega)
      · exact Nat.ne_of_lt (show @LT.lt Nat _ r D by omega)
      · exact Nat.ne_of_lt (show @LT.lt Nat _ br D by omega)
      · exact Nat.ne_of_lt (show @LT.lt Nat _ p.1 D by have := m4 p h; omega)
    case off =>
      refine offs fun p hp b hb => ?_
      simp only [List.map_cons, List.map_nil, List.mem_cons, List.not_mem_nil, or_false] at hp hb
      rcases hp with rfl | rfl | hp
      · rcases hb with rfl | rfl | rfl | rfl <;> exact neN (by omega)
      · rcases hb with rfl | rfl | rfl | rfl <;> exact neN (by omega)
      · rcases hb with rfl | rfl | rfl | rfl
        · exact Nat.ne_of_lt (show @LT.lt Nat _ p.1 b by have := m4 p hp; omega)
        · exact hoff p hp _ (.head _)
        · exact hoff p hp _ (.tail _ (.head _))
        · exact hoff p hp _ (.tail _ (.tail _ (.head _)))
    case j0 =>
      exact ⟨_, _, value, t1, _, _, _, _, _, _, _, _, _, _, _, _, B, [], SD, ovr_of [Str.ofString "sibling_node", Str.ofString "node_hash", Str.ofString "node", Str.ofString "target_bit"] (fun _ _ => rfl), rfl, rfl, ⟨[], hvl, .nil⟩, hB, List.prefix_refl _, Nat.le_refl _, hT, .zero, by omega⟩
    case turn =>
      rintro i sb tsb m₁ fr rest' h tk hi hsb ⟨w1, w2, b, tb, tt, l, bk, sd, d, ol₀, ob₀, osd₀, od, ol, ob, osd, Bi, ns, SDi, rfl, e0, rfl, hol, hBi, hpre, hlb, hTD, hW, hbz⟩ ho hs F₂ N₂
      simp only [List.cons.injEq, Prod.mk.injEq, and_true, true_and] at e0
      obtain ⟨⟨rfl, rfl⟩, ⟨rfl, rfl⟩, ⟨rfl, rfl⟩, rfl, rfl⟩ := e0
      simp only [List.map_cons, List.map_nil] at ho
      simp only [List.cons_append, List.nil_append] at N₂
      have hf' := hf.mono (fun p hp => hs p (.tail _ (.tail _ hp)))
      have hx' := hs _ (.tail _ (.tail _ hx))
      have hBiz : Bi.length < 1000000 := by omega
      have hnsz := hW.lengths
      have hDz : SDi.length ≤ 16777216 := by omega
      have hnsz' : ns.length ≤ 16777216 := by omega
      have hsbz : sb.size ≤ 300 := by
        have := hsizes _ (List.mem_reverse.mp (List.mem_of_getElem? hsb))
        rwa [Array.length_toList] at this
      have htbl := tbl_small (i := i) (by omega)
      k_steps
      · rename Builtin.bitAnd _ _ ≠ _ => hbit
        rename Named _ _ _ => hn1
        rename ListB _ _ => hol2
        rename Book _ _ => hB2
        rename _ <+: _ => hp2
        rename Tab (bytesKind _ _) _ _ => hT2
        have hn1z := hn1.length
        simp only [List.toList_toArray] at hol2 hT2
        have hW2 := (hW.mono hp2).succ hn1 hsb
        refine ⟨_, _, _, _, _, rfl, by assumption, by assumption, ?a1, ?b1, ?c1, _, _, _, _, _, _, _, _, _, _, _, _, _, _, _, _, _, _, _, ovr_of [Str.ofString "sibling_node", Str.ofString "node_hash", Str.ofString "node", Str.ofString "target_bit"] ?d1, rfl, rfl, hol2, hB2, hpre.trans hp2, by omega, hT2, ?e1, ?f1⟩
        case a1 => exact fun p hp => List.mem_append_left rest' hp
        case b1 => exact fun p hp => List.mem_append_right [_, _, _, _] hp
        case c1 => exact ho
        case d1 =>
          intro z hz
          simp only [List.mem_cons, List.not_mem_nil, or_false, not_or] at hz
          obtain ⟨z1, z2, z3, z4⟩ := hz
          simp only [ovr, z1, z2, z3, z4, if_false]
        case e1 =>
          have hbs : bitS path i = true := by simp [bitS, hbit]
          simpa [hbs] using hW2
        case f1 => simp only [Array.size_append, List.size_toArray]; omega
      · rename Builtin.bitAnd _ _ = _ => hbit
        rename Named _ _ _ => hn1
        rename ListB _ _ => hol2
        rename Book _ _ => hB2
        rename _ <+: _ => hp2
        rename Tab (bytesKind _ _) _ _ => hT2
        have hn1z := hn1.length
        simp only [List.toList_toArray] at hol2 hT2
        have hW2 := (hW.mono hp2).succ hn1 hsb
        refine ⟨_, _, _, _, _, rfl, by assumption, by assumption, ?a2, ?b2, ?c2, _, _, _, _, _, _, _, _, _, _, _, _, _, _, _, _, _, _, _, ovr_of [Str.ofString "sibling_node", Str.ofString "node_hash", Str.ofString "node", Str.ofString "target_bit"] ?d2, rfl, rfl, hol2, hB2, hpre.trans hp2, by omega, hT2, ?e2, ?f2⟩
        case a2 => exact fun p hp => List.mem_append_left rest' hp
        case b2 => exact fun p hp => List.mem_append_right [_, _, _, _] hp
        case c2 => exact ho
        case d2 =>
          intro z hz
          simp only [List.mem_cons, List.not_mem_nil, or_false, not_or] at hz
          obtain ⟨z1, z2, z3, z4⟩ := hz
          simp only [ovr, z1, z2, z3, z4, if_false]
        case e2 =>
          have hbs : bitS path i = false := by simp [bitS, hbit]
          simpa [hbs] using hW2
        case f2 => simp only [Array.size_append, List.size_toArray]; omega
    case done =>
      rintro m₁ fr h tk ⟨w1, w2, b, tb, tt, l, bk, sd, d, ol₀, ob₀, osd₀, od, ol, ob, osd, Bi, ns, SDi, rfl, e0, rfl, hol, hBi, hpre, hlb, hTD, hW, hbz⟩ ho F₂ N₂
      simp only [List.cons.injEq, Prod.mk.injEq, and_true, true_and] at e0
      obtain ⟨⟨rfl, rfl⟩, ⟨rfl, rfl⟩, ⟨rfl, rfl⟩, rfl, rfl⟩ := e0
      simp only [List.map_cons, List.map_nil] at ho
      simp only [List.cons_append, List.nil_append] at N₂
      have hBiz : Bi.length < 1000000 := by omega
      have hnsz := hW.lengths
      have hDz : SDi.length ≤ 16777216 := by omega
      have hnsz' : ns.length ≤ 16384 := by omega
      k_steps
      rename Named _ _ _ => hn1
      rename Book _ _ => hB2
      rename _ <+: _ => hp2
      rename Tab (bytesKind _ _) _ _ => hT2
      rename TupB _ _ => hTB2
      rename Fr h₀ _ _ _ => kF
      rename News h₀ _ _ _ => kN
      rename (∀ p, p ∈ _ → Prod.fst p < _) => ltA
      simp only [List.toList_toArray] at hT2
      have hW2 := hW.mono hp2
      rw [hblz] at hW2
      exact ret _ _ _ _ _ _ _ _ _ _ _ _ _ _ _ _ _ _ _ _ _ _ _ _ kF (News.drop7 kN) (fun p hp => ltA p (.tail _ (.tail _ (.tail _ (.tail _ (.tail _ (.tail _ hp))))))) hB2 (hpre.trans hp2) (by omega) hG hW2 hn1 rfl hT2 hTB2
  · rename RaisedN _ _ _ _ _ _ => R1
    rename Heap.UpToSlots _ _ => U1
    rename getR _ _ _ _ = _ => hG
    exact exc _ _ _ _ FG' R1 U1 hG
end
end
local macro_rules | `(tactic| walk_at "call ref") => `(tactic| (k_here; (with_reducible show wpAny _ _ (call (Value.ref _) [Value.ref _, Value.bytes _ _, Value.bytes _ _]) _ _ _); k_dflt (refine' set_call ?k1 ?k2 ?k3 ?k4 ?k5 ?k6 ?k7 ?N ?o ?n1 ?n2 ?n3 ?x ?f ?B ?len ?blo ?T ?Sz ?lo ?kz ?s0 ?s1 ?vz ?SD ?rz (fun h' tk' r orr o' osd' B' root' node n ns SD1 v bl v0 v1 v2 v3 v4 v5 v6 v7 v8 v9 F' N' hlA hB' hp' hl' hG hW hn hr hT' hTB => ?_) (fun e g h' tk' Fg R U hG => ?_); (case k1 => k_asm); (case k2 => k_asm); (case k3 => k_asm); (case k4 => k_asm); (case k5 => first | exact rfl | assumption); (case k6 => ktr_unf); (case k7 => ktr_unf); (case N => k_asm); (case o => assumption); (case n1 => assumption); (case n2 => assumption); (case n3 => assumption); (case x => assumption); (case f => assumption); (case B => assumption); (case len => assumption); (case blo => assumption); (case T => assumption); (case Sz => assumption); (case lo => assumption); (case kz => assumption); (case s0 => assumption); (case s1 => assumption); (case vz => assumption); (case SD => assumption); (case rz => assumption))))
section
theorem off_36 : True := by
  w_top off
  trivial
/-! ### delete -/
section
variable {prog : Program} {w : World} {p : Program} {loose : List Str} {mean : ExcName → Option Value} {mg mb : Str → Option Value} {dp un : Nat} {gd : Option (List Code)} {cn : Str} {cs : Scope} {a : Addr} {ccd : Value} {cl : List (Str × Addr)} {outer : List Env} {A₀ : Around} {base h₀ : Heap} {L : Addr} {m : Str → Option Value} {s : Shared} {Q E : Value → Shared → Prop}
theorem delete_call {x d sd bk f : Addr} {o osd : Obj} {B : List By} {SD : List (By × By)} {rest : Led} {size : Int} {dflt root key : Array UInt8} {t0 u0 u1 u2 u3 u4 u5 u6 u7 u8 u9 : Tok} (Bl : Below A₀ base outer h₀) (F : Fr h₀ L s.heap m) (X : (hd.heap_39 w.params).In h₀) (T : Top p loose mean mg mb h₀) (hk : cs.kind = .function) (hdp : dp + 16 < recursionLimit) (hun : un + 160 < cLine)
    (N : News h₀ L s.heap ((bk, o) :: (sd, osd) :: (d, dictOf (treeL w size dflt f sd root u0 u1 u2 u3 u4 u5 u6 u7 u8 u9) 6) :: rest)) (hoff : OwnOff rest [bk, sd, d]) (n1 : @Ne Nat bk sd) (n2 : @Ne Nat bk d) (n3 : @Ne Nat sd d)
    (hx : (x, instObj 161 d) ∈ rest) (hf : HashFn rest f bk) (hB : Book (prog := prog) (w := w) o B) (hlen : B.length ≤ 900000) (hblo : (bk == sysModules) = false) (hT : Tab (bytesKind prog w) osd SD) (hSz : SD.length ≤ 900000) (hlo : (sd == sysModules) = false)
    (hkz : (key.size : Int) = size) (hs0 : 1 ≤ size) (hs1 : size ≤ 2) (hvz : dflt.size ≤ 300) (hSD : ∀ k v, get SD k = some v → v.length ≤ 300) (hroot : root.size = 32)
    (ret : ∀ h' tk' r orr o' osd' B' root' node n ns SD1 v bl v0 v1 v2 v3 v4 v5 v6 v7 v8 v9, Fr h₀ L h' m → News h₀ L h' ((r, orr) :: (bk, o') :: (sd, osd') :: (d, dictOf (treeL w size dflt f sd root' v0 v1 v2 v3 v4 v5 v6 v7 v8 v9) 6) :: rest) →
      (∀ p ∈ rest, @LT.lt Nat _ p.1 r) → Book (prog := prog) (w := w) o' B' → B <+: B' → B'.length ≤ B.length + 20 → getR SD (bitT (KFB.value (intsOf key.toList)) (size * 8 - 1).toNat) root.toList (size * 8).toNat = some (v, bl) →
      SetW B' (bitS (KFB.value (intsOf key.toList))) bl.reverse dflt.toList SD (size * 8).toNat node ns SD1 → Named B' node n → root' = n.toArray → Tab (bytesKind prog w) osd' (put SD1 n node) → TupB orr ns.reverse → Q (.ref r) { s with heap := h', toks := tk' })
    (exc : ∀ e g h' tk', Fr h₀ L g m → RaisedN base (envX cn cs L a ccd cl :: outer) e (.type "KeyError") ((bk, o) :: (sd, osd) :: (d, dictOf (treeL w size dflt f sd root u0 u1 u2 u3 u4 u5 u6 u7 u8 u9) 6) :: rest) h' → g.UpToSlots h' → getR SD (bitT (KFB.value (intsOf key.toList)) (size * 8 - 1).toNat) root.toList (size * 8).toNat = none → E (.ref e) { s with heap := h', toks := tk' }) :
    wpAny (model prog w) (ktrTop dp un gd cn cs L a ccd cl outer) (call (.ref 130) [.ref x, .bytes key t0]) Q E s := by
  refine wpAny_call ?_
  k_dflt (refine' code_def (binds := [((Str.ofString "self"), .ref x), ((Str.ofString "key"), .bytes key t0)]) ?k1 ?k2 ?k3 ?k4 ?k5 ?kA ?kF ?kK ?k6 ?k7 ?k8 ?k9 ?kB ?_ ?c2 ?c3 ?c4 ?c5; (case kA => exact rfl); (case kF => exact rfl); (case kK => assumption); (case k1 => k_asm); (case k2 => k_asm); (case k3 => k_asm); (case k4 => k_asm); (case k5 => k_asm); (case k6 => k_is); (case k7 => k_is); (case k8 => exact Nat.lt_of_le_of_lt (Nat.le_add_right _ _) hdp); (case k9 => exact BindsTo.of_eq rfl); (case c5 => decide); (case kB => exact locs rfl); (case c2 => exact rfl); (case c3 => exact rfl); (case c4 => exact rfl); intro g' L' h' FG' F' N' B' X' T')
  k_steps
  · rename getR _ _ _ _ = _ => hG
    rename Named _ _ _ => hn1
    rename Book _ _ => hB2
    rename _ <+: _ => hp2
    rename Tab (bytesKind _ _) _ (put _ _ _) => hT2
    rename TupB _ _ => hTB2
    rename SetW _ _ _ _ _ _ _ _ _ => hW2
    rename Fr h₀ _ _ _ => kF
    rename News h₀ _ _ _ => kN
    rename (∀ p, p ∈ _ → Prod.fst p < _) => ltA
    rename _ = List.toArray _ => hr
    exact ret _ _ _ _ _ _ _ _ _ _ _ _ _ _ _ _ _ _ _ _ _ _ _ _ kF kN ltA hB2 hp2 (by assumption) hG hW2 hn1 hr hT2 hTB2
  · rename RaisedN _ _ _ _ _ _ => R1
    rename Heap.UpToSlots _ _ => U1
    rename getR _ _ _ _ = _ => hG
    exact exc _ _ _ _ FG' R1 U1 hG
end
end
section
local macro_rules | `(tactic| walk_at "no such key 37") => `(tactic| fail)
theorem off_38 : True := by
  w_top off
  trivial
/-! ### equality of dictionaries of bytes -/
section
variable {prog : Program} {w : World} {K : Type} [DecidableEq K] {knd : KeyKind prog w K} {A : Around} {E : Value → Shared → Prop} {s : Shared} {h₀ : Heap} {L a b : Addr} {m : Str → Option Value} {news : Led} {oa ob : Obj} {Da Db : List (K × By)}
theorem eqAt_bytes {x y : By} {t u : Tok} : SeqAt.EqAt A s (.bytes x.toArray t) (.bytes y.toArray u) (decide (x = y)) := fun prog w E Q hq =>
  (bytesKind prog w).eqBool (by have := isB prog w x.toArray t; rwa [List.toList_toArray] at this) (by have := isB prog w y.toArray u; rwa [List.toList_toArray] at this) hq
/-- every row of the first is a row of the second -/
def Rows (Da Db : List (K × By)) : Prop := ∀ p ∈ Da, get Db p.1 = some p.2
theorem rows_hits {kb : List (K × Value)} (vb : Vals kb Db) {ka : List (K × Value)} (va : Vals ka Da) : ∃ r, KeqHits A s kb ka r ∧ (r = true ↔ Rows Da Db) := by
  induction va with
  | nil => exact ⟨true, .nil, ⟨fun _ p hp => (nomatch hp), fun _ => rfl⟩⟩
  | @cons k x t ka Da _ ih =>
    obtain ⟨r, h, e⟩ := ih
    rcases vb.get k with ⟨e1, e2⟩ | ⟨y, u, e1, e2⟩
    · refine ⟨false, .miss e2, ⟨fun q => (nomatch q), fun q => ?_⟩⟩
      have := q (k, x) (.head _)
      rw [e1] at this; cases this
    · refine ⟨decide (x = y) && r, .hit e2 eqAt_bytes h, ?_⟩
      rw [Bool.and_eq_true, decide_eq_true_iff, e]
      constructor
      · rintro ⟨rfl, hr⟩ p hp
        rcases List.mem_cons.mp hp with rfl | hp
        · exact e1
        · exact hr p hp
      · intro q
        have := q (k, x) (.head _)
        rw [e1] at this
        exact ⟨(Option.some.inj this).symm, fun p hp => q p (.tail _ hp)⟩
theorem my_eqD {Q : Value → Shared → Prop} (N : News h₀ L s.heap news) (ha : (a, oa) ∈ news) (hb : (b, ob) ∈ news) (Ta : Tab knd oa Da) (Tb : Tab knd ob Db) (la : (a == sysModules) = false) (lb : (b == sysModules) = false) (hu : A.units < cLine)
    (h : ∀ c : Bool, (c = true ↔ (Da.length = Db.length ∧ Rows Da Db)) → Q (.bool c) s) : wpAny (model prog w) A (compareOp .Eq (.ref a) (.ref b)) Q E s := by
  obtain ⟨ka, da, va, ea⟩ := Ta.len
  obtain ⟨kb, db, vb, eb⟩ := Tb.len
  obtain ⟨r, hr, er⟩ := rows_hits (A := A.in1) (s := s) vb va
  refine keq_eq la lb (kda_dict N ha da) (kda_dict N hb db) hu (fun _ => hr) (h _ ?_)
  rw [Bool.and_eq_true, er, beq_iff_eq, ea, eb]
theorem my_neD {Q : Value → Shared → Prop} (N : News h₀ L s.heap news) (ha : (a, oa) ∈ news) (hb : (b, ob) ∈ news) (Ta : Tab knd oa Da) (Tb : Tab knd ob Db) (la : (a == sysModules) = false) (lb : (b == sysModules) = false) (hu : A.units < cLine)
    (h : ∀ c : Bool, (c = false ↔ (Da.length = Db.length ∧ Rows Da Db)) → Q (.bool c) s) : wpAny (model prog w) A (compareOp .NotEq (.ref a) (.ref b)) Q E s := by
  obtain ⟨ka, da, va, ea⟩ := Ta.len
  obtain ⟨kb, db, vb, eb⟩ := Tb.len
  obtain ⟨r, hr, er⟩ := rows_hits (A := A.in1) (s := s) vb va
  refine keq_ne la lb (kda_dict N ha da) (kda_dict N hb db) hu (fun _ => hr) (h _ ?_)
  rw [Bool.not_eq_false', Bool.and_eq_true, er, beq_iff_eq, ea, eb]
end
end
section
local macro_rules | `(tactic| walk_at "no such key 39") => `(tactic| fail)
local macro_rules | `(tactic| walk_at "no such key 40") => `(tactic| fail)
theorem off_41 : True := by
  w_top off
  trivial
/-! ### tuples of bytes that differ -/
section
variable {prog : Program} {w : World} {A : Around} {E : Value → Shared → Prop} {s : Shared} {h₀ : Heap} {L a b : Addr} {m : Str → Option Value} {news : Led} {oa ob : Obj} {ea eb : List By}
theorem VB.eqs {vs us : List Value} (va : VB vs ea) (vb : VB us eb) : ∃ e : Nat → Bool, (∀ j (h1 : j < vs.toArray.size) (h2 : j < us.toArray.size), SeqAt.EqAt A s vs.toArray[j] us.toArray[j] (e j)) ∧
    (((List.range (min vs.toArray.size us.toArray.size)).all e && vs.toArray.size == us.toArray.size) = true ↔ ea = eb) := by
  refine ⟨fun j => decide (ea[j]? = eb[j]?), fun j h1 h2 => ?_, ?_⟩
  · obtain ⟨x, t, e1, e2⟩ := va.item (i := j) (v := vs.toArray[j]) (by simp at h1 ⊢)
    obtain ⟨y, u, f1, f2⟩ := vb.item (i := j) (v := us.toArray[j]) (by simp at h2 ⊢)
    rw [e1, f1]
    show SeqAt.EqAt A s (.bytes x t) (.bytes y u) (decide (ea[j]? = eb[j]?))
    have := eqAt_bytes (A := A) (s := s) (x := x.toList) (y := y.toList) (t := t) (u := u)
    simp only [Array.toArray_toList] at this
    rw [e2, f2]
    simpa using this
  · have l1 := va.length
    have l2 := vb.length
    simp only [List.size_toArray, Bool.and_eq_true, List.all_eq_true, List.mem_range, decide_eq_true_iff, beq_iff_eq, l1, l2]
    constructor
    · rintro ⟨h1, h2⟩
      refine List.ext_getElem? fun i => ?_
      by_cases hi : i < ea.length
      · exact h1 i (by omega)
      · rw [List.getElem?_eq_none (by omega), List.getElem?_eq_none (by omega)]
    · rintro rfl
      exact ⟨fun _ _ => rfl, rfl⟩
theorem my_neT {Q : Value → Shared → Prop} (N : News h₀ L s.heap news) (ha : (a, oa) ∈ news) (hb : (b, ob) ∈ news) (Ta : TupB oa ea) (Tb : TupB ob eb) (hu : A.units < cLine)
    (h : Q (.bool (!decide (ea = eb))) s) : wpAny (model prog w) A (compareOp .NotEq (.ref a) (.ref b)) Q E s := by
  obtain ⟨vs, rfl, va⟩ := Ta
  obtain ⟨us, rfl, vb⟩ := Tb
  obtain ⟨e, he, hq⟩ := VB.eqs (A := A.in1) (s := s) va vb
  refine SeqAt.RcNeAt.tuples (items := vs.toArray) (items2 := us.toArray) ⟨_, (N _ ha).1, rfl, _, rfl⟩ ⟨_, (N _ hb).1, rfl, _, rfl⟩ hu he prog w E Q ?_
  have e2 : ((List.range (min vs.toArray.size us.toArray.size)).all e && vs.toArray.size == us.toArray.size) = decide (ea = eb) := by
    rw [Bool.eq_iff_iff, hq, decide_eq_true_iff]
  rw [e2]
  exact h
end
end
section
local macro_rules | `(tactic| walk_at "no such key 42") => `(tactic| fail)
local macro_rules | `(tactic| walk_at "no such key 43") => `(tactic| fail)
local macro_rules | `(tactic| walk_at "no such key 44") => `(tactic| fail)
theorem off_45 : True := by
  w_top off
  trivial
/-! ### the keys of a dict, collected -/
section
variable {prog : Program} {w : World} {K : Type} [DecidableEq K] {knd : KeyKind prog w K} {A : Around} {E : Value → Shared → Prop} {s : Shared}
theorem collect_keys {d : Addr} {kvs : List (K × Value)} {ep : Nat} {Q : List Value → Shared → Prop} (hh : A.handled = none) (hd : s.heap.DictAt knd d kvs ep) (lo : (d == sysModules) = false) (hn : kvs.length ≤ sizeLine)
    (hQ : ∀ s' acc, @LT.lt Nat _ s.heap.objs.size s'.heap.objs.size → (∀ b o, s.heap.get? b = some o → s'.heap.get? b = some o) → s'.gens = s.gens → s'.drawn = s.drawn → s'.os = s.os → ItemsOf (fun i v => ∃ k x, kvs[i]? = some (k, x) ∧ knd.is k v = true) acc kvs.length → Q acc.toList s') :
    wpAny (model prog w) A (collect (.ref d)) Q E s := by
  have hT : s.TypeIs (.ref d) "dict" := hd.dictOf.typeIs
  have hdlt : d < s.heap.objs.size := by obtain ⟨o, ho, _⟩ := hT; exact Heap.lt_size ho
  unfold collect
  refine wpAny_bind (wpAny_runValue (codeAny_builtin F.entry_proto_collect ?_))
  rw [Around.under_plainId F.plain_proto_collect _]
  show wpAny _ A.in1 (newList [] >>= fun l => again (.builtin "list.__iadd__" ⟨[l, .ref d], []⟩)) _ _ s
  refine wpAny_bind (wpAny_newObj_type ?_)
  refine wpAny_pure ⟨plainId_quiet F.plain_list_iadd _, codeAny_builtin F.entry_list_iadd ?_⟩
  rw [Around.under_plainId F.plain_list_iadd _]
  show wpAny _ A.in1 (Builtin.List.listExtendWith (.ref s.heap.objs.size) (.ref d) (.ref s.heap.objs.size)) _ _ _
  unfold Builtin.List.listExtendWith
  generalize hH : s.heap.push { cls := .type "list", data := .seq ([] : List Value).toArray } = H
  have hHs : H.objs.size = s.heap.objs.size + 1 := by rw [← hH, Heap.size_push]
  have up : ∀ b o, s.heap.get? b = some o → H.get? b = some o := fun b o e => hH ▸ Heap.get?_push_of_some _ e
  have hdH : H.DictAt knd d kvs ep := hd.at' fun o e => up d o e
  have hT1 : ({ s with heap := H } : Shared).TypeIs (.ref d) "dict" := hdH.dictOf.typeIs
  refine wpAny_bind (wpAny_typeOf hT1 ?_)
  have hne : s.heap.objs.size ≠ d := Nat.ne_of_gt hdlt
  have h1 : Builtin.List.listSameRef (.ref s.heap.objs.size) (.ref d) = false := by simp [Builtin.List.listSameRef, hne]
  have h2 : (Value.type "dict" == Value.type "list") = false := by decide
  have h3 : (Value.type "dict" == Value.type "tuple") = false := by decide
  simp only [h1, h2, h3, Bool.or_false, Bool.false_eq_true, if_false]
  refine wpAny_bind (wpAny_pyIter_dict lo hdH ?_)
  refine wpAny_bind (wpAny_holding ?_)
  generalize hG : H.push { cls := .type "dict_keyiterator", data := .fields #[.ref d, .int 0 0, .int kvs.length 0, .int ep 0] } = G
  have hdG : G.DictAt knd d kvs ep := hdH.at' fun o e => hG ▸ Heap.get?_push_of_some _ e
  have hT2 : ({ s with heap := G } : Shared).TypeIs (.ref d) "dict" := hdG.dictOf.typeIs
  unfold Builtin.List.listLengthHint
  refine wpAny_bind (wpAny_specialOf (s := { s with heap := G }) hT2 F.slot_dict_len.lookup ?_)
  wp_delta
  refine wpAny_bind (wpAny_isInstance (s := { s with heap := G }) (T := "dict") (b := true) hT2 (by rw [isSubtype_type]; kernel_rfl) ?_)
  show wpAny _ A.in1 (typeOf (Value.ref d) >>= _) _ _ _
  refine wpAny_bind (wpAny_typeOf hT2 ?_)
  refine wpAny_pure ?_
  rw [if_pos (by decide)]
  refine wpAny_bind (wpAny_rule ?_)
  have hS₁ : G.get? s.heap.objs.size = some { cls := .type "list", data := .seq ([] : List Value).toArray } := hG ▸ Heap.get?_push_of_some _ (hH ▸ Heap.get?_push_size _ rfl)
  refine wpAny_bind ?_
  show wpAny _ A.in1 (updateSeq s.heap.objs.size (·.push .none) >>= fun _ => updateSeq s.heap.objs.size (·.pop)) _ _ _
  refine wpAny_bind (wpAny_updateSeq (s := { s with heap := G }) hS₁ rfl ?_)
  have hS₂ := Heap.get?_update_self (Obj.mapSeq (·.push Value.none)) hS₁ rfl
  refine wpAny_updateSeq hS₂ rfl ?_
  have hS₃ := Heap.get?_update_self (Obj.mapSeq (·.pop)) hS₂ rfl
  have oth : ∀ b o, b ≠ s.heap.objs.size → G.get? b = some o → ((G.update s.heap.objs.size (Obj.mapSeq (·.push Value.none))).update s.heap.objs.size (Obj.mapSeq (·.pop))).get? b = some o :=
    fun b o hb e => (Heap.get?_update_other _ _ (Ne.symm hb)).trans ((Heap.get?_update_other _ _ (Ne.symm hb)).trans e)
  have hI : G.get? H.objs.size = some { cls := .type "dict_keyiterator", data := .fields #[.ref d, .int 0 0, .int kvs.length 0, .int ep 0] } := hG ▸ Heap.get?_push_size _ rfl
  have hneI : d ≠ H.objs.size := by rw [hHs]; exact Nat.ne_of_lt (Nat.lt_succ_of_lt hdlt)
  have hSf : s.heap.objs.size ∉ [H.objs.size, d] := fun hm => by
    rcases List.mem_cons.mp hm with e | hm
    · rw [hHs] at e; exact absurd e (Nat.ne_of_lt (Nat.lt_succ_self _))
    · exact hne (List.mem_singleton.mp hm)
  have W := (Walks.dictKeys (prog := prog) (w := w) (A := A.in1) (knd := knd) hh H.objs.size d hneI kvs ep).toS
  refine wpAny_pure ⟨plainId_quiet F.plain_extend_loop _, codeAny_extend_loopS W hn _ hSf _ kvs.length 0 _ _ _ rfl (Nat.zero_le _) ⟨⟨_, oth _ _ (by rw [hHs]; exact Nat.succ_ne_self _) hI, rfl, rfl⟩, hdG.at' fun o e => oth _ _ (Ne.symm hne) e⟩ hS₃ (ItemsOf.nil _) fun s' acc' c' hm hS' hacc => ?_⟩
  show wpAny _ A (load s.heap.objs.size >>= _) _ _ s'
  refine wpAny_bind (wpAny_load hS' ?_)
  refine wpAny_pure (hQ s' acc' (Heap.lt_size hS') (fun b ob e => ?_) hm.gens hm.drawn hm.os hacc)
  have hlt : b < s.heap.objs.size := Heap.lt_size e
  refine hm.heap b ob (fun hb => ?_) (oth _ _ (Nat.ne_of_lt hlt) (hG ▸ Heap.get?_push_of_some _ (up _ _ e)))
  rcases List.mem_cons.mp hb with h | h
  · exact absurd hlt (h ▸ Nat.lt_irrefl _)
  · rw [List.mem_singleton.mp h, hHs] at hlt; exact absurd hlt (Nat.not_lt.mpr (Nat.le_succ _))
end
end
section
local macro_rules | `(tactic| walk_at "no such key 46") => `(tactic| fail)
local macro_rules | `(tactic| walk_at "no such key 47") => `(tactic| fail)
local macro_rules | `(tactic| walk_at "no such key 48") => `(tactic| fail)
local macro_rules | `(tactic| walk_at "no such key 49") => `(tactic| fail)
theorem off_50 : True := by
  w_top off
  trivial
/-! ### sorted(dict) over int keys -/
theorem intsAreOf : ∀ {vs : List Value} {ns : List Int}, vs.length = ns.length → (∀ (i : Nat) (v : Value), vs[i]? = some v → ∃ k t, ns[i]? = some k ∧ v = Value.int k t) → IntsAre vs ns
  | [], [], _, _ => .nil
  | v :: vs, n :: ns, e, h => by
    obtain ⟨k, t, h1, rfl⟩ := h 0 v rfl
    simp only [List.getElem?_cons_zero, Option.some.injEq] at h1
    subst h1
    exact .cons _ _ (intsAreOf (by simpa using e) fun i v hv => by simpa using h (i + 1) v (by simpa using hv))
  | [], _ :: _, e, _ => by cases e
  | _ :: _, [], e, _ => by cases e
theorem is_int {prog : Program} {w : World} {k : Int} {v : Value} (h : (intKind prog w).is k v = true) : ∃ t, v = Value.int k t := by
  have h' : Value.isInt k v = true := h
  cases v <;> simp [Value.isInt] at h' ⊢
  all_goals first | exact h' | exact h'.symm
section
variable {prog : Program} {w : World} {A : Around} {E : Value → Shared → Prop} {s : Shared} {h₀ : Heap} {L d : Addr} {m : Str → Option Value} {news : Led} {o : Obj} {HD : List (Int × By)}
theorem my_sortedD {Q : Value → Shared → Prop} (hh : A.handled = none) (F : Fr h₀ L s.heap m) (N : News h₀ L s.heap news) (hm : (d, o) ∈ news) (T : Tab (intKind prog w) o HD) (lo : (d == sysModules) = false) (h64 : HD.length < 64)
    (h : ∀ l o' h' tk ns vs, Fr h₀ L h' m → News h₀ L h' ((l, o') :: news) → (∀ p ∈ news, @LT.lt Nat _ p.1 l) → ListV o' vs → IntsAre vs ns → ns.Perm (HD.map (·.1)) → Q (.ref l) { s with heap := h', toks := tk }) :
    wpAny (model prog w) A (call (.builtin "sorted") [.ref d]) Q E s := by
  obtain ⟨kvs, hd, hv⟩ := T
  have hdict := kda_dict N hm hd
  obtain ⟨ep, hat⟩ := hdict.dictAt
  have hkl := hv.length
  refine Calls.call_function_entry kind_sorted plain_sorted entry_sorted (args_sorted1 _) ?_
  unfold Builtin.«sorted»
  refine wpAny_bind (m := checkCount "sorted" 1 1 _) (wpAny_pure ?_)
  refine wpAny_bind (collect_keys (A := A.in1) hh hat lo (by rw [sizeLine_eq]; omega) fun s' acc hlt hk hg hdr hos hacc => ?_)
  obtain ⟨h1, g1, d1, tk1, os1⟩ := s'
  have e1 : g1 = s.gens := hg
  have e2 : d1 = s.drawn := hdr
  have e3 : os1 = s.os := hos
  subst e1 e2 e3
  dsimp only at hk
  have hI : IntsAre acc.toList (HD.map (·.1)) := by
    refine intsAreOf (by rw [Array.length_toList, hacc.1, List.length_map, hkl]) fun i v hvv => ?_
    obtain ⟨k, x, q1, q2⟩ := hacc.2 i v (by rw [← Array.getElem?_toList]; exact hvv)
    obtain ⟨t, rfl⟩ := is_int q2
    refine ⟨k, t, ?_, rfl⟩
    have := congrArg (fun l => l[i]?) hv.keys
    simp only [List.getElem?_map, q1, Option.map_some] at this
    rw [List.getElem?_map]
    exact this.symm
  have h64' : acc.toList.length < 64 := by rw [Array.length_toList, hacc.1]; omega
  refine wpAny_bind (wpAny_newList ?_ (by rw [sizeLine_eq]; omega))
  have hoL : (h1.push (seqObj "list" acc.toList.toArray 0)).get? h1.objs.size = some (seqObj "list" acc.toList.toArray 0) := Heap.get?_push_size _ rfl
  show wpAny _ _ _ _ _ { s with heap := h1.push (seqObj "list" acc.toList.toArray 0), toks := tk1 }
  refine wpAny_bind (wpAny_holding (wpAny_call_entry slot_list_sort ⟨_, hoL, rfl⟩ entry_list_sort (list_sort_tree hoL hI h64' fun out ns' a1 a2 a3 => ⟨_, rfl, ?_⟩) (args_list_sort _)))
  refine wpAny_pure ⟨_, rfl, ?_⟩
  obtain ⟨e, he⟩ := sortedHeap_at (out := out) hoL
  have up : ∀ b ob, s.heap.get? b = some ob → (sortedHeap (h1.push (seqObj "list" acc.toList.toArray 0)) h1.objs.size acc.toList out).get? b = some ob := fun b ob eb => by
    have hb := hk b ob eb
    have hlt : b < h1.objs.size := Heap.lt_size hb
    rw [sortedHeap_old (Nat.ne_of_lt hlt) (by rw [size_push']; exact Nat.lt_succ_of_lt hlt)]
    exact Heap.get?_push_of_some _ hb
  have hsz : s.heap.objs.size ≤ h1.objs.size := Nat.le_of_lt hlt
  have F' := Fr.kept F up
  exact h _ _ _ _ ns' out.toList F' (News.kept_cons F N up hsz he) (fun p hp => Nat.lt_of_lt_of_le (Heap.lt_size (N p hp).1) hsz) ⟨e, rfl⟩ a1 a2
end
end
section
local macro_rules | `(tactic| walk_at "no such key 51") => `(tactic| fail)
local macro_rules | `(tactic| walk_at "no such key 52") => `(tactic| fail)
local macro_rules | `(tactic| walk_at "no such key 53") => `(tactic| fail)
local macro_rules | `(tactic| walk_at "no such key 54") => `(tactic| fail)
local macro_rules | `(tactic| walk_at "no such key 55") => `(tactic| fail)
theorem off_56 : True := by
  w_top off
  trivial
theorem my_lenI {prog : Program} {w : World} {A : Around} {E : Value → Shared → Prop} {s : Shared} {h₀ : Heap} {L l : Addr} {news : Led} {o : Obj} {vs : List Value} {Q : Value → Shared → Prop} (N : News h₀ L s.heap news) (hm : (l, o) ∈ news) (hv : ListV o vs) (hz : vs.length ≤ 1000)
    (h : ∀ t k, Q (.int (vs.length : Int) t) { s with toks := k }) : wpAny (model prog w) A (call (.builtin "len") [.ref l]) Q E s := by
  refine len_list (ListV.isList N hm hv) (by rw [List.size_toArray]; omega) ?_
  rw [List.size_toArray]
  exact h _ _
theorem IntsAre.item {vs : List Value} {ns : List Int} (h : IntsAre vs ns) {i : Nat} (hi : i < ns.length) : ∃ t, vs[i]? = some (.int (ns[i]) t) := by
  induction h generalizing i with
  | nil => cases hi
  | cons n t r ih =>
    cases i with
    | zero => exact ⟨t, rfl⟩
    | succ i => simpa using ih (i := i) (by simpa using hi)
theorem keysz {vs : List Value} {ns : List Int} {HD : List (Int × By)} (h : IntsAre vs ns) (p : ns.Perm (HD.map (·.1))) (z : HD.length < 64) : vs.length ≤ 1000 := by
  have h1 := h.length
  have h2 := p.length_eq
  rw [List.length_map] at h2
  omega
theorem pick_key {vs : List Value} {ns : List Int} {HD : List (Int × By)} {x span : Int} (h : IntsAre vs ns) (p : ns.Perm (HD.map (·.1))) (hz : ((vs.length : Nat) : Int) ≠ 0) (hin : ∀ p ∈ HD, 0 ≤ p.1 ∧ p.1 < span) :
    0 ≤ x.fmod (vs.length : Int) ∧ ∃ k t, vs[(x.fmod (vs.length : Int)).toNat]? = some (.int k t) ∧ 0 ≤ k ∧ k < span := by
  have h1 := h.length
  have f1 : 0 ≤ x.fmod (vs.length : Int) := Int.fmod_nonneg_of_pos _ (by omega)
  have f2 : x.fmod (vs.length : Int) < vs.length := Int.fmod_lt_of_pos _ (by omega)
  have hi : (x.fmod (vs.length : Int)).toNat < ns.length := by omega
  obtain ⟨t, e⟩ := Mine.IntsAre.item h hi
  have hm := p.mem_iff.mp (List.getElem_mem hi)
  obtain ⟨q, hq, e2⟩ := List.mem_map.mp hm
  have := hin q hq
  rw [e2] at this
  exact ⟨f1, _, t, e, this.1, this.2⟩
theorem xor_lt {way span depth : Int} {n : Int} (h0 : 0 ≤ way) (h1 : way < span) (hs : span = 2 ^ depth.toNat) (n0 : 0 ≤ n) (n1 : n < depth) : 0 ≤ Builtin.bitXor way (1 * 2 ^ n.toNat) ∧ Builtin.bitXor way (1 * 2 ^ n.toNat) < span := by
  have hlt : n.toNat < depth.toNat := by omega
  obtain ⟨j, hj⟩ : ∃ j, depth.toNat = n.toNat + 1 + j := ⟨depth.toNat - n.toNat - 1, by omega⟩
  rw [Int.one_mul, bitXor_and, kbt_bit]
  have hP : (0 : Int) < 2 ^ n.toNat := Int.pow_pos (by decide)
  have hJ : (0 : Int) < 2 ^ j := Int.pow_pos (by decide)
  have hsp : span = 2 ^ n.toNat * (2 * 2 ^ j) := by rw [hs, hj, Int.pow_add, Int.pow_add, Int.pow_one, Int.mul_assoc]
  generalize (2 : Int) ^ n.toNat = P at hP hsp ⊢
  generalize (2 : Int) ^ j = J at hJ hsp
  have d1 := Int.mul_ediv_add_emod way P
  have d2 := Int.emod_nonneg way (Int.ne_of_gt hP)
  have d3 := Int.emod_lt_of_pos way hP
  have q0 : 0 ≤ way / P := Int.ediv_nonneg h0 (Int.le_of_lt hP)
  generalize way / P = q at d1 q0 ⊢
  generalize way % P = r at d1 d2 d3
  have hq : q < 2 * J := by
    refine Int.lt_of_mul_lt_mul_left (a := P) ?_ (Int.le_of_lt hP)
    omega
  rcases Int.emod_two_eq q with e | e
  · rw [e]
    have hq2 : q + 2 ≤ 2 * J := by omega
    have := Int.mul_le_mul_of_nonneg_left hq2 (Int.le_of_lt hP)
    rw [Int.mul_add] at this
    omega
  · rw [e]
    have hq2 : 1 ≤ q := by omega
    have := Int.mul_le_mul_of_nonneg_left hq2 (Int.le_of_lt hP)
    omega
end
section
local macro_rules | `(tactic| walk_at "no such key 57") => `(tactic| fail)
local macro_rules | `(tactic| walk_at "no such key 58") => `(tactic| fail)
local macro_rules | `(tactic| walk_at "no such key 59") => `(tactic| fail)
local macro_rules | `(tactic| walk_at "no such key 60") => `(tactic| fail)
local macro_rules | `(tactic| walk_at "no such key 61") => `(tactic| fail)
local macro_rules | `(tactic| walk_at "no such key 62") => `(tactic| fail)
theorem off_63 : True := by
  w_top off
  trivial
/-! ### the plain law -/
structure Shape (B : List By) (N : Nat → Int → By) (V : Int → By) (n : Nat) : Prop where
  leaf : ∀ p, Named B (V p) (N 0 p)
  node : ∀ h p, h < n → Named B (N h (2 * p) ++ N h (2 * p + 1)) (N (h + 1) p)
theorem Shape.mono {B B' : List By} {N : Nat → Int → By} {V : Int → By} {n : Nat} (S : Shape B N V n) (p : B <+: B') : Shape B' N V n := ⟨fun q => (S.leaf q).mono p, fun h q hh => (S.node h q hh).mono p⟩
theorem Shape.len {B : List By} {N : Nat → Int → By} {V : Int → By} {n : Nat} (S : Shape B N V n) {h : Nat} (p : Int) (hh : h ≤ n) : (N h p).length = 32 := by
  cases h with
  | zero => exact (S.leaf p).length
  | succ h => exact (S.node h p hh).length
theorem shape_of {B : List By} {HD : List (Int × By)} {d : By} {es : List By} {Ds : List (List (Int × By))} {n : Nat} (hE : Emp B d es) (hel : es.length = n + 1) (hL : Levels B HD es Ds) (hdl : Ds.length = n + 1) : Shape B (nm Ds es) (fun p => gd HD p d) n := by
  constructor
  · intro p
    obtain ⟨x, hx, nx⟩ := hE.zero
    obtain ⟨D, hD, h0⟩ := hL.zero
    have e : nm Ds es 0 p = gd D p x := by
      unfold nm; rw [List.getD_eq_getElem?_getD, hD, List.getD_eq_getElem?_getD, hx]; rfl
    rw [e]
    unfold gd
    rcases h0 p with ⟨a, b⟩ | ⟨y, m, a, b, c⟩
    · rw [a, b]; exact nx
    · rw [a, b]; exact c
  · intro h p hh
    obtain ⟨D, hD⟩ : ∃ D, Ds[h]? = some D := ⟨_, List.getElem?_eq_getElem (by omega)⟩
    obtain ⟨A, hA⟩ : ∃ A, Ds[h + 1]? = some A := ⟨_, List.getElem?_eq_getElem (by omega)⟩
    obtain ⟨e, he⟩ : ∃ e, es[h]? = some e := ⟨_, List.getElem?_eq_getElem (by omega)⟩
    obtain ⟨e', he'⟩ : ∃ e, es[h + 1]? = some e := ⟨_, List.getElem?_eq_getElem (by omega)⟩
    have q1 : ∀ p, nm Ds es h p = gd D p e := fun p => by
      unfold nm; rw [List.getD_eq_getElem?_getD, hD, List.getD_eq_getElem?_getD, he]; rfl
    have q2 : nm Ds es (h + 1) p = gd A p e' := by
      unfold nm; rw [List.getD_eq_getElem?_getD, hA, List.getD_eq_getElem?_getD, he']; rfl
    rw [q1, q1, q2, Int.mul_comm 2 p]
    rcases hL.step h D A e hD hA he p with ⟨m, a, c⟩ | ⟨a, b, c⟩
    · have : gd A p e' = m := by unfold gd; rw [a]; rfl
      rw [this]; exact c
    · have a1 : gd A p e' = e' := by unfold gd; rw [a]; rfl
      have a2 : gd D (p * 2) e = e := by unfold gd; rw [b]; rfl
      have a3 : gd D (p * 2 + 1) e = e := by unfold gd; rw [c]; rfl
      rw [a1, a2, a3]
      exact hE.step h e e' he he'
/-- the rows of a store are texts under their names -/
def Fits (B : List By) (KD : List (By × By)) : Prop := ∀ p ∈ KD, Named B p.2 p.1
theorem Fits.mono {B B' : List By} {KD : List (By × By)} (h : Fits B KD) (p : B <+: B') : Fits B' KD := fun q hq => (h q hq).mono p
theorem mem_put {K : Type} [DecidableEq K] {D : List (K × By)} {k : K} {x : By} {p : K × By} (h : p ∈ put D k x) : p ∈ D ∨ p = (k, x) := by
  unfold put at h
  split at h
  · obtain ⟨q, hq, e⟩ := List.mem_map.mp h
    by_cases r : q.1 = k
    · rw [if_pos r] at e; right; rw [← e, r]
    · rw [if_neg r] at e; left; rw [← e]; exact hq
  · rcases List.mem_append.mp h with h | h
    · exact .inl h
    · exact .inr (List.mem_singleton.mp h)
theorem Fits.put {B : List By} {KD : List (By × By)} {k x : By} (h : Fits B KD) (hn : Named B x k) : Fits B (Mine.put KD k x) := fun p hp => by
  rcases mem_put hp with hp | rfl
  · exact h p hp
  · exact hn
theorem Fits.get {B : List By} {KD : List (By × By)} {k x : By} (h : Fits B KD) (e : Mine.get KD k = some x) : Named B x k := h _ (get_mem e)
theorem Fits.lay {B : List By} {N : Nat → Int → By} {V : Int → By} {n : Nat} {KD : List (By × By)} {number : Int} (S : Shape B N V n) (h : Fits B KD) : ∀ d, d ≤ n → Fits B (layD N (V number) number KD d)
  | 0, _ => h.put (S.leaf number)
  | d + 1, hd => (Fits.lay S h d (by omega)).put (S.node d _ hd)
theorem lay_sizes {B : List By} {N : Nat → Int → By} {V : Int → By} {n : Nat} {KD : List (By × By)} {number : Int} (S : Shape B N V n) (hv : V number ≠ [] ∧ (V number).length ≤ 300) (h : ∀ p ∈ KD, p.2 ≠ [] ∧ p.2.length ≤ 300) : ∀ d, d ≤ n → ∀ p ∈ layD N (V number) number KD d, p.2 ≠ [] ∧ p.2.length ≤ 300
  | 0, _ => fun p hp => by
    rcases mem_put hp with hp | rfl
    · exact h p hp
    · exact hv
  | d + 1, hd => fun p hp => by
    rcases mem_put hp with hp | rfl
    · exact lay_sizes S hv h d (by omega) p hp
    · have a := S.len (h := d) (2 * (number.fdiv (2 ^ (d + 1)))) (by omega)
      have b := S.len (h := d) (2 * (number.fdiv (2 ^ (d + 1))) + 1) (by omega)
      have c : (N d (2 * (number.fdiv (2 ^ (d + 1)))) ++ N d (2 * (number.fdiv (2 ^ (d + 1))) + 1)).length = 64 := by rw [List.length_append]; omega
      exact ⟨fun e => (by have c2 := c; rw [show N d (2 * (number.fdiv (2 ^ (d + 1)))) ++ N d (2 * (number.fdiv (2 ^ (d + 1))) + 1) = [] from e] at c2; cases c2), (by show List.length (N d (2 * (number.fdiv (2 ^ (d + 1)))) ++ N d (2 * (number.fdiv (2 ^ (d + 1))) + 1)) ≤ 300; rw [c]; omega)⟩
theorem put_same {K : Type} [DecidableEq K] {D : List (K × By)} {k : K} {x : By} (hk : (get D k).isSome = true) (hu : ∀ p ∈ D, p.1 = k → p.2 = x) : put D k x = D := by
  unfold put
  have hm := (get_isSome D k).mp hk
  obtain ⟨p, hp, e⟩ := List.mem_map.mp hm
  rw [if_pos (List.any_eq_true.mpr ⟨p, hp, decide_eq_true e⟩)]
  have : (D.map fun p => if p.1 = k then (p.1, x) else p) = D.map (fun p => p) := by
    refine List.map_congr_left fun q hq => ?_
    by_cases r : q.1 = k
    · rw [if_pos r, ← hu q hq r]
    · rw [if_neg r]
  rw [this, List.map_id']
theorem Fits.uni {B : List By} {KD : List (By × By)} {k x : By} (h : Fits B KD) (hB : B.length ≤ 16777216) (hn : Named B x k) : ∀ p ∈ KD, p.1 = k → p.2 = x := fun p hp e => Named.inj hB (e ▸ h p hp) hn
theorem Fits.pref {B : List By} {KD : List (By × By)} {k x : By} (h : Fits B KD) (hB : B.length ≤ 16777216) (hn : Named B x k) : KD <+: Mine.put KD k x := by
  cases q : Mine.get KD k with
  | none => rw [put_new x q]; exact List.prefix_append _ _
  | some y => rw [put_same (by rw [q]; rfl) (h.uni hB hn)]; exact List.prefix_refl _
theorem Fits.layPrefix {B : List By} {N : Nat → Int → By} {V : Int → By} {n : Nat} {KD : List (By × By)} {number : Int} (S : Shape B N V n) (h : Fits B KD) (hB : B.length ≤ 16777216) : ∀ d, d ≤ n → KD <+: layD N (V number) number KD d
  | 0, _ => h.pref hB (S.leaf number)
  | d + 1, hd => (Fits.layPrefix S h hB d (by omega)).trans ((Fits.lay S h d (by omega)).pref hB (S.node d _ hd))
/-- d.update(e) -/
def mergeT {K : Type} [DecidableEq K] (D D' : List (K × By)) : List (K × By) := D'.foldl (fun acc p => put acc p.1 p.2) D
theorem merge_self {B : List By} {KD : List (By × By)} (h : Fits B KD) (hB : B.length ≤ 16777216) : ∀ l : List (By × By), (∀ p ∈ l, p ∈ KD) → mergeT KD l = KD
  | [], _ => rfl
  | p :: l, hl => by
    show mergeT (put KD p.1 p.2) l = KD
    have hp := hl p (.head _)
    rw [put_same ((get_isSome KD p.1).mpr (List.mem_map.mpr ⟨p, hp, rfl⟩)) (h.uni hB (h p hp))]
    exact merge_self h hB l fun q hq => hl q (.tail _ hq)
theorem merge_fresh {K : Type} [DecidableEq K] : ∀ (l D : List (K × By)), ((D ++ l).map (·.1)).Nodup → mergeT D l = D ++ l
  | [], D, _ => by simp [mergeT]
  | p :: l, D, hn => by
    show mergeT (put D p.1 p.2) l = _
    have hp : get D p.1 = none := by
      cases q : get D p.1 with
      | none => rfl
      | some y =>
        have := (get_isSome D p.1).mp (by rw [q]; rfl)
        rw [List.map_append, List.map_cons, List.nodup_append] at hn
        exact absurd rfl (hn.2.2 _ this _ (.head _))
    rw [put_new _ hp, merge_fresh l (D ++ [(p.1, p.2)]) (by simpa using hn)]
    simp
theorem merge_lay {B : List By} {KD KD' : List (By × By)} (h : Fits B KD) (hB : B.length ≤ 16777216) (hp : KD <+: KD') (hn : (KD'.map (·.1)).Nodup) : mergeT KD KD' = KD' := by
  obtain ⟨ex, rfl⟩ := hp
  have : mergeT KD (KD ++ ex) = mergeT (mergeT KD KD) ex := by unfold mergeT; rw [List.foldl_append]
  rw [this, merge_self h hB KD fun _ q => q]
  exact merge_fresh ex KD hn
theorem lay_clear {N : Nat → Int → By} {v : By} {number : Int} {KD : List (By × By)} : ∀ (d h : Nat), h ≤ d → (get (layD N v number KD d) (wayF N number h)).isSome = true := by
  have keep : ∀ (D : List (By × By)) (k x k' : By), (get D k').isSome = true → (get (put D k x) k').isSome = true := fun D k x k' e => by
    by_cases q : k' = k
    · subst q; rw [get_put_self]; rfl
    · rw [get_put_ne _ _ q]; exact e
  intro d
  induction d with
  | zero =>
    intro h hh
    obtain rfl : h = 0 := by omega
    have e : wayF N number 0 = N 0 number := by unfold wayF; rw [Int.pow_zero, Int.fdiv_one]
    rw [e]; show (get (put _ _ _) _).isSome = true; rw [get_put_self]; rfl
  | succ d ih =>
    intro h hh
    by_cases q : h = d + 1
    · subst q
      show (get (put _ _ _) (N (d + 1) (number.fdiv (2 ^ (d + 1))))).isSome = true
      rw [get_put_self]; rfl
    · exact keep _ _ _ _ (ih h (by omega))
/-! #### bits -/
theorem two_toNat : (2 : Int) ^ (1 : Int).toNat = 2 := by decide
theorem tbs_pow : ∀ (i m : Nat), i ≤ m → tbs m i = 2 ^ (m - i)
  | 0, m, _ => by show 1 * 2 ^ m = _; rw [Int.one_mul, Nat.sub_zero]
  | i + 1, m, h => by
    show (tbs m i).fdiv (2 ^ (1 : Int).toNat) = _
    rw [tbs_pow i m (by omega), two_toNat, show m - i = (m - (i + 1)) + 1 by omega, Int.pow_succ, Int.fdiv_eq_ediv_of_nonneg _ (by decide), Int.mul_ediv_cancel _ (by decide)]
theorem fdiv_two (x : Int) (k : Nat) : x.fdiv (2 ^ k) = x / 2 ^ k := Int.fdiv_eq_ediv_of_nonneg _ (Int.le_of_lt (kbt_pos k))
theorem bit_odd (x : Int) (k : Nat) : Builtin.bitAnd x (2 ^ k) ≠ 0 ↔ x.fdiv (2 ^ k) % 2 = 1 := by
  rw [kbt_bit, fdiv_two]
  have hp := kbt_pos k
  rcases Int.emod_two_eq (x / 2 ^ k) with e | e <;> rw [e]
  · simp
  · rw [Int.one_mul]; exact ⟨fun _ => rfl, fun _ => Int.ne_of_gt hp⟩
theorem halve (x : Int) (h : Nat) : x.fdiv (2 ^ h) = 2 * x.fdiv (2 ^ (h + 1)) + x.fdiv (2 ^ h) % 2 := by
  rw [fdiv_two, fdiv_two, Int.pow_succ, ← Int.ediv_ediv_of_nonneg (Int.le_of_lt (kbt_pos h))]
  omega
theorem and_one (x : Int) : Builtin.bitAnd x 1 = x % 2 := by
  have := kbt_bit x 0
  simpa using this
theorem xor_even (q : Int) : Builtin.bitXor (2 * q) 1 = 2 * q + 1 := by rw [bitXor_and, and_one]; omega
theorem xor_odd (q : Int) : Builtin.bitXor (2 * q + 1) 1 = 2 * q := by rw [bitXor_and, and_one]; omega
/-- the two children on a way -/
theorem way_side {N : Nat → Int → By} {x : Int} {h : Nat} :
    (x.fdiv (2 ^ h) % 2 = 1 → N h (2 * x.fdiv (2 ^ (h + 1))) = sideF N x h ∧ N h (2 * x.fdiv (2 ^ (h + 1)) + 1) = wayF N x h) ∧
    (x.fdiv (2 ^ h) % 2 ≠ 1 → N h (2 * x.fdiv (2 ^ (h + 1))) = wayF N x h ∧ N h (2 * x.fdiv (2 ^ (h + 1)) + 1) = sideF N x h) := by
  have e := halve x h
  unfold wayF sideF
  constructor
  · intro q
    rw [q] at e
    rw [e, xor_odd]
    exact ⟨rfl, rfl⟩
  · intro q
    have q0 : x.fdiv (2 ^ h) % 2 = 0 := by omega
    rw [q0, Int.add_zero] at e
    rw [e, xor_even]
    exact ⟨rfl, rfl⟩
section
variable {B : List By} {N : Nat → Int → By} {V : Int → By} {n : Nat} {KD : List (By × By)} {path : Int}
theorem Fits.halves (S : Shape B N V n) (Fi : Fits B KD) (hB : B.length ≤ 16777216) {h : Nat} {p : Int} {v : By} (hh : h < n) (e : Mine.get KD (N (h + 1) p) = some v) : v = N h (2 * p) ++ N h (2 * p + 1) := Named.inj hB (Fi.get e) (S.node h p hh)
theorem getW_step (S : Shape B N V n) (Fi : Fits B KD) (hB : B.length ≤ 16777216) {h : Nat} {v : By} (hh : h < n) (e : get KD (wayF N path (h + 1)) = some v) :
    (x : List By) → (if bitT path (n - 1) (n - (h + 1)) then some (v.drop 32, x ++ [v.take 32]) else some (v.take 32, x ++ [v.drop 32])) = some (wayF N path h, x ++ [sideF N path h]) := fun x => by
  have hv := Fi.halves S hB hh e
  have l1 := S.len (h := h) (2 * path.fdiv (2 ^ (h + 1))) (by omega)
  have hb : bitT path (n - 1) (n - (h + 1)) = decide (path.fdiv (2 ^ h) % 2 = 1) := by
    unfold bitT
    rw [tbs_pow _ _ (by omega), show n - 1 - (n - (h + 1)) = h by omega]
    exact decide_eq_decide.mpr (bit_odd path h)
  have w := way_side (N := N) (x := path) (h := h)
  rw [hb, hv, List.drop_left' l1, List.take_left' l1]
  by_cases q : path.fdiv (2 ^ h) % 2 = 1
  · rw [decide_eq_true q, if_pos rfl, (w.1 q).1, (w.1 q).2]
  · rw [decide_eq_false q, if_neg (by decide), (w.2 q).1, (w.2 q).2]
theorem getW_sound (S : Shape B N V n) (Fi : Fits B KD) (hB : B.length ≤ 16777216) : ∀ (i : Nat) (p : By × List By), i ≤ n → getW KD (bitT path (n - 1)) (wayF N path n) i = some p →
    (∀ j, n - i < j → j ≤ n → (get KD (wayF N path j)).isSome = true) ∧ p = (wayF N path (n - i), downL (sideF N path) n i)
  | 0, p, _, h => by
    simp only [getW, Option.some.injEq] at h
    exact ⟨fun j a b => by omega, h.symm⟩
  | i + 1, p, hi, h => by
    rw [getW] at h
    cases e : getW KD (bitT path (n - 1)) (wayF N path n) i with
    | none => rw [e] at h; cases h
    | some q =>
      obtain ⟨i1, i2⟩ := getW_sound S Fi hB i q (by omega) e
      rw [e] at h
      simp only [Option.bind_some] at h
      cases e2 : get KD q.1 with
      | none => rw [e2] at h; cases h
      | some v =>
        rw [e2] at h
        simp only [Option.bind_some] at h
        subst i2
        have hs : n - i = (n - (i + 1)) + 1 := by omega
        have hs2 : n - ((n - (i + 1)) + 1) = i := by omega
        dsimp only at e2 h
        rw [hs] at e2
        have := getW_step S Fi hB (by omega) e2 (downL (sideF N path) n i)
        rw [hs2] at this
        rw [this] at h
        refine ⟨fun j a b => ?_, ?_⟩
        · by_cases q : j = n - i
          · rw [q, hs, e2]; rfl
          · exact i1 j (by omega) b
        · rw [← Option.some.inj h, downL, show n - 1 - i = n - (i + 1) by omega]
theorem getW_complete (S : Shape B N V n) (Fi : Fits B KD) (hB : B.length ≤ 16777216) : ∀ (i : Nat), i ≤ n → (∀ j, n - i < j → j ≤ n → (get KD (wayF N path j)).isSome = true) → ∃ p, getW KD (bitT path (n - 1)) (wayF N path n) i = some p
  | 0, _, _ => ⟨_, rfl⟩
  | i + 1, hi, hc => by
    obtain ⟨q, e⟩ := getW_complete S Fi hB i (by omega) fun j a b => hc j (by omega) b
    obtain ⟨_, rfl⟩ := getW_sound S Fi hB i q (by omega) e
    obtain ⟨v, e2⟩ := Option.isSome_iff_exists.mp (hc (n - i) (by omega) (by omega))
    rw [getW, e]
    simp only [Option.bind_some, e2]
    split
    · exact ⟨_, rfl⟩
    · exact ⟨_, rfl⟩
theorem getR_clear (S : Shape B N V n) (Fi : Fits B KD) (hB : B.length ≤ 16777216) (hc : clearP N KD path (n + 1)) : getR KD (bitT path (n - 1)) (wayF N path n) n = some (V path, downL (sideF N path) n n) := by
  obtain ⟨p, e⟩ := getW_complete (path := path) S Fi hB n (Nat.le_refl _) fun j _ b => hc j (by omega)
  obtain ⟨_, rfl⟩ := getW_sound S Fi hB n p (Nat.le_refl _) e
  obtain ⟨v, e2⟩ := Option.isSome_iff_exists.mp (hc 0 (by omega))
  have hv : v = V path := Named.inj hB (Fi.get e2) (by
    have := S.leaf path
    unfold wayF
    rwa [Int.pow_zero, Int.fdiv_one])
  rw [getR, e]
  simp only [Option.bind_some, Nat.sub_self, e2, hv]
theorem getR_some (S : Shape B N V n) (Fi : Fits B KD) (hB : B.length ≤ 16777216) {r : By × List By} (h : getR KD (bitT path (n - 1)) (wayF N path n) n = some r) : clearP N KD path (n + 1) := by
  rw [getR] at h
  cases e : getW KD (bitT path (n - 1)) (wayF N path n) n with
  | none => rw [e] at h; cases h
  | some q =>
    obtain ⟨i1, rfl⟩ := getW_sound S Fi hB n q (Nat.le_refl _) e
    rw [e] at h
    simp only [Option.bind_some, Nat.sub_self] at h
    intro j hj
    cases j with
    | zero =>
      cases e2 : get KD (wayF N path 0) with
      | none => rw [e2] at h; cases h
      | some v => rfl
    | succ j => exact i1 (j + 1) (by omega) (by omega)
end
/-! #### a write -/
def textF (N : Nat → Int → By) (V : Int → By) : Nat → Int → By
  | 0, p => V p
  | h + 1, p => N h (2 * p) ++ N h (2 * p + 1)
theorem Shape.text {B : List By} {N : Nat → Int → By} {V : Int → By} {n : Nat} (S : Shape B N V n) {h : Nat} (p : Int) (hh : h ≤ n) : Named B (textF N V h p) (N h p) := by
  cases h with
  | zero => exact S.leaf p
  | succ h => exact S.node h p hh
def layE (N : Nat → Int → By) (v : By) (number : Int) (KD : List (By × By)) : Nat → List (By × By)
  | 0 => KD
  | i + 1 => layD N v number KD i
theorem layE_succ {N : Nat → Int → By} {V : Int → By} {number : Int} {KD : List (By × By)} : ∀ i, layE N (V number) number KD (i + 1) = put (layE N (V number) number KD i) (wayF N number i) (textF N V i (number.fdiv (2 ^ i)))
  | 0 => by
    show put KD (N 0 number) (V number) = put KD (N 0 _) (V _)
    rw [Int.pow_zero, Int.fdiv_one]
  | i + 1 => rfl
def upL (f : Nat → By) (i : Nat) : List By := (List.range i).map f
theorem downL_eq (f : Nat → By) (n : Nat) : ∀ i, i ≤ n → (downL f n i) = ((List.range' (n - i) i).map f).reverse
  | 0, _ => rfl
  | i + 1, h => by
    rw [downL, downL_eq f n i (by omega), show n - i = n - (i + 1) + 1 by omega, List.range'_succ, List.map_cons, List.reverse_cons, show n - 1 - i = n - (i + 1) by omega]
theorem downL_rev (f : Nat → By) (n : Nat) : (downL f n n).reverse = upL f n := by
  rw [downL_eq f n n (Nat.le_refl _), List.reverse_reverse, Nat.sub_self, upL, List.range_eq_range']
theorem upL_rev (f : Nat → By) (n : Nat) : (upL f n).reverse = downL f n n := by rw [← downL_rev, List.reverse_reverse]
theorem tbl_pow2 (i : Nat) : tbl i = 2 ^ i := by
  induction i with
  | zero => rfl
  | succ i ih => rw [tbl, ih, two_toNat, Int.pow_succ]
section
variable {B B' : List By} {N N' : Nat → Int → By} {V V' : Int → By} {n : Nat} {KD : List (By × By)} {path : Int} {value : By}
theorem others (S : Shape B N V n) (S' : Shape B' N' V' n) (hp : B <+: B') (hn : B'.Nodup) (hV : ∀ p, p ≠ path → V' p = V p) : ∀ h p, h ≤ n → p ≠ path.fdiv (2 ^ h) → N' h p = N h p
  | 0, p, _, q => by
    rw [Int.pow_zero, Int.fdiv_one] at q
    have := S'.leaf p
    rw [hV p q] at this
    exact this.fn hn ((S.leaf p).mono hp)
  | h + 1, p, hh, q => by
    have e := halve path h
    have a := S'.node h p hh
    rw [others S S' hp hn hV h (2 * p) (by omega) (by omega), others S S' hp hn hV h (2 * p + 1) (by omega) (by omega)] at a
    exact a.fn hn ((S.node h p hh).mono hp)
theorem side_same (S : Shape B N V n) (S' : Shape B' N' V' n) (hp : B <+: B') (hn : B'.Nodup) (hV : ∀ p, p ≠ path → V' p = V p) {h : Nat} (hh : h ≤ n) : sideF N path h = sideF N' path h := by
  refine (others S S' hp hn hV h _ hh ?_).symm
  rw [bitXor_and, and_one]
  omega
theorem setW_eq (S : Shape B N V n) (S' : Shape B' N' V' n) (hp : B <+: B') (hn : B'.Nodup) (hV : ∀ p, p ≠ path → V' p = V p) (hv : V' path = value) {i : Nat} {node : By} {ns : List By} {SD : List (By × By)}
    (h : SetW B' (bitS path) (upL (sideF N path) n) value KD i node ns SD) : i ≤ n → node = textF N' V' i (path.fdiv (2 ^ i)) ∧ ns = upL (wayF N' path) i ∧ SD = layE N' value path KD i := by
  induction h with
  | zero => exact fun _ => ⟨by rw [Int.pow_zero, Int.fdiv_one]; exact hv.symm, rfl, rfl⟩
  | @succ i node ns SD' m sb hW hm hs ih =>
    intro hi
    obtain ⟨rfl, rfl, rfl⟩ := ih (by omega)
    have hm' : m = wayF N' path i := hm.fn hn (S'.text _ (by omega))
    have hsb : sb = sideF N' path i := by
      unfold upL at hs
      rw [List.getElem?_map, List.getElem?_range (by omega)] at hs
      rw [← side_same S S' hp hn hV (by omega)]
      exact (Option.some.inj hs).symm
    have w := way_side (N := N') (x := path) (h := i)
    have hb : bitS path i = decide (path.fdiv (2 ^ i) % 2 = 1) := by
      unfold bitS
      rw [tbl_pow2]
      exact decide_eq_decide.mpr (bit_odd path i)
    subst hm' hsb
    refine ⟨?_, ?_, ?_⟩
    · rw [hb]
      show _ = N' i (2 * path.fdiv (2 ^ (i + 1))) ++ N' i (2 * path.fdiv (2 ^ (i + 1)) + 1)
      by_cases q : path.fdiv (2 ^ i) % 2 = 1
      · rw [decide_eq_true q, if_pos rfl, (w.1 q).1, (w.1 q).2]
      · rw [decide_eq_false q, if_neg (by decide), (w.2 q).1, (w.2 q).2]
    · unfold upL; rw [List.range_succ, List.map_append]; rfl
    · subst hv; rw [layE_succ]
theorem setW_end (S : Shape B N V n) (S' : Shape B' N' V' n) (hp : B <+: B') (hn : B'.Nodup) (hV : ∀ p, p ≠ path → V' p = V p) (hv : V' path = value) {node m : By} {ns : List By} {SD : List (By × By)}
    (h : SetW B' (bitS path) (upL (sideF N path) n) value KD n node ns SD) (hm : Named B' node m) : ns.reverse = downL (wayF N' path) n n ∧ m = wayF N' path n ∧ put SD m node = layD N' value path KD n := by
  obtain ⟨rfl, rfl, rfl⟩ := setW_eq S S' hp hn hV hv h (Nat.le_refl _)
  have hm' : m = wayF N' path n := hm.fn hn (S'.text _ (Nat.le_refl _))
  subst hm' hv
  refine ⟨upL_rev _ _, rfl, ?_⟩
  rw [← layE_succ]; rfl
end
end
section
local macro_rules | `(tactic| walk_at "no such key 64") => `(tactic| fail)
local macro_rules | `(tactic| walk_at "no such key 65") => `(tactic| fail)
local macro_rules | `(tactic| walk_at "no such key 66") => `(tactic| fail)
local macro_rules | `(tactic| walk_at "no such key 67") => `(tactic| fail)
local macro_rules | `(tactic| walk_at "no such key 68") => `(tactic| fail)
local macro_rules | `(tactic| walk_at "no such key 69") => `(tactic| fail)
local macro_rules | `(tactic| walk_at "no such key 70") => `(tactic| fail)
theorem off_71 : True := by
  w_top off
  trivial
/-! ### rules for the law: bytes([k]), dict(d), d.update(e) -/
section
variable {prog : Program} {w : World} {A : Around} {E : Value → Shared → Prop} {s : Shared} {h₀ : Heap} {L : Addr} {m mg mb : Str → Option Value} {p : Program} {loose : List Str} {mean : ExcName → Option Value} {news : Led}
theorem my_bytes1 {l : Addr} {o : Obj} {k : Int} {t : Tok} {Q : Value → Shared → Prop} (hh : A.handled = none) (F : Fr h₀ L s.heap m) (N : News h₀ L s.heap news) (hm : (l, o) ∈ news) (hv : ListV o [.int k t]) (k0 : 0 ≤ k) (k1 : k < 256)
    (h : ∀ b h' t' k', b.size = 1 → Fr h₀ L h' m → News h₀ L h' news → Q (.bytes b t') { s with heap := h', toks := k' }) : wpAny (model prog w) A (call (.type "bytes") [.ref l]) Q E s :=
  call_bytes_ints (ListV.isList N hm hv) (.cons k t .nil) (fun n hn => by rw [List.mem_singleton.mp hn]; exact ⟨k0, k1⟩) (by rw [sizeLine_eq]; show (1 : Nat) ≤ 16777216; decide) hh fun h' t' k' hk => h _ h' t' k' rfl (F.keptAll hk) (N.grown hk)
variable {K : Type} [DecidableEq K] {knd : KeyKind prog w K}
theorem Vals.merge {ka kb : List (K × Value)} {Da Db : List (K × By)} (va : Vals ka Da) (vb : Vals kb Db) : Vals (merged ka kb) (mergeT Da Db) := by
  induction vb generalizing ka Da with
  | nil => exact va
  | @cons k x t kb Db _ ih =>
    have := va.stored k x t
    exact ih this
theorem my_copyD {d : Addr} {o : Obj} {D : List (K × By)} {Q : Value → Shared → Prop} (F : Fr h₀ L s.heap m) (N : News h₀ L s.heap news) (T : Top p loose mean mg mb h₀) (hm : (d, o) ∈ news) (Td : Tab knd o D) (lo : (d == sysModules) = false) (hz : D.length ≤ 16777216)
    (h : ∀ e o' h', Fr h₀ L h' m → News h₀ L h' ((e, o') :: news) → (∀ p ∈ news, @LT.lt Nat _ p.1 e) → (e == sysModules) = false → Tab knd o' D → Q (.ref e) { s with heap := h' }) :
    wpAny (model prog w) A (call (.type "dict") [.ref d]) Q E s := by
  obtain ⟨kvs, hd, hv⟩ := Td
  refine kt_call_dict lo (kda_dict N hm hd) (by rw [hv.length, sizeLine_eq]; exact hz) fun h' hmm hs => ?_
  obtain ⟨o', ho', hd'⟩ := Heap.dictOf_iff.mp hmm
  have N1 := News.push F N { cls := .type "dict", data := .dict #[] }
  exact h _ o' h' ((F.push _).change hs (N1 _ (.head _)).2.1 (N1.fresh (.head _))) (N1.setHead N.apart hs ho') (fun p hp => Heap.lt_size (N p hp).1) (F.notModules (modules_low T.nolimit)) ⟨kvs, hd', hv⟩
theorem my_updm {d : Addr} {o : Obj} {D : List (K × By)} {pl : Sem Bool} {Q : Value × List Value → Shared → Prop} (N : News h₀ L s.heap news) (hm : (d, o) ∈ news) (T : Tab knd o D) (h : Q (.builtin "dict.update", [.ref d]) s) : wpAny (model prog w) A (getMethod (.ref d) "update" pl) Q E s := by
  obtain ⟨kvs, hd, v⟩ := T
  have hD := kda_dict N hm hd
  exact getMethod_builtin hD.typeIs PySem.F.plainAttrs_dict PySem.F.slot_dict_update PySem.F.type_dict_update hD.mapOf.noDict h
theorem my_updD {d e : Addr} {o oe : Obj} {D D' : List (K × By)} {g : Obj → Led} {Q : Value → Shared → Prop} (F : Fr h₀ L s.heap m) (N : News h₀ L s.heap news) (U : UpdF d o news g) (Td : Tab knd o D) (hm : (e, oe) ∈ news) (Te : Tab knd oe D') (lo : (e == sysModules) = false) (hne : @Ne Nat d e) (hz : D.length + D'.length ≤ 16777216)
    (h : ∀ h' o', Fr h₀ L h' m → News h₀ L h' (g o') → Tab knd o' (mergeT D D') → Q .none { s with heap := h' }) :
    wpAny (model prog w) A (call (.builtin "dict.update") [.ref d, .ref e]) Q E s := by
  obtain ⟨ka, da, va⟩ := Td
  obtain ⟨kb, db, vb⟩ := Te
  obtain ⟨pre, post, rfl, hg, a, b⟩ := U.split
  have hmm := N (d, o) (List.mem_append_right _ (.head _))
  have hD : s.heap.DictOf knd d ka := Heap.dictOf_iff.mpr ⟨o, hmm.1, da⟩
  refine call_meetsIn PySem.F.slot_dict_update hD.typeIs PySem.F.entry_dict_update (PySem.F.args_dict_update_2 _ _) (meets_dict_update knd d e hne lo)
    ⟨ka, kb, hD, kda_dict N hm db, (by rw [va.length, vb.length, sizeLine_eq]; exact hz), fun h' hm' _ hs => ?_⟩
  obtain ⟨o', ho', hd'⟩ := Heap.dictOf_iff.mp hm'
  exact h h' o' (F.change hs hmm.2.1 hmm.2.2) (hg o' ▸ N.setIn a b hs ho') ⟨_, hd', va.merge vb⟩
end
/-- the first statement, then the rest -/
theorem cut_exec {M : Model} {A : Around} {st : Stmt} {rest : List Stmt} {env : Env} {Q : Flow → Shared → Prop} {E : Value → Shared → Prop} {s : Shared} (P : Shared → Prop) (h1 : wpAny M A (exec st env) (fun f s' => f = .next ∧ P s') E s) (h2 : ∀ s', P s' → wpAny M A (execs rest env) Q E s') : wpAny M A (execs (st :: rest) env) Q E s := by
  refine wpAny_execs_cons (wpAny_mono h1 ?_ fun _ _ e => e)
  rintro f s' ⟨rfl, p⟩
  exact h2 s' p
end
section
local macro_rules | `(tactic| walk_at "no such key 72") => `(tactic| fail)
local macro_rules | `(tactic| walk_at "no such key 73") => `(tactic| fail)
local macro_rules | `(tactic| walk_at "no such key 74") => `(tactic| fail)
local macro_rules | `(tactic| walk_at "no such key 75") => `(tactic| fail)
local macro_rules | `(tactic| walk_at "no such key 76") => `(tactic| fail)
local macro_rules | `(tactic| walk_at "no such key 77") => `(tactic| fail)
local macro_rules | `(tactic| walk_at "no such key 78") => `(tactic| fail)
local macro_rules | `(tactic| walk_at "no such key 79") => `(tactic| fail)
theorem off_80 : True := by
  w_top off
  trivial
/-! ### a called function that catches -/
def LeaveM (h₀ : Heap) (L : Addr) (m : Str → Option Value) (g : Heap) (R : Result → Shared → Prop) (v : Value) (s' : Shared) : Prop := LeaveK h₀ L m g R v s' ∨ R (.ok (.ret v)) s'
section
variable {prog : Program} {w : World} {A A₀ : Around} {E : Value → Shared → Prop} {s : Shared} {K : Frag} {L : Addr} {h₀ base : Heap} {m mg mb : Str → Option Value} {news : Led} {p : Program} {loose : List Str} {mean : ExcName → Option Value}
theorem code_defM {env : Env} {outer : List Env} {R : Result → Shared → Prop} {name qual : Str} {params : Arguments} {body : List Stmt} {scope : Scope} {dV kV doc pm cdv ct oc : Value} {an od : Option Addr} {osl : Array (Option Value)} {f : Addr} {args : Args} {binds : List (Str × Value)}
    (B : Below A₀ base outer h₀) (F : Fr h₀ L s.heap m) (X₀ : K.In h₀) (N : News h₀ L s.heap news) (T : Top p loose mean mg mb h₀) (hA : A.frames = some (env :: outer)) (hf : env.frame = some L) (hke : env.scope.kind = .function)
    (ho : K.lookup f = some ⟨oc, od, .func (fnOf name qual params body scope dV kV doc pm an cdv ct), osl⟩) (hcd : codeIn K cdv qual = true) (hroom : A.depth < recursionLimit)
    (hbind : BindsTo s (fnOf name qual params body scope dV kV doc pm an cdv ct) args binds) (hloc : ∀ y ∈ binds, scope.names.lookup y.1 = some .local)
    (h : ∀ g L' h₁, Fr h₀ L g m → Fr g L' h₁ (fun y => binds.reverse.lookup y) → News g L' h₁ news → Below A base (env :: outer) g → K.In g → Top p loose mean mg mb g →
      wpAny (model prog w) (A.deeper (envOf qual scope L' f cdv)) (execs body (envOf qual scope L' f cdv))
        (fun fl s' => LeaveM h₀ L m g R (match fl with | .ret v => v | _ => .none) s')
        (fun e s' => wpAny (model prog w) (A.deeper (envOf qual scope L' f cdv)) (leaving (envOf qual scope L' f cdv) e) (fun _ s'' => R (.error e) s'') (fun e' s'' => R (.error e') s'') s')
        { s with heap := h₁, toks := s.toks + binds.length })
    (hco : scope.isCoroutine = false) (hgen : scope.isGenerator = false) (hk : scope.kind = .function)
    (hcell : ∀ x ∈ scope.names, x.2 ≠ .cell) : codeAny (model prog w) A (.call (.ref f) args) R s := by
  have X := X₀.keeps F.keep
  obtain ⟨FG, BG, st, lv⟩ := groundX (R := R) B F N hA hf hke
  refine codeAny_call_def (fd := fnOf name qual params body scope dV kV doc pm an cdv ct) (body := body) (binds := binds) hroom (X _ _ ho) rfl (T.nolimit.keeps F.keep) (codeRec_of X hcd) rfl hbind hcell hloc (fun h₁ hns hk₁ => ?_) hco hgen hk
  exact wpAny_mono (h _ s.heap.objs.size h₁ FG ⟨hns, fun b o e => hk₁ b o (of_hideAll _ e), Nat.le_of_eq (hideAll_size _ _)⟩
    (fun p hp => ⟨hk₁ _ _ (N p hp).1, Nat.ne_of_lt (Heap.lt_size (N p hp).1), hideAll_none _ (List.mem_map_of_mem hp)⟩) BG (X₀.keeps st) (T.keeps st)) (fun fl s' hl => hl.elim (fun z => lv _ _ z) id) fun _ _ y => y
end
section
variable {prog : Program} {w : World} {A₀ : Around} {E : Value → Shared → Prop} {s' : Shared} {h₀ g G : Heap} {outer : List Env} {L a e : Addr} {m : Str → Option Value} {name : Str} {scope : Scope} {cd : Value}
  {b₀ : Stmt} {suite : List Stmt} {pos np : Pos} {rest : List ExceptHandler} {Q : Flow → Shared → Prop} {news : Led}
  {p : Program} {loose : List Str} {mean : ExcName → Option Value} {mg mb : Str → Option Value} {x : Str} {X T' : String} {KF : Frag}
theorem caught_M (hst : A₀.frames = some outer) (F : Fr g L G m) (hab : h₀.objs.size ≤ L) (hsm : G.UpToSlots s'.heap) (R : RaisedN h₀ (envOf name scope L a cd :: outer) e (.type X) news s'.heap)
    (XB : KF.In h₀) (T : Top p loose mean mg mb h₀) (ex : nsIn KF mainGlobals x = some none) (hv : bootBuiltins x = some (.type T')) (hn' : x ≠ "__name__")
    (hexc : isSubtype (.type T') (.type "BaseException") = pure true) (hnt : isSubtype (.type ((Manifest.find? T').elim "type" fun y => y.metatype)) (.type "tuple") = pure false) (hsub : isSubtype (.type X) (.type T') = pure true)
    (k : ∀ h', h₀.StaysIn h' → g.UpToSlots h' → (∀ q ∈ news, h'.get? q.1 = some q.2 ∧ h₀.get? q.1 = none) →
      wpAny (model prog w) ((A₀.deeper (envOf name scope L a cd)).mark (some (.ref e))) (execs (b₀ :: suite) (envOf name scope L a cd)) Q E { s' with heap := h' })
    (hk : scope.kind = .function := by rfl) (hx : (envOf name scope L a cd).kindOf x = some .globalImplicit := by rfl) (hd : (x == ("__debug__" : Str)) = false := by decide)
    (hE : PassesOwnAt (model prog w) ((A₀.deeper (envOf name scope L a cd)).mark (some (.ref e))) (A₀.deeper (envOf name scope L a cd)) (envOf name scope L a cd) E := by passes_own) :
    wpAny (model prog w) (A₀.deeper (envOf name scope L a cd)) (noteFrame (.ref e) (envOf name scope L a cd))
      (fun _ s₂ => wpAny (model prog w) (A₀.deeper (envOf name scope L a cd)) (setFlight (.ref e) none) (fun _ s₃ =>
        wpAny (model prog w) (A₀.deeper (envOf name scope L a cd)) (handleBy (.ref e) (envOf name scope L a cd) (.ExceptHandler (some (.Name x np)) none (b₀ :: suite) pos :: rest)) Q E s₃) E s₂) E s' := by
  obtain ⟨B, a0, hB, hl, hfl⟩ := R
  refine wpAny_looks_onW (Around.frames_deeper hst) rfl hfl fun h₄ hheld₄ hsm₄ => ?_
  refine wpAny_landsW hheld₄ fun h₅ hheld hsm₅' => ?_
  have hsm₅ := hsm₄.trans hsm₅'
  have hheld' := flyingW_base hB hheld
  have F₅ : Fr h₀ L h₅ m := ⟨(hsm.trans hsm₅).ns F.ns, hheld'.1, hab⟩
  obtain ⟨ob, hob, hobc⟩ := hheld'.there
  refine wpAny_handleBy_builtin (X := X) (T := T') (b := true) hexc hnt hsub (name_B F₅ XB (topRead_of T) ex hv hn' ⟨rfl, ⟨ob, hob, hobc⟩, ?_⟩ hk hx hd)
  refine lands_againW hheld fun h₆ hfl₆ hsm₆ => ?_
  exact wpAny_passesOwnAt hE (k h₆ (flyingW_base hB hfl₆).1 ((Heap.UpToSlots.of_keeps F.keep).trans ((hsm.trans hsm₅).trans hsm₆)) fun q hq => ⟨hfl₆.1 _ _ (hl q hq).1, (hl q hq).2⟩)
end
/-! ### a bound method called with keywords -/
theorem callWith_MKW {M : Model} {A : Around} {E : Value → Shared → Prop} {s : Shared} {K : Frag} {env : Env} {pos : Pos} {first : List Value} {Q : Value → Shared → Prop} {h₀ : Heap} {L : Addr} {news : Led} {q g : Addr} {self : Value} {e : PySem.Expr} {rest : List PySem.Expr} {kws : List Keyword} (_X : K.In h₀) (_N : News h₀ L s.heap news) (_q : (q, methodObj (.ref g) self) ∈ news) (hf : fnIn K g = true)
    (hall : (backToKw pos (keywordEach kws env)).all (·.1.isSome) = true)
    (h : wpAny M A (spliced (backTo pos (starEach (e :: rest) env))) (fun vs s₁ => wpAny M A (evalAll ((backToKw pos (keywordEach kws env)).map (·.2)))
      (fun ks s₂ => MethP K q g self s₂.heap ∧ wpAny M A (call (.ref q) (first ++ vs) (((backToKw pos (keywordEach kws env)).filterMap (·.1)).zip ks)) Q E s₂) E s₁) E s)
    (hplain : ((backTo pos (starEach (e :: rest) env)).any (·.1) || (backToKw pos (keywordEach kws env)).any (·.1.isNone)) = false := by rfl) (he : starEach (e :: rest) env = (false, eval e env) :: starEach rest env := by rfl) :
    wpAny M A (callWith pos (.ref q) first (backTo pos (starEach (e :: rest) env)) (backToKw pos (keywordEach kws env))) Q E s :=
  callWith_of hplain (keeps_M hf) (evalArgs_kw2 hall h he)
end
section
local macro_rules | `(tactic| walk_at "compareOp Eq ref") => `(tactic| (k_here; (with_reducible show wpAny _ _ (compareOp CmpOp.Eq (Value.ref _) (Value.ref _)) _ _ _); k_dflt (refine' my_eqD (knd := intKind _ _) ?N ?a ?b ?Ta ?Tb ?la ?lb ?hu (fun c' hc' => ?_); (case N => k_asm); (case a => ktr_rel); (case b => ktr_rel); (case Ta => assumption); (case Tb => assumption); (case la => assumption); (case lb => assumption); (case hu => ktr_unf))))
local macro_rules | `(tactic| walk_at "call builtin:sorted") => `(tactic| (k_here; (with_reducible show wpAny _ _ (call (Value.builtin _) [Value.ref _]) _ _ _); k_dflt (refine' my_sortedD ?hh ?F ?N ?m ?T ?lo ?z (fun l' o' h' tk' ns' vs' F' N' lt' hv' hi' hp' => ?_); (case hh => exact rfl); (case F => k_asm); (case N => k_asm); (case m => ktr_rel); (case T => assumption); (case lo => assumption); (case z => first | assumption | omega))))
local macro_rules | `(tactic| walk_at "binaryOp LShift int int") => `(tactic| (k_here; k_dflt (refine' lshift_int_small ?a ?b ?c ?_; (case a => first | assumption | omega); (case b => omega); (case c => decide))))
local macro_rules | `(tactic| walk_at "call builtin:len") => `(tactic| (k_here; (with_reducible show wpAny _ _ (call (Value.builtin "len") [Value.ref _]) _ _ _); k_dflt (refine' my_lenI ?N ?m ?v ?z (fun t' k' => ?_); (case N => k_asm); (case m => ktr_rel); (case v => assumption); (case z => exact keysz (by assumption) (by assumption) (by assumption)))))
local macro_rules | `(tactic| walk_at "no such key 81") => `(tactic| fail)
local macro_rules | `(tactic| walk_at "no such key 82") => `(tactic| fail)
local macro_rules | `(tactic| walk_at "no such key 83") => `(tactic| fail)
local macro_rules | `(tactic| walk_at "no such key 84") => `(tactic| fail)
local macro_rules | `(tactic| walk_at "no such key 85") => `(tactic| fail)
theorem off_86 : True := by
  w_top off
  trivial
/-! ### _law_pick -/
section
variable {prog : Program} {w : World} {p : Program} {loose : List Str} {mean : ExcName → Option Value} {mg mb : Str → Option Value} {dp un : Nat} {gd : Option (List Code)} {cn : Str} {cs : Scope} {a : Addr} {ccd : Value} {cl : List (Str × Addr)} {outer : List Env} {A₀ : Around} {base h₀ : Heap} {L : Addr} {m : Str → Option Value} {s : Shared} {Q E : Value → Shared → Prop}
theorem pick_call {he : Addr} {oh : Obj} {HD : List (Int × By)} {news : Led} {number way span depth : Int} {t1 t2 t3 t4 : Tok} (Bl : Below A₀ base outer h₀) (F : Fr h₀ L s.heap m) (X : (hd.heap_39 w.params).In h₀) (T : Top p loose mean mg mb h₀) (hk : cs.kind = .function) (hdp : dp + 6 < recursionLimit) (hun : un + 150 < cLine)
    (N : News h₀ L s.heap news) (hm : (he, oh) ∈ news) (hT : Tab (intKind prog w) oh HD) (hlo : (he == sysModules) = false) (hz : HD.length ≤ 60) (hin : ∀ p ∈ HD, 0 ≤ p.1 ∧ p.1 < span)
    (hw0 : 0 ≤ way) (hw1 : way < span) (hsp : span = 2 ^ depth.toNat) (hd0 : 8 ≤ depth) (hd1 : depth ≤ 16)
    (ret : ∀ h' tk' aim t, Fr h₀ L h' m → News h₀ L h' news → 0 ≤ aim → aim < span → Q (.int aim t) { s with heap := h', toks := tk' }) :
    wpAny (model prog w) (ktrTop dp un gd cn cs L a ccd cl outer) (call (.ref 222) [.int number t1, .int way t2, .ref he, .int span t3, .int depth t4]) Q E s := by
  refine wpAny_call ?_
  k_dflt (refine' code_def (binds := [((Str.ofString "number"), .int number t1), ((Str.ofString "way"), .int way t2), ((Str.ofString "held"), .ref he), ((Str.ofString "span"), .int span t3), ((Str.ofString "depth"), .int depth t4)]) ?k1 ?k2 ?k3 ?k4 ?k5 ?kA ?kF ?kK ?k6 ?k7 ?k8 ?k9 ?kB ?_ ?c2 ?c3 ?c4 ?c5; (case kA => exact rfl); (case kF => exact rfl); (case kK => assumption); (case k1 => k_asm); (case k2 => k_asm); (case k3 => k_asm); (case k4 => k_asm); (case k5 => k_asm); (case k6 => k_is); (case k7 => k_is); (case k8 => exact Nat.lt_of_le_of_lt (Nat.le_add_right _ _) hdp); (case k9 => exact BindsTo.of_eq rfl); (case c5 => decide); (case kB => exact locs rfl); (case c2 => exact rfl); (case c3 => exact rfl); (case c4 => exact rfl); intro g' L' h' FG' F' N' B' X' T')
  have hf1 : 0 ≤ (number.fdiv 16).fmod depth := Int.fmod_nonneg_of_pos _ (by omega)
  have hf2 : (number.fdiv 16).fmod depth < depth := Int.fmod_lt_of_pos _ (by omega)
  have hz' : HD.length < 64 := by omega
  k_steps
  · rename Fr h₀ _ _ _ => kF
    rename News h₀ _ _ _ => kN
    exact ret _ _ _ _ kF kN hw0 hw1
  · rename Fr h₀ _ _ _ => kF
    rename News h₀ _ _ _ => kN
    exact ret _ _ _ _ kF (fun p hp => kN p (by ktr_rel)) hw0 hw1
  · rename IntsAre _ _ => hi'
    rename List.Perm _ _ => hp'
    rename _ = true ↔ _ => hc'
    rename _ = false => hcf
    rename ((List.length _ : Nat) : Int) = 0 => hx
    exfalso
    have h1 := hi'.length
    have h2 := hp'.length_eq
    rw [List.length_map] at h2
    have h3 : HD = [] := List.length_eq_zero_iff.mp (by omega)
    subst h3
    rw [hc'.mpr ⟨rfl, fun p hp => nomatch hp⟩] at hcf
    cases hcf
  · rename IntsAre _ _ => hi'
    rename List.Perm _ _ => hp'
    rename ((List.length _ : Nat) : Int) ≠ 0 => hx
    obtain ⟨f1, k, tk1, e, k0, k1⟩ := pick_key (x := number.fdiv 16) hi' hp' hx hin
    have hvz := Nat.le_trans (keysz hi' hp' hz') (show 1000 ≤ 16777216 by decide)
    k_steps
    rename Fr h₀ _ _ _ => kF
    rename News h₀ _ _ _ => kN
    exact ret _ _ _ _ kF (fun p hp => kN p (by ktr_rel)) k0 k1
  · rename Fr h₀ _ _ _ => kF
    rename News h₀ _ _ _ => kN
    have := xor_lt hw0 hw1 hsp hf1 hf2
    exact ret _ _ _ _ kF (fun p hp => kN p (by ktr_rel)) this.1 this.2
  · exfalso; omega
  · rename Fr h₀ _ _ _ => kF
    rename News h₀ _ _ _ => kN
    have := xor_lt hw0 hw1 hsp hf1 hf2
    exact ret _ _ _ _ kF (fun p hp => kN p (by ktr_rel)) this.1 this.2
  · rename Fr h₀ _ _ _ => kF
    rename News h₀ _ _ _ => kN
    exact ret _ _ _ _ kF kN (Int.fmod_nonneg_of_pos _ (by omega)) (Int.fmod_lt_of_pos _ (by omega))
end
end
section
local macro_rules | `(tactic| walk_at "call ref") => `(tactic| (k_here; (with_reducible show wpAny _ _ (call (Value.ref _) [Value.ref _, Value.bytes _ _]) _ _ _); k_dflt (first
  | (refine' tget_call ?k1 ?k2 ?k3 ?k4 ?k5 ?k6 ?k7 ?N ?x ?d ?sd ?T ?lo ?kz ?s0 ?s1 ?SD ?ne ?rz (fun h' tk' v t bl F' N' hG => ?_) (fun e g h' tk' Fg R U hG => ?_); (case k1 => k_asm); (case k2 => k_asm); (case k3 => k_asm); (case k4 => k_asm); (case k5 => first | exact rfl | assumption); (case k6 => ktr_unf); (case k7 => ktr_unf); (case N => k_asm); (case x => ktr_rel); (case d => ktr_rel); (case sd => ktr_rel); (case T => assumption); (case lo => assumption); (case kz => assumption); (case s0 => assumption); (case s1 => assumption); (case SD => assumption); (case ne => assumption); (case rz => assumption))
  | (refine' tbranch_call ?k1 ?k2 ?k3 ?k4 ?k5 ?k6 ?k7 ?N ?x ?d ?sd ?T ?lo ?kz ?s0 ?s1 ?SD ?ne ?rz (fun h' tk' br ob v bl F' N' hlA hTB hG => ?_) (fun e g h' tk' Fg R U hG => ?_); (case k1 => k_asm); (case k2 => k_asm); (case k3 => k_asm); (case k4 => k_asm); (case k5 => first | exact rfl | assumption); (case k6 => ktr_unf); (case k7 => ktr_unf); (case N => k_asm); (case x => ktr_rel); (case d => ktr_rel); (case sd => ktr_rel); (case T => assumption); (case lo => assumption); (case kz => assumption); (case s0 => assumption); (case s1 => assumption); (case SD => assumption); (case ne => assumption); (case rz => assumption))
  | (refine' delete_call ?k1 ?k2 ?k3 ?k4 ?k5 ?k6 ?k7 ?N ?o ?n1 ?n2 ?n3 ?x ?f ?B ?len ?blo ?T ?Sz ?lo ?kz ?s0 ?s1 ?vz ?SD ?rz (fun h' tk' r orr o' osd' B' root' node n ns SD1 v bl v0 v1 v2 v3 v4 v5 v6 v7 v8 v9 F' N' hlA hB' hp' hl' hG hW hn hr hT' hTB => ?_) (fun e g h' tk' Fg R U hG => ?_); (case k1 => k_asm); (case k2 => k_asm); (case k3 => k_asm); (case k4 => k_asm); (case k5 => first | exact rfl | assumption); (case k6 => ktr_unf); (case k7 => ktr_unf); (case N => k_asm); (case o => assumption); (case n1 => assumption); (case n2 => assumption); (case n3 => assumption); (case x => assumption); (case f => assumption); (case B => assumption); (case len => assumption); (case blo => assumption); (case T => assumption); (case Sz => assumption); (case lo => assumption); (case kz => assumption); (case s0 => assumption); (case s1 => assumption); (case vz => assumption); (case SD => assumption); (case rz => assumption)))))
theorem off_87 : True := by
  w_top off
  trivial
/-! ### _law_ask -/
def AskD (kind : Int) (B : List By) (SD : List (By × By)) (root value : By) (path : Int) (m : Nat) (n : Nat) (tv : Value) (xs : Led) (B' : List By) (SD' : List (By × By)) (root' : By) : Prop :=
  (getR SD (bitT path m) root n = none ∧ tv = .none ∧ xs = [] ∧ B' = B ∧ SD' = SD ∧ root' = root) ∨
  ∃ v bl, getR SD (bitT path m) root n = some (v, bl) ∧
    ((kind = 0 ∧ (∃ b t, tv = .bytes b t ∧ b.toList = v) ∧ xs = [] ∧ B' = B ∧ SD' = SD ∧ root' = root) ∨
     (kind = 3 ∧ (∃ r o, tv = .ref r ∧ xs = [(r, o)] ∧ TupB o bl) ∧ B' = B ∧ SD' = SD ∧ root' = root) ∨
     (kind ≠ 0 ∧ kind ≠ 3 ∧ ∃ r o node ns SD1, tv = .ref r ∧ xs = [(r, o)] ∧ TupB o ns.reverse ∧ SetW B' (bitS path) bl.reverse value SD n node ns SD1 ∧ Named B' node root' ∧ SD' = put SD1 root' node))
theorem above_of {h₀ g h : Heap} {L L' : Addr} {m m' : Str → Option Value} (FG : Fr h₀ L g m) (F : Fr g L' h m') : h₀.objs.size ≤ L' := by
  obtain ⟨o, es, n, ho, _⟩ := FG.ns
  exact Nat.le_trans (Nat.le_trans FG.above (Nat.le_of_lt (Heap.lt_size ho))) F.above
section
variable {prog : Program} {w : World} {p : Program} {loose : List Str} {mean : ExcName → Option Value} {mg mb : Str → Option Value} {dp un : Nat} {gd : Option (List Code)} {cn : Str} {cs : Scope} {a : Addr} {ccd : Value} {cl : List (Str × Addr)} {outer : List Env} {A₀ : Around} {base h₀ : Heap} {L : Addr} {m : Str → Option Value} {s : Shared} {Q E : Value → Shared → Prop}
set_option maxHeartbeats 2000000 in
theorem ask_call {x d sd bk f : Addr} {o osd : Obj} {B : List By} {SD : List (By × By)} {rest : Led} {size kind : Int} {dflt root key value : Array UInt8} {t0 t1 t2 t3 u0 u1 u2 u3 u4 u5 u6 u7 u8 u9 : Tok} (Bl : Below A₀ h₀ outer h₀) (F : Fr h₀ L s.heap m) (X : (hd.heap_39 w.params).In h₀) (T : Top p loose mean mg mb h₀) (hk : cs.kind = .function) (hdp : dp + 22 < recursionLimit) (hun : un + 240 < cLine)
    (N : News h₀ L s.heap ((bk, o) :: (sd, osd) :: (d, dictOf (treeL w size dflt f sd root u0 u1 u2 u3 u4 u5 u6 u7 u8 u9) 6) :: rest)) (hoff : OwnOff rest [bk, sd, d]) (n1 : @Ne Nat bk sd) (n2 : @Ne Nat bk d) (n3 : @Ne Nat sd d)
    (hx : (x, instObj 161 d) ∈ rest) (hf : HashFn rest f bk) (hB : Book (prog := prog) (w := w) o B) (hlen : B.length ≤ 900000) (hblo : (bk == sysModules) = false) (hT : Tab (bytesKind prog w) osd SD) (hSz : SD.length ≤ 900000) (hlo : (sd == sysModules) = false)
    (hkz : (key.size : Int) = size) (hs0 : 1 ≤ size) (hs1 : size ≤ 2) (hdz : dflt.size ≤ 300) (hvz : value.size ≤ 300) (hSD : ∀ k v, get SD k = some v → v.length ≤ 300) (hne : ∀ k v, get SD k = some v → v ≠ []) (hroot : root.size = 32)
    (ret : ∀ h' tk' tv xs o' osd' B' SD' root' v0 v1 v2 v3 v4 v5 v6 v7 v8 v9, Fr h₀ L h' m → News h₀ L h' (xs ++ (bk, o') :: (sd, osd') :: (d, dictOf (treeL w size dflt f sd root' v0 v1 v2 v3 v4 v5 v6 v7 v8 v9) 6) :: rest) →
      (∀ q ∈ xs, ∀ p ∈ rest, @LT.lt Nat _ p.1 q.1) → Book (prog := prog) (w := w) o' B' → B <+: B' → B'.length ≤ B.length + 20 → Tab (bytesKind prog w) osd' SD' →
      AskD kind B SD root.toList value.toList (KFB.value (intsOf key.toList)) (size * 8 - 1).toNat (size * 8).toNat tv xs B' SD' root'.toList → Q tv { s with heap := h', toks := tk' }) :
    wpAny (model prog w) (ktrTop dp un gd cn cs L a ccd cl outer) (call (.ref 229) [.ref x, .int kind t0, .bytes key t1, .bytes value t2, .bytes dflt t3]) Q E s := by
  refine wpAny_call ?_
  k_dflt (refine' code_defM (binds := [((Str.ofString "tree"), .ref x), ((Str.ofString "kind"), .int kind t0), ((Str.ofString "key"), .bytes key t1), ((Str.ofString "value"), .bytes value t2), ((Str.ofString "default"), .bytes dflt t3)]) ?k1 ?k2 ?k3 ?k4 ?k5 ?kA ?kF ?kK ?k6 ?k7 ?k8 ?k9 ?kB ?_ ?c2 ?c3 ?c4 ?c5; (case kA => exact rfl); (case kF => exact rfl); (case kK => assumption); (case k1 => k_asm); (case k2 => k_asm); (case k3 => k_asm); (case k4 => k_asm); (case k5 => k_asm); (case k6 => k_is); (case k7 => k_is); (case k8 => exact Nat.lt_of_le_of_lt (Nat.le_add_right _ _) hdp); (case k9 => exact BindsTo.of_eq rfl); (case c5 => decide); (case kB => exact locs rfl); (case c2 => exact rfl); (case c3 => exact rfl); (case c4 => exact rfl); intro g' L' h' FG' F' N' B' X' T')
  k_steps
  · rename getR _ _ _ _ = _ => hG
    refine Or.inl ?_
    k_steps
    rename Fr h₀ _ _ _ => kF
    rename News h₀ _ _ _ => kN
    exact ret _ _ _ [] o osd B SD root _ _ _ _ _ _ _ _ _ _ kF kN (fun q hq => nomatch hq) hB (List.prefix_refl _) (by omega) hT (.inr ⟨_, _, hG, .inl ⟨by assumption, ⟨_, _, rfl, rfl⟩, rfl, rfl, rfl, rfl⟩⟩)
  · rename RaisedN _ _ _ _ _ _ => R1
    rename Heap.UpToSlots _ _ => U1
    rename getR _ _ _ _ = _ => hG
    rename Fr g' _ _ _ => Fg1
    refine caught_M (T' := "KeyError") rfl Fg1 (above_of FG' F') U1 R1 X T ?ex PyProof.Rows.Boot.«KeyError» ?hn kr_isExc_KeyError kr_notTuple_KeyError (by rw [isSubtype_type]; kernel_rfl) ?_
    case ex => k_is
    case hn => decide
    intro h'' st up nw
    k_steps
    exact Or.inr (ret _ _ _ [] o osd B SD root _ _ _ _ _ _ _ _ _ _ (FG'.of_stays st up) (fun q hq => ⟨(nw q hq).1, (N q hq).2.1, (nw q hq).2⟩) (fun q hq => nomatch hq) hB (List.prefix_refl _) (by omega) hT (.inl ⟨hG, rfl, rfl, rfl, rfl, rfl⟩))
  · rename getR _ _ _ _ = _ => hG
    refine Or.inl ?_
    k_steps
    rename Fr h₀ _ _ _ => kF
    rename News h₀ _ _ _ => kN
    rename TupB _ _ => hTB
    rename (∀ p, p ∈ _ → Prod.fst p < _) => hlA
    exact ret _ _ _ [(_, _)] o osd B SD root _ _ _ _ _ _ _ _ _ _ kF kN (fun q hq p hp => by rw [List.mem_singleton.mp hq]; exact hlA p (.tail _ (.tail _ (.tail _ hp)))) hB (List.prefix_refl _) (by omega) hT (.inr ⟨_, _, hG, .inr (.inl ⟨by assumption, ⟨_, _, rfl, rfl, hTB⟩, rfl, rfl, rfl⟩)⟩)
  · rename RaisedN _ _ _ _ _ _ => R1
    rename Heap.UpToSlots _ _ => U1
    rename getR _ _ _ _ = _ => hG
    rename Fr g' _ _ _ => Fg1
    refine caught_M (T' := "KeyError") rfl Fg1 (above_of FG' F') U1 R1 X T ?ex PyProof.Rows.Boot.«KeyError» ?hn kr_isExc_KeyError kr_notTuple_KeyError (by rw [isSubtype_type]; kernel_rfl) ?_
    case ex => k_is
    case hn => decide
    intro h'' st up nw
    k_steps
    exact Or.inr (ret _ _ _ [] o osd B SD root _ _ _ _ _ _ _ _ _ _ (FG'.of_stays st up) (fun q hq => ⟨(nw q hq).1, (N q hq).2.1, (nw q hq).2⟩) (fun q hq => nomatch hq) hB (List.prefix_refl _) (by omega) hT (.inl ⟨hG, rfl, rfl, rfl, rfl, rfl⟩))
  · rename getR _ _ _ _ = _ => hG
    refine Or.inl ?_
    k_steps
    rename Fr h₀ _ _ _ => kF
    rename News h₀ _ _ _ => kN
    rename TupB _ _ => hTB
    rename (∀ p, p ∈ _ → Prod.fst p < _) => hlA
    rename SetW _ _ _ _ _ _ _ _ _ => hW
    rename Named _ _ _ => hn
    rename Book _ _ => hB2
    rename _ <+: _ => hp2
    rename Tab (bytesKind _ _) _ (put _ _ _) => hT2
    rename _ = List.toArray _ => hr
    subst hr
    rename (_ == _) = true => hve
    have hve' : value.toList = dflt.toList := by simpa using hve
    rw [← hve'] at hW
    exact ret _ _ _ [(_, _)] _ _ _ _ _ _ _ _ _ _ _ _ _ _ _ kF kN (fun q hq p hp => by rw [List.mem_singleton.mp hq]; exact hlA p hp) hB2 hp2 (by assumption) hT2 (.inr ⟨_, _, hG, .inr (.inr ⟨by assumption, by assumption, _, _, _, _, _, rfl, rfl, hTB, hW, hn, rfl⟩)⟩)
  · rename RaisedN _ _ _ _ _ _ => R1
    rename Heap.UpToSlots _ _ => U1
    rename getR _ _ _ _ = _ => hG
    rename Fr g' _ _ _ => Fg1
    refine caught_M (T' := "KeyError") rfl Fg1 (above_of FG' F') U1 R1 X T ?ex PyProof.Rows.Boot.«KeyError» ?hn kr_isExc_KeyError kr_notTuple_KeyError (by rw [isSubtype_type]; kernel_rfl) ?_
    case ex => k_is
    case hn => decide
    intro h'' st up nw
    k_steps
    exact Or.inr (ret _ _ _ [] o osd B SD root _ _ _ _ _ _ _ _ _ _ (FG'.of_stays st up) (fun q hq => ⟨(nw q hq).1, (N q hq).2.1, (nw q hq).2⟩) (fun q hq => nomatch hq) hB (List.prefix_refl _) (by omega) hT (.inl ⟨hG, rfl, rfl, rfl, rfl, rfl⟩))
  · rename getR _ _ _ _ = _ => hG
    refine Or.inl ?_
    k_steps
    rename Fr h₀ _ _ _ => kF
    rename News h₀ _ _ _ => kN
    rename TupB _ _ => hTB
    rename (∀ p, p ∈ _ → Prod.fst p < _) => hlA
    rename SetW _ _ _ _ _ _ _ _ _ => hW
    rename Named _ _ _ => hn
    rename Book _ _ => hB2
    rename _ <+: _ => hp2
    rename Tab (bytesKind _ _) _ (put _ _ _) => hT2
    rename _ = List.toArray _ => hr
    subst hr
    exact ret _ _ _ [(_, _)] _ _ _ _ _ _ _ _ _ _ _ _ _ _ _ kF kN (fun q hq p hp => by rw [List.mem_singleton.mp hq]; exact hlA p hp) hB2 hp2 (by assumption) hT2 (.inr ⟨_, _, hG, .inr (.inr ⟨by assumption, by assumption, _, _, _, _, _, rfl, rfl, hTB, hW, hn, rfl⟩)⟩)
  · rename RaisedN _ _ _ _ _ _ => R1
    rename Heap.UpToSlots _ _ => U1
    rename getR _ _ _ _ = _ => hG
    rename Fr g' _ _ _ => Fg1
    refine caught_M (T' := "KeyError") rfl Fg1 (above_of FG' F') U1 R1 X T ?ex PyProof.Rows.Boot.«KeyError» ?hn kr_isExc_KeyError kr_notTuple_KeyError (by rw [isSubtype_type]; kernel_rfl) ?_
    case ex => k_is
    case hn => decide
    intro h'' st up nw
    k_steps
    exact Or.inr (ret _ _ _ [] o osd B SD root _ _ _ _ _ _ _ _ _ _ (FG'.of_stays st up) (fun q hq => ⟨(nw q hq).1, (N q hq).2.1, (nw q hq).2⟩) (fun q hq => nomatch hq) hB (List.prefix_refl _) (by omega) hT (.inl ⟨hG, rfl, rfl, rfl, rfl, rfl⟩))
end
end
section
theorem off_88 : True := by
  w_top off
  trivial
/-! ### a loop over a list of ints -/
section
variable {prog : Program} {w : World} {A : Around} {E : Value → Shared → Prop} {s : Shared} {env : Env} {h₀ : Heap} {x : Str} {body : List Stmt} {Q : Flow → Shared → Prop}
theorem iter_list {l : Addr} {o : Obj} {vs : List Value} {ns : List Int} {m₀ : Str → Option Value} {fr₀ rest : Led} (J : (Str → Option Value) → Led → Nat → (Str → Option Value) → Led → Prop)
    (hh : A.handled = none) (hm : (l, o) ∈ rest) (hv : ListV o vs) (hI : IntsAre vs ns) (F : Fr h₀ env.locals s.heap m₀) (N : News h₀ env.locals s.heap (fr₀ ++ rest)) (hoff : OwnOff rest (fr₀.map (·.1))) (j0 : J m₀ fr₀ 0 m₀ fr₀)
    (turn : ∀ (i : Nat) k t m₁ fr rest' h tk, i < ns.length → J m₀ fr₀ i m₁ fr → OwnOff rest' (fr.map (·.1)) → (∀ p ∈ rest, p ∈ rest') → Fr h₀ env.locals h (fun y => if y = x then some (.int k t) else m₁ y) → News h₀ env.locals h (fr ++ rest') →
      wpAny (model prog w) A (execs body env) (TurnPost h₀ env.locals (J m₀ fr₀ (i + 1)) rest' { s with heap := h, toks := tk } Q) E { s with heap := h, toks := tk })
    (done : ∀ m₁ fr h tk, J m₀ fr₀ ns.length m₁ fr → OwnOff rest (fr.map (·.1)) → Fr h₀ env.locals h m₁ → News h₀ env.locals h (fr ++ rest) → Q .next { s with heap := h, toks := tk }) :
    wpAny (model prog w) A (pyIter (.ref l)) (fun it s₂ => LoopAtV prog w A h₀ env x body Q E it s₂) E s := by
  have hL : s.heap.IsList l vs.toArray := ListV.isList N (List.mem_append_right _ hm) hv
  have hlx := N _ (List.mem_append_right _ hm)
  refine wpAny_pyIter_list hL ?_
  have hlt : ∀ p ∈ fr₀ ++ rest, p.1 < s.heap.objs.size := fun p hp => Heap.lt_size (N p hp).1
  have hne : l ≠ s.heap.objs.size := Nat.ne_of_lt (hlt _ (List.mem_append_right _ hm))
  have W := Walks.list (prog := prog) (w := w) (A := A) hh s.heap.objs.size l hne vs.toArray
  rw [show vs.toArray.size = ns.length by rw [List.size_toArray, hI.length]] at W
  refine loop_rule (J m₀ fr₀) W ?_ ?_ ?_ ?_ (F.push _) (fun p hp => ⟨Heap.get?_push_of_some _ (N p hp).1, (N p hp).2⟩) ?_ ?_ hoff j0 ?_ done
  · intro hmm
    rcases List.mem_cons.mp hmm with e | hmm
    · exact absurd F.ns.lt (e ▸ Nat.lt_irrefl _)
    · exact hlx.2.1 (List.mem_singleton.mp hmm).symm
  · intro b hb; rw [List.mem_singleton.mp hb]; exact next_is_new F
  · rintro i h ⟨⟨oi, hi, _⟩, ⟨od, hod, _⟩⟩ b hb
    rcases List.mem_cons.mp hb with rfl | hb
    · exact ⟨_, hi⟩
    · rw [List.mem_singleton.mp hb]; exact ⟨_, hod⟩
  · exact ⟨⟨_, Heap.get?_push_size _ rfl, rfl, rfl⟩, hL.push _⟩
  · intro p hp hb
    exact absurd (hlt p (List.mem_append_right _ hp)) ((List.mem_singleton.mp hb) ▸ Nat.lt_irrefl _)
  · intro p hp hb
    rcases List.mem_cons.mp hb with e | hb
    · exact absurd (hlt p (List.mem_append_left _ hp)) (e ▸ Nat.lt_irrefl _)
    · exact hoff _ hm _ (List.mem_map_of_mem hp) (List.mem_singleton.mp hb).symm
  · rintro i v m₁ fr rest' h tk hi hv1 hJ ho hs F₁ N₁
    rw [List.getElem?_toArray] at hv1
    obtain ⟨t, e⟩ := Mine.IntsAre.item hI hi
    rw [hv1] at e
    obtain rfl := Option.some.inj e
    exact turn i _ t m₁ fr rest' h tk hi hJ ho hs F₁ N₁
end
/-! ### the dict of the law -/
def HeldOk (span : Int) (HD : List (Int × By)) : Prop := ∀ p ∈ HD, (0 ≤ p.1 ∧ p.1 < span) ∧ p.2 ≠ [] ∧ p.2.length ≤ 300
theorem HeldOk.put {span k : Int} {x : By} {HD : List (Int × By)} (h : HeldOk span HD) (k0 : 0 ≤ k) (k1 : k < span) (x0 : x ≠ []) (x1 : x.length ≤ 300) : HeldOk span (Mine.put HD k x) := fun p hp => by
  rcases mem_put hp with hp | rfl
  · exact h p hp
  · exact ⟨⟨k0, k1⟩, x0, x1⟩
def HeldJ (prog : Program) (w : World) (span : Int) (m₀ : Str → Option Value) (fr₀ : Led) (i : Nat) (m : Str → Option Value) (fr : Led) : Prop :=
  ∃ u he oh₀ oh HD, m = ovr [(Str.ofString "number", u)] m₀ ∧ [(he, oh₀)] = fr₀ ∧ fr = [(he, oh)] ∧ Tab (intKind prog w) oh HD ∧ HD.length ≤ i ∧ HeldOk span HD
theorem ne_of_all {news : Led} {D b : Addr} {o : Obj} (h : ∀ q ∈ news, @LT.lt Nat _ q.1 D) (hm : (b, o) ∈ news) : D ≠ b := Nat.ne_of_gt (h _ hm)
end
local macro_rules | `(tactic| walk_at "call type:bytes") => `(tactic| (k_here; (with_reducible show wpAny _ _ (call (Value.type _) [Value.ref _]) _ _ _); k_dflt (refine' my_bytes1 ?h ?F ?N ?m ?v ?a ?b ?_; (case h => exact rfl); (case F => k_asm); (case N => k_asm); (case m => ktr_rel); (case v => assumption); (case a => first | omega | exact Int.fmod_nonneg_of_pos _ (by decide)); (case b => first | omega | exact Int.fmod_lt_of_pos _ (by decide)); intro b' h' t' k' hz' F' N')))
local macro_rules | `(tactic| walk_at "binaryOp Add bytes bytes") => `(tactic| (k_here; k_dflt (refine' my_addB ?z ?_; (case z => (simp only [List.size_toArray, List.length_cons, List.length_nil]; omega)); intro t' k')))
local macro_rules | `(tactic| walk_at "call ref") => `(tactic| ((first | (show wpAny _ _ (call (Value.ref 172) _) _ _ _) | (show wpAny _ _ (call (Value.ref 179) _) _ _ _) | (show wpAny _ _ (call (Value.ref 186) _) _ _ _) | (show wpAny _ _ (call (Value.ref 200) _) _ _ _) | (show wpAny _ _ (call (Value.ref 229) _) _ _ _)); refine Stop.of ?_))
local macro_rules | `(tactic| walk_at "exec For Name Subscript cons nil") => `(tactic| (k_here; (rename Fr _ _ _ _ => lF'); (with_unfolding_all refine' For_invVF lF' ?k1 ?k2 ?_ (hE := ?hE); (case k1 => exact rfl); (case k2 => exact rfl); (case hE => assumption); k_whole)))
local macro_rules | `(tactic| k_ne) => `(tactic| (rename (∀ q, q ∈ _ → Prod.fst q < _) => hne9; exact ne_of_all hne9 (by ktr_rel)))
section
theorem off_89 : True := by
  w_top off
  trivial
/-! ### the law -/
def lawDef : Stmt := nthS 23 PySem.Challenge.pw_ad6017_01.main.body
def lawBody : List Stmt := fdBody lawDef
def lawScope : Scope := fdScope lawDef
theorem News.rot3 {h₀ h : Heap} {L : Addr} {a b c : Addr × Obj} (N : News h₀ L h [a, b, c]) : News h₀ L h (c :: [a, b]) := fun p hp => N p (by simp only [List.mem_cons, List.not_mem_nil, or_false] at hp ⊢; rcases hp with h | h | h <;> simp [h])
theorem News.law1 {h₀ h : Heap} {L : Addr} {a b c : Addr × Obj} {news : Led} (N : News h₀ L h (a :: (news ++ [b, c]))) : News h₀ L h (b :: (a :: (news ++ [c]))) := fun p hp => N p (by simp only [List.mem_cons, List.mem_append, List.not_mem_nil, or_false] at hp ⊢; rcases hp with h | h | h | h <;> simp [h])
section
variable {prog : Program} {w : World} {p : Program} {loose : List Str} {mean : ExcName → Option Value} {mg mb m0 : Str → Option Value} {h₀ : Heap} {L fa sa : Addr} {cd : Value} {s : Shared} {Q : Flow → Shared → Prop} {E : Value → Shared → Prop}
theorem law_1 {x : Int} {t : Tok} (Bl : Below callerA h₀ [] h₀) (X : (hd.heap_39 w.params).In h₀) (T : Top p loose mean mg mb h₀) (hPO : PassesOwn (model prog w) (callerA.deeper (envOf (Str.ofString "law") lawScope L fa cd)) (envOf (Str.ofString "law") lawScope L fa cd) E) (F : Fr h₀ L s.heap (ovr [(Str.ofString "first", some (.int x t)), (Str.ofString "script", some (.ref sa))] m0))
    (hcd : CodeHd h₀ 171 167) (h167 : 167 < h₀.objs.size) (N : News h₀ L s.heap [(167, tabObj #[])])
    (next : ∀ h' tk' size depth span t1 t2 t3 t4 f bk o df ps R0, Fr h₀ L h' (ovr [(Str.ofString "hash_of", some (.ref f)), (Str.ofString "default", some (.bytes df t4)), (Str.ofString "span", some (.int span t3)), (Str.ofString "depth", some (.int depth t2)), (Str.ofString "size", some (.int size t1)), (Str.ofString "first", some (.int x t)), (Str.ofString "script", some (.ref sa))] m0) →
      News h₀ L h' ((bk, o) :: R0) → OwnOff R0 [bk] → HashFn R0 f bk → (167, tabObj ps) ∈ R0 → Tab (bytesKind prog w) o [] → (bk == sysModules) = false → 1 ≤ size → size ≤ 2 → depth = 8 * size → span = 256 ^ size.toNat → df.size = 1 →
      wpAny (model prog w) (callerA.deeper (envOf (Str.ofString "law") lawScope L fa cd)) (execs (List.drop 6 lawBody) (envOf (Str.ofString "law") lawScope L fa cd)) Q E { s with heap := h', toks := tk' }) :
    wpAny (model prog w) (callerA.deeper (envOf (Str.ofString "law") lawScope L fa cd)) (execs (List.drop 1 lawBody) (envOf (Str.ofString "law") lawScope L fa cd)) Q E s := by
  conv in (List.drop 1 lawBody) => whnf
  repeat (conv in lawScope => whnf)
  k_steps
  rename Fr h₀ _ _ _ => kF
  rename News h₀ _ _ _ => kN
  rename (∀ p, p ∈ _ → Prod.fst p < _) => hl2
  have b2 : @LT.lt Nat _ _ _ := hl2 _ (.head _)
  clear hl2
  rename (∀ p, p ∈ _ → Prod.fst p < _) => hl1
  have b1 : @LT.lt Nat _ 167 _ := hl1 _ (.head _)
  clear hl1
  rename Tab (bytesKind _ _) _ [] => hTB
  rename (_ == sysModules) = false => hlo
  rename Array.size _ = 1 => hz1
  rename 0 ≤ Int.fmod _ 2 => hlo0
  rename Int.fmod _ 2 < 2 => hhi0
  dsimp only at b1 b2
  refine Stop.get ?_
  have kN' := News.rot3 kN
  refine' hashfn_call ?k1 ?k2 ?k3 ?k4 ?k5 ?k6 ?k7 ?k8 kN' ?ka ?ret
  case k1 => exact Bl
  case k2 => exact kF
  case k3 => exact X
  case k4 => exact T
  case k5 => exact rfl
  case k6 => decide
  case k7 => decide
  case k8 => exact hcd
  case ka =>
    refine offs fun p hp b hb => ?_
    rw [List.mem_singleton.mp hb]
    simp only [List.mem_cons, List.not_mem_nil, or_false] at hp
    rcases hp with rfl | rfl
    · exact Nat.ne_of_gt (Nat.lt_trans b1 b2)
    · exact Nat.ne_of_gt b1
  intro h2 tk2 f ps news' kF2 kN2 hH hlt
  (try dsimp only)
  walk1
  (try dsimp only)
  rename Fr h₀ _ _ _ => kF3
  rename News h₀ _ _ _ => kN3
  have kN4 := News.law1 kN3
  refine next _ _ _ _ _ _ _ _ _ f _ _ _ ps _ kF3 kN4 ?_ (hH.mono fun p hp => .tail _ (List.mem_append_left _ hp)) (.head _) hTB hlo (by omega) (by omega) rfl rfl hz1
  · refine offs fun p hp b hb => ?_
    rw [List.mem_singleton.mp hb]
    simp only [List.mem_cons, List.mem_append, List.not_mem_nil, or_false] at hp
    rcases hp with rfl | hp | rfl
    · exact Nat.ne_of_lt (Nat.lt_trans b1 b2)
    · exact Nat.ne_of_gt ((hlt p hp).2 _ (.head _))
    · exact Nat.ne_of_lt b2
end
end
section
local macro_rules | `(tactic| walk_at "no such key 90") => `(tactic| fail)
theorem off_91 : True := by
  w_top off
  trivial
theorem Tab.dict {prog : Program} {w : World} {K : Type} [DecidableEq K] {knd : KeyKind prog w K} {o : Obj} {D : List (K × By)} (T : Tab knd o D) : ∃ es n, o.data = .dict es n := by
  obtain ⟨kvs, ⟨es, ep, _, h, _⟩, _⟩ := T
  exact ⟨es, ep, h⟩
theorem News.swap2 {h₀ h : Heap} {L : Addr} {a b : Addr × Obj} {r : Led} (N : News h₀ L h (a :: b :: r)) : News h₀ L h ([b] ++ (a :: r)) := fun p hp => N p (by simp only [List.cons_append, List.nil_append, List.mem_cons] at hp ⊢; rcases hp with h | h | h <;> simp [h])
section
variable {prog : Program} {w : World} {p : Program} {loose : List Str} {mean : ExcName → Option Value} {mg mb m0 : Str → Option Value} {h₀ : Heap} {L fa sa : Addr} {cd : Value} {s : Shared} {Q : Flow → Shared → Prop} {E : Value → Shared → Prop}
theorem law_2 {x size depth span : Int} {t t1 t2 t3 t4 : Tok} {f bk : Addr} {o : Obj} {df : Array UInt8} {R0 : Led} {vs : List Value} {ns : List Int} (Bl : Below callerA h₀ [] h₀) (X : (hd.heap_39 w.params).In h₀) (T : Top p loose mean mg mb h₀) (hPO : PassesOwn (model prog w) (callerA.deeper (envOf (Str.ofString "law") lawScope L fa cd)) (envOf (Str.ofString "law") lawScope L fa cd) E)
    (F : Fr h₀ L s.heap (ovr [(Str.ofString "hash_of", some (.ref f)), (Str.ofString "default", some (.bytes df t4)), (Str.ofString "span", some (.int span t3)), (Str.ofString "depth", some (.int depth t2)), (Str.ofString "size", some (.int size t1)), (Str.ofString "first", some (.int x t)), (Str.ofString "script", some (.ref sa))] m0))
    (N : News h₀ L s.heap ((bk, o) :: R0)) (hoff : OwnOff R0 [bk]) (hH : HashFn R0 f bk) (hT : Tab (bytesKind prog w) o []) (hlo : (bk == sysModules) = false) (hs0 : 1 ≤ size) (hs1 : size ≤ 2) (hdep : depth = 8 * size) (hspan : span = 256 ^ size.toNat) (hdf : df.size = 1)
    (hS : h₀.IsList sa vs.toArray) (hI : IntsAre vs ns) (hn : ns.length ≤ 63)
    (next : ∀ h' tk' le ol he oh o' B es HD u, Fr h₀ L h' (ovr [(Str.ofString "number", u), (Str.ofString "held", some (.ref he)), (Str.ofString "empty", some (.ref le)), (Str.ofString "hash_of", some (.ref f)), (Str.ofString "default", some (.bytes df t4)), (Str.ofString "span", some (.int span t3)), (Str.ofString "depth", some (.int depth t2)), (Str.ofString "size", some (.int size t1)), (Str.ofString "first", some (.int x t)), (Str.ofString "script", some (.ref sa))] m0) →
      News h₀ L h' ((he, oh) :: (bk, o') :: (le, ol) :: R0) → @LT.lt Nat _ le he → @LT.lt Nat _ bk le → (∀ p ∈ R0, @LT.lt Nat _ p.1 le) → Book (prog := prog) (w := w) o' B → B.length ≤ 300 → ListB ol es → es.length = depth.toNat + 1 → Emp B df.toList es → Tab (intKind prog w) oh HD → HD.length ≤ 3 → (he == sysModules) = false →
      HeldOk span HD →
      wpAny (model prog w) (callerA.deeper (envOf (Str.ofString "law") lawScope L fa cd)) (execs (List.drop 9 lawBody) (envOf (Str.ofString "law") lawScope L fa cd)) Q E { s with heap := h', toks := tk' }) :
    wpAny (model prog w) (callerA.deeper (envOf (Str.ofString "law") lawScope L fa cd)) (execs (List.drop 6 lawBody) (envOf (Str.ofString "law") lawScope L fa cd)) Q E s := by
  conv in (List.drop 6 lawBody) => whnf
  repeat (conv in lawScope => whnf)
  have hB : Book (prog := prog) (w := w) o [] := ⟨hT, .nil⟩
  k_steps
  rename Fr h₀ _ _ _ => kF
  rename News h₀ _ _ _ => kN
  refine Stop.get ?_
  refine' empties_call ?k1 ?k2 ?k3 ?k4 ?k5 ?k6 ?k7 kN ?k8 ?k9 ?ka ?kb ?kc ?kd ?ke ?ret
  case k1 => exact Bl
  case k2 => exact kF
  case k3 => exact X
  case k4 => exact T
  case k5 => exact rfl
  case k6 => decide
  case k7 => decide
  case k8 => exact hoff
  case k9 => exact hH
  case ka => exact hB
  case kb => decide
  case kc => exact hlo
  case kd => omega
  case ke => omega
  intro h2 tk2 le ol o' B es kF2 kN2 hl1 hl2 hB2 hp2 hBl hol hel hE
  have hsp0 : 0 < span := by rw [hspan]; exact Int.pow_pos (by decide)
  clear hlo
  k_steps
  rename Fr h₀ _ _ _ => kF3
  rename News h₀ _ _ _ => kN3
  rename Tab (intKind _ _) _ [] => hTI
  rename (_ == sysModules) = false => hhlo
  rename (∀ p, p ∈ (le, ol) :: _ → Prod.fst p < _) => hlt3
  rename IntsAre _ (List.take _ _) => hI'
  rename List.length (List.take _ _) = _ => hC'
  refine Stop.get (iter_list (fr₀ := [(_, _)]) (rest := (_, _) :: (le, ol) :: (bk, o') :: R0) (HeldJ prog w span) rfl (.head _) ⟨_, rfl⟩ hI' kF3 (News.swap2 kN3) ?off ?j0 ?turn ?done)
  case off =>
    refine offs fun p hp b hb => ?_
    rw [List.mem_singleton.mp hb]
    rcases List.mem_cons.mp hp with rfl | hp
    · obtain ⟨es', ep', hdd⟩ := Tab.dict hTI
      exact apart kN3 (.head _) (.tail _ (.head _)) (by rw [hdd]; nofun)
    · exact Nat.ne_of_lt (hlt3 p hp)
  case j0 => exact ⟨_, _, _, _, [], ovr_of [Str.ofString "number"] (fun _ _ => rfl), rfl, rfl, hTI, Nat.le_refl _, fun p hp => nomatch hp⟩
  case turn =>
    rintro i k tk1 m₁ fr rest' h tk hi ⟨u, he, oh₀, oh, HD, rfl, e0, rfl, hTD, hDl, hok⟩ ho hs F₁ N₁
    simp only [List.cons.injEq, Prod.mk.injEq, and_true, true_and] at e0
    obtain ⟨rfl, rfl⟩ := e0
    simp only [List.map_cons, List.map_nil] at ho
    simp only [List.cons_append, List.nil_append] at N₁
    have hi3 : i < 4 := by omega
    clear kF3 kN3
    k_steps
    rename Tab (intKind _ _) _ (put _ _ _) => hT2
    refine ⟨_, _, _, _, _, rfl, by assumption, by assumption, ?a, ?b, ?c, _, _, _, _, _, ovr_of [Str.ofString "number"] ?d, rfl, rfl, hT2, Nat.le_trans (put_length_le _ _ _) (by omega), hok.put (Int.fmod_nonneg_of_pos _ hsp0) (Int.fmod_lt_of_pos _ hsp0) (by simp) (by simp; omega)⟩
    case a => exact fun p hp => .tail _ (List.mem_append_left rest' hp)
    case b => exact fun p hp => .tail _ (List.mem_append_right [_] hp)
    case c => exact ho
    case d =>
      intro z hz
      simp only [List.mem_cons, List.not_mem_nil, or_false] at hz
      simp only [ovr, hz, if_false]
  case done =>
    rintro m₁ fr h tk ⟨u, he, oh₀, oh, HD, rfl, e0, rfl, hTD, hDl, hok⟩ ho F₁ N₁
    simp only [List.cons.injEq, Prod.mk.injEq, and_true, true_and] at e0
    obtain ⟨rfl, rfl⟩ := e0
    simp only [List.cons_append, List.nil_append] at N₁
    refine next _ _ le ol he oh o' B es HD u F₁ (fun p hp => N₁ p ?_) (hlt3 _ (.head _)) hl1 hl2 hB2 (by simp at hBl; omega) hol hel hE hTD (by omega) hhlo hok
    simp only [List.mem_cons] at hp ⊢
    rcases hp with h | h | h | h <;> simp [h]
end
end
section
theorem off_92 : True := by
  w_top off
  trivial
theorem cut_execS {M : Model} {A : Around} {st : Stmt} {rest : List Stmt} {env : Env} {Q : Flow → Shared → Prop} {E : Value → Shared → Prop} {s : Shared} (P : Shared → Prop) (h1 : wpAny M A (exec st env) (fun f s' => Stop (f = .next ∧ P s')) E s) (h2 : ∀ s', P s' → wpAny M A (execs rest env) Q E s') : wpAny M A (execs (st :: rest) env) Q E s := cut_exec P h1 h2
section
variable {prog : Program} {w : World} {p : Program} {loose : List Str} {mean : ExcName → Option Value} {mg mb m0 : Str → Option Value} {h₀ : Heap} {L fa sa : Addr} {cd : Value} {s : Shared} {Q : Flow → Shared → Prop} {E : Value → Shared → Prop}
theorem law_3a {x size depth span : Int} {t t1 t2 t3 t4 : Tok} {f le he : Addr} {df : Array UInt8} {u : Option Value} {news : Led} {vs : List Value} {ns : List Int} (Bl : Below callerA h₀ [] h₀) (X : (hd.heap_39 w.params).In h₀) (T : Top p loose mean mg mb h₀) (hPO : PassesOwn (model prog w) (callerA.deeper (envOf (Str.ofString "law") lawScope L fa cd)) (envOf (Str.ofString "law") lawScope L fa cd) E)
    (F : Fr h₀ L s.heap (ovr [(Str.ofString "number", u), (Str.ofString "held", some (.ref he)), (Str.ofString "empty", some (.ref le)), (Str.ofString "hash_of", some (.ref f)), (Str.ofString "default", some (.bytes df t4)), (Str.ofString "span", some (.int span t3)), (Str.ofString "depth", some (.int depth t2)), (Str.ofString "size", some (.int size t1)), (Str.ofString "first", some (.int x t)), (Str.ofString "script", some (.ref sa))] m0))
    (N : News h₀ L s.heap news) (hsp0 : 0 < span) (hS : h₀.IsList sa vs.toArray) (hI : IntsAre vs ns) (hn : ns.length ≤ 63)
    (next : ∀ h' tk' way t5, Fr h₀ L h' (ovr [(Str.ofString "way", some (.int way t5)), (Str.ofString "number", u), (Str.ofString "held", some (.ref he)), (Str.ofString "empty", some (.ref le)), (Str.ofString "hash_of", some (.ref f)), (Str.ofString "default", some (.bytes df t4)), (Str.ofString "span", some (.int span t3)), (Str.ofString "depth", some (.int depth t2)), (Str.ofString "size", some (.int size t1)), (Str.ofString "first", some (.int x t)), (Str.ofString "script", some (.ref sa))] m0) →
      News h₀ L h' news → 0 ≤ way → way < span → 
      wpAny (model prog w) (callerA.deeper (envOf (Str.ofString "law") lawScope L fa cd)) (execs (List.drop 10 lawBody) (envOf (Str.ofString "law") lawScope L fa cd)) Q E { s with heap := h', toks := tk' }) :
    wpAny (model prog w) (callerA.deeper (envOf (Str.ofString "law") lawScope L fa cd)) (execs (List.drop 9 lawBody) (envOf (Str.ofString "law") lawScope L fa cd)) Q E s := by
  conv in (List.drop 9 lawBody) => whnf
  repeat (conv in lawScope => whnf)
  refine cut_execS (fun s' => ∃ h' tk' way t5, s' = { s with heap := h', toks := tk' } ∧ Fr h₀ L h' (ovr [(Str.ofString "way", some (.int way t5)), (Str.ofString "number", u), (Str.ofString "held", some (.ref he)), (Str.ofString "empty", some (.ref le)), (Str.ofString "hash_of", some (.ref f)), (Str.ofString "default", some (.bytes df t4)), (Str.ofString "span", some (.int span t3)), (Str.ofString "depth", some (.int depth t2)), (Str.ofString "size", some (.int size t1)), (Str.ofString "first", some (.int x t)), (Str.ofString "script", some (.ref sa))] m0) ∧ News h₀ L h' news ∧ 0 ≤ way ∧ way < span) ?_ ?_
  · k_steps
    · rename Fr h₀ _ _ _ => kF
      rename News h₀ _ _ _ => kN
      exact Stop.get ⟨trivial, _, _, _, _, rfl, kF, kN, Int.fmod_nonneg_of_pos _ hsp0, Int.fmod_lt_of_pos _ hsp0⟩
    · rename Fr h₀ _ _ _ => kF
      rename News h₀ _ _ _ => kN
      exact Stop.get ⟨trivial, _, _, _, _, rfl, kF, kN, Int.le_refl _, hsp0⟩
  · rintro s' ⟨h', tk', way, t5, rfl, F', N', w0, w1⟩
    exact next h' tk' way t5 F' N' w0 w1
end
end
local macro_rules | `(tactic| walk_at "call ref") => `(tactic| (k_here; (with_reducible show wpAny _ _ (call (Value.ref _) [Value.ref _, Value.bytes _ _]) _ _ _); k_dflt (first
  | (refine' tget_call ?k1 ?k2 ?k3 ?k4 ?k5 ?k6 ?k7 ?N ?x ?d ?sd ?T ?lo ?kz ?s0 ?s1 ?SD ?ne ?rz (fun h' tk' v t bl F' N' hG => ?_) (fun e g h' tk' Fg R U hG => ?_); (case k1 => k_asm); (case k2 => k_asm); (case k3 => k_asm); (case k4 => k_asm); (case k5 => first | exact rfl | assumption); (case k6 => ktr_unf); (case k7 => ktr_unf); (case N => k_asm); (case x => ktr_rel); (case d => ktr_rel); (case sd => ktr_rel); (case T => assumption); (case lo => assumption); (case kz => assumption); (case s0 => assumption); (case s1 => assumption); (case SD => assumption); (case ne => assumption); (case rz => assumption))
  | (refine' tbranch_call ?k1 ?k2 ?k3 ?k4 ?k5 ?k6 ?k7 ?N ?x ?d ?sd ?T ?lo ?kz ?s0 ?s1 ?SD ?ne ?rz (fun h' tk' br ob v bl F' N' hlA hTB hG => ?_) (fun e g h' tk' Fg R U hG => ?_); (case k1 => k_asm); (case k2 => k_asm); (case k3 => k_asm); (case k4 => k_asm); (case k5 => first | exact rfl | assumption); (case k6 => ktr_unf); (case k7 => ktr_unf); (case N => k_asm); (case x => ktr_rel); (case d => ktr_rel); (case sd => ktr_rel); (case T => assumption); (case lo => assumption); (case kz => assumption); (case s0 => assumption); (case s1 => assumption); (case SD => assumption); (case ne => assumption); (case rz => assumption))
  | (refine' delete_call ?k1 ?k2 ?k3 ?k4 ?k5 ?k6 ?k7 ?N ?o ?n1 ?n2 ?n3 ?x ?f ?B ?len ?blo ?T ?Sz ?lo ?kz ?s0 ?s1 ?vz ?SD ?rz (fun h' tk' r orr o' osd' B' root' node n ns SD1 v bl v0 v1 v2 v3 v4 v5 v6 v7 v8 v9 F' N' hlA hB' hp' hl' hG hW hn hr hT' hTB => ?_) (fun e g h' tk' Fg R U hG => ?_); (case k1 => k_asm); (case k2 => k_asm); (case k3 => k_asm); (case k4 => k_asm); (case k5 => first | exact rfl | assumption); (case k6 => ktr_unf); (case k7 => ktr_unf); (case N => k_asm); (case o => assumption); (case n1 => assumption); (case n2 => assumption); (case n3 => assumption); (case x => assumption); (case f => assumption); (case B => assumption); (case len => assumption); (case blo => assumption); (case T => assumption); (case Sz => assumption); (case lo => assumption); (case kz => assumption); (case s0 => assumption); (case s1 => assumption); (case vz => assumption); (case SD => assumption); (case rz => assumption)))))
local macro_rules | `(tactic| walk_at "call type:dict") => `(tactic| (k_here; (with_reducible show wpAny _ _ (call (Value.type _) [Value.ref _]) _ _ _); k_dflt (refine' my_copyD (knd := bytesKind _ _) ?F ?N ?T ?m ?Td ?lo ?z ?_; (case F => k_asm); (case N => k_asm); (case T => k_asm); (case m => ktr_rel); (case Td => assumption); (case lo => assumption); (case z => first | assumption | omega); intro e' o' h' F' N' hl' lo' hT')))
local macro_rules | `(tactic| walk_at "call ref") => `(tactic| (k_here; (with_reducible show wpAny _ _ (call (Value.ref _) [Value.ref _, Value.ref _, Value.int _ _, Value.int _ _]) _ _ _); k_dflt (first
  | (refine' side_call ?k1 ?k2 ?k3 ?k5 ?k6 ?k7 ?k8 ?k4 ?k9 ?ka ?kb ?kc ?kd ?ke ?_; (case k1 => k_asm); (case k2 => k_asm); (case k3 => k_asm); (case k4 => k_asm); (case k5 => k_asm); (case k6 => first | exact rfl | assumption); (case k7 => ktr_unf); (case k8 => ktr_unf); (case k9 => tb_rel); (case ka => assumption); (case kb => omega); (case kc => omega); (case kd => omega); (case ke => assumption); intro h' tk' r' o' F' N' hT' hl')
  | (refine' way_call ?k1 ?k2 ?k3 ?k5 ?k6 ?k7 ?k8 ?k4 ?k9 ?ka ?kb ?kc ?kd ?ke ?_; (case k1 => k_asm); (case k2 => k_asm); (case k3 => k_asm); (case k4 => k_asm); (case k5 => k_asm); (case k6 => first | exact rfl | assumption); (case k7 => ktr_unf); (case k8 => ktr_unf); (case k9 => tb_rel); (case ka => assumption); (case kb => omega); (case kc => omega); (case kd => omega); (case ke => assumption); intro h' tk' r' o' F' N' hT' hl')
  | (refine' name_call ?k1 ?k2 ?k3 ?k5 ?k6 ?k7 ?k8 ?k4 ?k9 ?ka ?kb ?_; (case k1 => k_asm); (case k2 => k_asm); (case k3 => k_asm); (case k4 => k_asm); (case k5 => k_asm); (case k6 => first | exact rfl | assumption); (case k7 => ktr_unf); (case k8 => ktr_unf); (case k9 => tb_rel); (case ka => omega); (case kb => omega); intro h' tk' t' F' N'))))
local macro_rules | `(tactic| walk_at "compareOp NotEq ref ref") => `(tactic| (k_here; k_dflt (first
  | (refine' my_neT ?N ?a ?b ?Ta ?Tb ?hu ?_; (case N => k_asm); (case a => ktr_rel); (case b => ktr_rel); (case Ta => assumption); (case Tb => assumption); (case hu => ktr_unf))
  | (refine' my_neD (knd := bytesKind _ _) ?N ?a ?b ?Ta ?Tb ?la ?lb ?hu (fun c' hc' => ?_); (case N => k_asm); (case a => ktr_rel); (case b => ktr_rel); (case Ta => assumption); (case Tb => assumption); (case la => assumption); (case lb => assumption); (case hu => ktr_unf)))))
local macro_rules | `(tactic| ktr_unf) => `(tactic| first | decide | (dsimp only [Around.deeper, callerA]; decide))
local macro_rules | `(tactic| walk_at "callWith ref") => `(tactic| (k_here; k_dflt (refine' callWith_MKW ?k1 ?k2 ?k3 ?k4 ?k5 ?_; (case k1 => k_asm); (case k2 => k_asm); (case k3 => k_mem); (case k4 => k_is); (case k5 => exact rfl); k_whole)))
local macro_rules | `(tactic| walk_at "call ref") => `(tactic| ((with_reducible show wpAny _ _ (call (Value.ref _) [Value.ref _, Value.bytes _ _, Value.ref _] _) _ _ _); refine Stop.of ?_))
section
theorem off_93 : True := by
  w_top off
  trivial
theorem nm_len {Ds : List (List (Int × By))} {es : List By} (h1 : ∀ x ∈ es, x.length = 32) (h2 : ∀ D ∈ Ds, Len32 D) (h : Nat) (p : Int) : (nm Ds es h p).length ≤ 32 := by
  have a1 : (es.getD h []).length ≤ 32 := by
    rw [List.getD_eq_getElem?_getD]
    cases q : es[h]? with
    | none => simp
    | some x => have := h1 x (List.mem_of_getElem? q); simp [this]
  unfold nm gd
  rw [List.getD_eq_getElem?_getD]
  cases q : Ds[h]? with
  | none => simpa [get] using a1
  | some D =>
    show ((get D p).getD _).length ≤ 32
    cases r : get D p with
    | none => exact a1
    | some x => exact Nat.le_of_eq (h2 D (List.mem_of_getElem? q) p x r)
section
variable {prog : Program} {w : World} {p : Program} {loose : List Str} {mean : ExcName → Option Value} {mg mb m0 : Str → Option Value} {h₀ : Heap} {L fa sa : Addr} {cd : Value} {s : Shared} {Q : Flow → Shared → Prop} {E : Value → Shared → Prop}
theorem law_3b {x size depth span way : Int} {t t1 t2 t3 t4 t5 : Tok} {f le he bk : Addr} {o oh ol : Obj} {df : Array UInt8} {u : Option Value} {R0 : Led} {B : List By} {HD : List (Int × By)} {es : List By} (Bl : Below callerA h₀ [] h₀) (X : (hd.heap_39 w.params).In h₀) (T : Top p loose mean mg mb h₀) (hPO : PassesOwn (model prog w) (callerA.deeper (envOf (Str.ofString "law") lawScope L fa cd)) (envOf (Str.ofString "law") lawScope L fa cd) E)
    (F : Fr h₀ L s.heap (ovr [(Str.ofString "way", some (.int way t5)), (Str.ofString "number", u), (Str.ofString "held", some (.ref he)), (Str.ofString "empty", some (.ref le)), (Str.ofString "hash_of", some (.ref f)), (Str.ofString "default", some (.bytes df t4)), (Str.ofString "span", some (.int span t3)), (Str.ofString "depth", some (.int depth t2)), (Str.ofString "size", some (.int size t1)), (Str.ofString "first", some (.int x t)), (Str.ofString "script", some (.ref sa))] m0))
    (N : News h₀ L s.heap ((he, oh) :: (bk, o) :: (le, ol) :: R0)) (hl0 : @LT.lt Nat _ le he) (hl1 : @LT.lt Nat _ bk le) (hl2 : ∀ p ∈ R0, @LT.lt Nat _ p.1 le) (hoff : OwnOff R0 [bk]) (hH : HashFn R0 f bk)
    (hB : Book (prog := prog) (w := w) o B) (hBl : B.length ≤ 300) (hol : ListB ol es) (hel : es.length = depth.toNat + 1) (hE : Emp B df.toList es) (hT : Tab (intKind prog w) oh HD) (hHl : HD.length ≤ 3) (hhlo : (he == sysModules) = false) (hblo : (bk == sysModules) = false) (hok : HeldOk span HD)
    (hs0 : 1 ≤ size) (hs1 : size ≤ 2) (hdep : depth = 8 * size) (hsp : span ≤ 65536) (hdf : df.size = 1) (hw0 : 0 ≤ way) (hw1 : way < span)
    (next : ∀ h' tk' ll oll o2 B2 lvs Ds kn ok t6, Fr h₀ L h' (ovr [(Str.ofString "known", some (.ref kn)), (Str.ofString "root", some (.bytes (nm Ds es depth.toNat 0).toArray t6)), (Str.ofString "levels", some (.ref ll)), (Str.ofString "way", some (.int way t5)), (Str.ofString "number", u), (Str.ofString "held", some (.ref he)), (Str.ofString "empty", some (.ref le)), (Str.ofString "hash_of", some (.ref f)), (Str.ofString "default", some (.bytes df t4)), (Str.ofString "span", some (.int span t3)), (Str.ofString "depth", some (.int depth t2)), (Str.ofString "size", some (.int size t1)), (Str.ofString "first", some (.int x t)), (Str.ofString "script", some (.ref sa))] m0) →
      News h₀ L h' ((kn, ok) :: (bk, o2) :: (ll, oll) :: (lvs ++ (he, oh) :: (le, ol) :: R0)) → (∀ p ∈ (bk, o2) :: (ll, oll) :: (lvs ++ (he, oh) :: (le, ol) :: R0), @LT.lt Nat _ p.1 kn) → @LT.lt Nat _ bk ll → (∀ p ∈ (he, oh) :: (le, ol) :: R0, @LT.lt Nat _ p.1 ll) → (∀ p ∈ lvs, (∀ q ∈ (he, oh) :: (le, ol) :: R0, @LT.lt Nat _ q.1 p.1) ∧ @LT.lt Nat _ bk p.1 ∧ p.1 ≠ ll) →
      Book (prog := prog) (w := w) o2 B2 → B <+: B2 → B2.length ≤ 600 → ListV oll (lvs.map fun p => .ref p.1) → LevT prog w lvs Ds → lvs.length = depth.toNat + 1 → Levels B2 HD es Ds → Tab (bytesKind prog w) ok (layD (nm Ds es) (gd HD way df.toList) way [] depth.toNat) → (kn == sysModules) = false →
      wpAny (model prog w) (callerA.deeper (envOf (Str.ofString "law") lawScope L fa cd)) (execs (List.drop 14 lawBody) (envOf (Str.ofString "law") lawScope L fa cd)) Q E { s with heap := h', toks := tk' }) :
    wpAny (model prog w) (callerA.deeper (envOf (Str.ofString "law") lawScope L fa cd)) (execs (List.drop 10 lawBody) (envOf (Str.ofString "law") lawScope L fa cd)) Q E s := by
  conv in (List.drop 10 lawBody) => whnf
  repeat (conv in lawScope => whnf)
  k_steps
  rename Fr h₀ _ _ _ => kF
  rename News h₀ _ _ _ => kN
  refine Stop.get ?_
  have kN1 : News h₀ L _ ((bk, o) :: (he, oh) :: (le, ol) :: R0) := fun p hp => kN p (by simp only [List.mem_cons] at hp ⊢; rcases hp with h | h | h | h <;> simp [h])
  refine' levels_call ?k1 ?k2 ?k3 ?k4 ?k5 ?k6 ?k7 kN1 ?k8 ?k9 hB ?ka hblo ?kb ?kc (.head _) hT hhlo ?kd (.tail _ (.head _)) hol hel hE.len ?ret
  case k1 => exact Bl
  case k2 => exact kF
  case k3 => exact X
  case k4 => exact T
  case k5 => exact rfl
  case k6 => decide
  case k7 => decide
  case k8 =>
    refine offs fun p hp b hb => ?_
    rw [List.mem_singleton.mp hb]
    rcases List.mem_cons.mp hp with rfl | hp
    · exact Nat.ne_of_gt (Nat.lt_trans hl1 hl0)
    rcases List.mem_cons.mp hp with rfl | hp
    · exact Nat.ne_of_gt hl1
    · exact hoff p hp _ (.head _)
  case k9 => exact hH.mono fun p hp => .tail _ (.tail _ hp)
  case ka => omega
  case kb => omega
  case kc => omega
  case kd => omega
  intro h2 tk2 ll oll o2 B2 lvs Ds kF2 kN2 q1 q2 q3 hB2 hp2 hBl2 hll hLT hlvl hLs
  have hLA : LevAt prog w ((ll, oll) :: (lvs ++ ((he, oh) :: (le, ol) :: R0))) ll le Ds es := ⟨oll, lvs, ol, .head _, hll, fun p hp => .tail _ (List.mem_append_left _ hp), hLT, .tail _ (List.mem_append_right _ (.tail _ (.head _))), hol, by omega, by omega⟩
  have hnl := nm_len hE.len hLs.len
  have kN3 := News.swap2 kN2
  simp only [List.cons_append, List.nil_append] at kN3
  clear kN kN1 kF kN2
  k_steps
  rename Fr h₀ _ _ _ => kF3
  rename News h₀ _ _ _ => kN4
  rename (∀ p, p ∈ (bk, o2) :: _ → Prod.fst p < _) => hkn
  rename Tab (bytesKind _ _) _ [] => hTk
  rename (_ == sysModules) = false => hklo
  (try clear kN3)
  refine Stop.get ?_
  refine' lay_call ?y1 ?y2 ?y3 ?y4 ?y5 ?y6 ?y7 kN4 ?y8 (hLA.mono ?y9) hTk ?ya ?yb hT hhlo hw0 ?yc ?yd ?ye hel hnl ?yr
  case y1 => exact Bl
  case y2 => exact kF3
  case y3 => exact X
  case y4 => exact T
  case y5 => exact rfl
  case y6 => decide
  case y7 => decide
  case y8 =>
    refine offs fun p hp b hb => ?_
    rw [List.mem_singleton.mp hb]
    exact Nat.ne_of_lt (hkn p hp)
  case y9 => exact fun p hp => .tail _ hp
  case ya => decide
  case yb => exact .tail _ (.tail _ (List.mem_append_right _ (.head _)))
  case yc => omega
  case yd => omega
  case ye => omega
  intro h3 tk3 ok kF4 kN5 hTk2
  (try clear kF3); (try clear kN4); (try clear hTk)
  exact next _ _ ll oll o2 B2 lvs Ds _ ok _ kF4 kN5 hkn q1 q2 q3 hB2 hp2 (by omega) hll hLT hlvl hLs hTk2 hklo
end
end
section
local macro_rules | `(tactic| walk_at "no such key 94") => `(tactic| fail)
theorem off_95 : True := by
  w_top off
  trivial
theorem News.fdb {h₀ h : Heap} {L : Addr} {q a b c : Addr × Obj} {r : Led} (N : News h₀ L h (q :: a :: b :: c :: r)) : News h₀ L h (c :: a :: b :: r) := fun p hp => N p (by simp only [List.mem_cons] at hp ⊢; rcases hp with h | h | h | h <;> simp [h])
section
variable {prog : Program} {w : World} {p : Program} {loose : List Str} {mean : ExcName → Option Value} {mg mb m0 : Str → Option Value} {h₀ : Heap} {L fa sa : Addr} {cd : Value} {s : Shared} {Q : Flow → Shared → Prop} {E : Value → Shared → Prop}
theorem law_3c {xf size depth span way : Int} {t t1 t2 t3 t4 t5 t6 : Tok} {f le he bk ll kn : Addr} {df : Array UInt8} {u : Option Value} {root : By} {o2 ok : Obj} {B2 : List By} {KD : List (By × By)} {R1 : Led} (Bl : Below callerA h₀ [] h₀) (X : (hd.heap_39 w.params).In h₀) (T : Top p loose mean mg mb h₀) (hPO : PassesOwn (model prog w) (callerA.deeper (envOf (Str.ofString "law") lawScope L fa cd)) (envOf (Str.ofString "law") lawScope L fa cd) E)
    (F : Fr h₀ L s.heap (ovr [(Str.ofString "known", some (.ref kn)), (Str.ofString "root", some (.bytes root.toArray t6)), (Str.ofString "levels", some (.ref ll)), (Str.ofString "way", some (.int way t5)), (Str.ofString "number", u), (Str.ofString "held", some (.ref he)), (Str.ofString "empty", some (.ref le)), (Str.ofString "hash_of", some (.ref f)), (Str.ofString "default", some (.bytes df t4)), (Str.ofString "span", some (.int span t3)), (Str.ofString "depth", some (.int depth t2)), (Str.ofString "size", some (.int size t1)), (Str.ofString "first", some (.int xf t)), (Str.ofString "script", some (.ref sa))] m0)) (N : News h₀ L s.heap ((kn, ok) :: (bk, o2) :: R1)) (hkn : ∀ p ∈ (bk, o2) :: R1, @LT.lt Nat _ p.1 kn) (hoff : OwnOff R1 [bk]) (hH : HashFn R1 f bk)
    (hB : Book (prog := prog) (w := w) o2 B2) (hBl : B2.length ≤ 800000) (hblo : (bk == sysModules) = false) (hTk : Tab (bytesKind prog w) ok KD) (hklo : (kn == sysModules) = false) (hKz : KD.length ≤ 1000) (hroot : root.length = 32)
    (hs0 : 1 ≤ size) (hs1 : size ≤ 2) (hdf : df.size = 1)
    (next : ∀ h' tk' sd osd x d o3 B3 u0 u1 u2 u3 u4 u5 u6 u7 u8 u9, Fr h₀ L h' (ovr [(Str.ofString "tree", some (.ref x)), (Str.ofString "store", some (.ref sd)), (Str.ofString "known", some (.ref kn)), (Str.ofString "root", some (.bytes root.toArray t6)), (Str.ofString "levels", some (.ref ll)), (Str.ofString "way", some (.int way t5)), (Str.ofString "number", u), (Str.ofString "held", some (.ref he)), (Str.ofString "empty", some (.ref le)), (Str.ofString "hash_of", some (.ref f)), (Str.ofString "default", some (.bytes df t4)), (Str.ofString "span", some (.int span t3)), (Str.ofString "depth", some (.int depth t2)), (Str.ofString "size", some (.int size t1)), (Str.ofString "first", some (.int xf t)), (Str.ofString "script", some (.ref sa))] m0) → News h₀ L h' ((x, instObj 161 d) :: (d, dictOf (treeL w size df f sd root.toArray u0 u1 u2 u3 u4 u5 u6 u7 u8 u9) 6) :: (bk, o3) :: (sd, osd) :: (kn, ok) :: R1) →
      Book (prog := prog) (w := w) o3 B3 → B2 <+: B3 → B3.length ≤ B2.length + 20 → @LT.lt Nat _ d x → @LT.lt Nat _ bk d → (∀ p ∈ (sd, osd) :: (kn, ok) :: R1, @LT.lt Nat _ p.1 d) → @LT.lt Nat _ kn sd → Tab (bytesKind prog w) osd KD → (sd == sysModules) = false →
      wpAny (model prog w) (callerA.deeper (envOf (Str.ofString "law") lawScope L fa cd)) (execs (List.drop 16 lawBody) (envOf (Str.ofString "law") lawScope L fa cd)) Q E { s with heap := h', toks := tk' }) :
    wpAny (model prog w) (callerA.deeper (envOf (Str.ofString "law") lawScope L fa cd)) (execs (List.drop 14 lawBody) (envOf (Str.ofString "law") lawScope L fa cd)) Q E s := by
  conv in (List.drop 14 lawBody) => whnf
  repeat (conv in lawScope => whnf)
  have hKz' : KD.length ≤ 16777216 := by omega
  k_steps
  rename Fr h₀ _ _ _ => kF
  rename News h₀ _ _ _ => kN
  rename (∀ p, p ∈ (kn, ok) :: _ → Prod.fst p < _) => hsd
  rename Tab (bytesKind _ _) _ KD => hTs
  rename (_ == sysModules) = false => hslo
  have hbd : @LT.lt Nat _ bk kn := hkn _ (.head _)
  refine Stop.get ?_
  refine call_meth kN (.head _) ?_
  have kN2 := News.fdb kN
  refine' fromdb_call ?z1 ?z2 ?z3 ?z4 ?z5 ?z6 ?z7 kN2 ?z8 (hH.mono ?z9) hB ?za hblo ?zb ?zc hs0 hs1 ?zr
  case z1 => exact Bl
  case z2 => exact kF
  case z3 => exact X
  case z4 => exact T
  case z5 => exact rfl
  case z6 => decide
  case z7 => decide
  case z8 =>
    refine offs fun p hp b hb => ?_
    rw [List.mem_singleton.mp hb]
    rcases List.mem_cons.mp hp with rfl | hp
    · exact Nat.ne_of_gt (hsd _ (.tail _ (.head _)))
    rcases List.mem_cons.mp hp with rfl | hp
    · exact Nat.ne_of_gt hbd
    · exact hoff p hp _ (.head _)
  case z9 => exact fun p hp => .tail _ (.tail _ hp)
  case za => omega
  case zb => omega
  case zc => rw [List.size_toArray]; exact hroot
  intro h3 tk3 x d o3 B3 u0 u1 u2 u3 u4 u5 u6 u7 u8 u9 kF2 kN3 hB3 hp3 hBl3 d1 d2 d3
  (try dsimp only)
  walk1
  (try dsimp only)
  rename Fr h₀ _ _ _ => kF3
  rename News h₀ _ _ _ => kN4
  exact next _ _ _ _ x d o3 B3 _ _ _ _ _ _ _ _ _ _ kF3 kN4 hB3 hp3 hBl3 d1 d2 d3 (hsd _ (.head _)) hTs hslo
end
end
section
theorem off_96 : True := by
  w_top off
  trivial
theorem value_key {size x : Int} (h0 : 0 ≤ x) (h1 : x < 256 ^ size.toNat) : KFB.value (intsOf (be size.toNat x).toArray.toList) = x := by
  rw [List.toList_toArray]; exact value_be h0 h1
theorem pow_span {size : Int} (h0 : 1 ≤ size) (h1 : size ≤ 2) : (256 : Int) ^ size.toNat = 2 ^ (8 * size).toNat ∧ (256 : Int) ^ size.toNat ≤ 65536 := by
  have : size = 1 ∨ size = 2 := by omega
  rcases this with rfl | rfl <;> exact ⟨by decide, by decide⟩
theorem way_top {N : Nat → Int → By} {x : Int} {n : Nat} (h0 : 0 ≤ x) (h1 : x < 2 ^ n) : wayF N x n = N n 0 := by
  unfold wayF
  rw [fdiv_two, Int.ediv_eq_zero_of_lt h0 h1]
/-- a read, in the terms of the contracts -/
theorem read_clear {B : List By} {N : Nat → Int → By} {V : Int → By} {KD : List (By × By)} {size depth x : Int} {root : By} (hs0 : 1 ≤ size) (hs1 : size ≤ 2) (hdep : depth = 8 * size) (h0 : 0 ≤ x) (h1 : x < 256 ^ size.toNat) (S : Shape B N V depth.toNat) (Fi : Fits B KD) (hB : B.length ≤ 16777216) (hr : root = N depth.toNat 0) :
    (clearP N KD x (depth.toNat + 1) → getR KD (bitT (KFB.value (intsOf (be size.toNat x).toArray.toList)) (size * 8 - 1).toNat) root.toArray.toList (size * 8).toNat = some (V x, downL (sideF N x) depth.toNat depth.toNat)) ∧
    ((¬ clearP N KD x (depth.toNat + 1)) → getR KD (bitT (KFB.value (intsOf (be size.toNat x).toArray.toList)) (size * 8 - 1).toNat) root.toArray.toList (size * 8).toNat = none) := by
  rw [value_key h0 h1, List.toList_toArray, hr]
  have e1 : (size * 8 - 1).toNat = depth.toNat - 1 := by omega
  have e2 : (size * 8).toNat = depth.toNat := by omega
  have e3 : N depth.toNat 0 = wayF N x depth.toNat := by
    rw [way_top h0]
    rw [hdep, ← (pow_span hs0 hs1).1]; exact h1
  rw [e1, e2, e3]
  refine ⟨fun hc => getR_clear S Fi hB hc, fun hc => ?_⟩
  cases q : getR KD (bitT x (depth.toNat - 1)) (wayF N x depth.toNat) depth.toNat with
  | none => rfl
  | some r => exact absurd (getR_some S Fi hB q) hc
section
variable {prog : Program} {w : World} {p : Program} {loose : List Str} {mean : ExcName → Option Value} {mg mb m0 : Str → Option Value} {h₀ : Heap} {L fa sa : Addr} {cd : Value} {s : Shared} {Q : Flow → Shared → Prop} {E : Value → Shared → Prop}
theorem law_3d {xf size depth span way : Int} {t t1 t2 t3 t4 t5 t6 : Tok} {f le he bk ll kn : Addr} {df : Array UInt8} {u : Option Value} {root : By} {x d sd : Addr} {osd : Obj} {B : List By} {KD : List (By × By)} {V : Int → By} {Ds : List (List (Int × By))} {es : List By} {news : Led} {u0 u1 u2 u3 u4 u5 u6 u7 u8 u9 : Tok} (Bl : Below callerA h₀ [] h₀) (X : (hd.heap_39 w.params).In h₀) (T : Top p loose mean mg mb h₀) (hPO : PassesOwn (model prog w) (callerA.deeper (envOf (Str.ofString "law") lawScope L fa cd)) (envOf (Str.ofString "law") lawScope L fa cd) E)
    (F : Fr h₀ L s.heap (ovr [(Str.ofString "tree", some (.ref x)), (Str.ofString "store", some (.ref sd)), (Str.ofString "known", some (.ref kn)), (Str.ofString "root", some (.bytes root.toArray t6)), (Str.ofString "levels", some (.ref ll)), (Str.ofString "way", some (.int way t5)), (Str.ofString "number", u), (Str.ofString "held", some (.ref he)), (Str.ofString "empty", some (.ref le)), (Str.ofString "hash_of", some (.ref f)), (Str.ofString "default", some (.bytes df t4)), (Str.ofString "span", some (.int span t3)), (Str.ofString "depth", some (.int depth t2)), (Str.ofString "size", some (.int size t1)), (Str.ofString "first", some (.int xf t)), (Str.ofString "script", some (.ref sa))] m0)) (N : News h₀ L s.heap news) (hx : (x, instObj 161 d) ∈ news) (hd : (d, dictOf (treeL w size df f sd root.toArray u0 u1 u2 u3 u4 u5 u6 u7 u8 u9) 6) ∈ news) (hsd : (sd, osd) ∈ news)
    (hTs : Tab (bytesKind prog w) osd KD) (hslo : (sd == sysModules) = false) (hLA : LevAt prog w news ll le Ds es) (hel : es.length = depth.toNat + 1)
    (hs0 : 1 ≤ size) (hs1 : size ≤ 2) (hdep : depth = 8 * size) (hw0 : 0 ≤ way) (hw1 : way < 256 ^ size.toNat)
    (hS : Shape B (nm Ds es) V depth.toNat) (hFi : Fits B KD) (hBz : B.length ≤ 16777216) (hKs : ∀ p ∈ KD, p.2 ≠ [] ∧ p.2.length ≤ 300) (hcl : clearP (nm Ds es) KD way (depth.toNat + 1)) (hroot : root = nm Ds es depth.toNat 0)
    (next : ∀ h' tk', Fr h₀ L h' (ovr [(Str.ofString "tree", some (.ref x)), (Str.ofString "store", some (.ref sd)), (Str.ofString "known", some (.ref kn)), (Str.ofString "root", some (.bytes root.toArray t6)), (Str.ofString "levels", some (.ref ll)), (Str.ofString "way", some (.int way t5)), (Str.ofString "number", u), (Str.ofString "held", some (.ref he)), (Str.ofString "empty", some (.ref le)), (Str.ofString "hash_of", some (.ref f)), (Str.ofString "default", some (.bytes df t4)), (Str.ofString "span", some (.int span t3)), (Str.ofString "depth", some (.int depth t2)), (Str.ofString "size", some (.int size t1)), (Str.ofString "first", some (.int xf t)), (Str.ofString "script", some (.ref sa))] m0) → News h₀ L h' news → wpAny (model prog w) (callerA.deeper (envOf (Str.ofString "law") lawScope L fa cd)) (execs (List.drop 17 lawBody) (envOf (Str.ofString "law") lawScope L fa cd)) Q E { s with heap := h', toks := tk' }) :
    wpAny (model prog w) (callerA.deeper (envOf (Str.ofString "law") lawScope L fa cd)) (execs (List.drop 16 lawBody) (envOf (Str.ofString "law") lawScope L fa cd)) Q E s := by
  conv in (List.drop 16 lawBody) => whnf
  repeat (conv in lawScope => whnf)
  have hGR := (read_clear (root := root) hs0 hs1 hdep hw0 hw1 hS hFi hBz hroot).1 hcl
  have hkz : (((be size.toNat way).toArray.size : Nat) : Int) = size := by rw [List.size_toArray, be_length]; omega
  have hrz : root.toArray.size = 32 := by rw [List.size_toArray, hroot]; exact hS.len 0 (Nat.le_refl _)
  have hSD : ∀ k v, get KD k = some v → v.length ≤ 300 := fun k v e => (hKs _ (get_mem e)).2
  have hne : ∀ k v, get KD k = some v → v ≠ [] := fun k v e => (hKs _ (get_mem e)).1
  have hw65 : way < 65536 := Int.lt_of_lt_of_le hw1 (pow_span hs0 hs1).2
  clear hS hFi hBz hKs hcl
  refine cut_execS (fun s' => ∃ h' tk', s' = { s with heap := h', toks := tk' } ∧ Fr h₀ L h' (ovr [(Str.ofString "tree", some (.ref x)), (Str.ofString "store", some (.ref sd)), (Str.ofString "known", some (.ref kn)), (Str.ofString "root", some (.bytes root.toArray t6)), (Str.ofString "levels", some (.ref ll)), (Str.ofString "way", some (.int way t5)), (Str.ofString "number", u), (Str.ofString "held", some (.ref he)), (Str.ofString "empty", some (.ref le)), (Str.ofString "hash_of", some (.ref f)), (Str.ofString "default", some (.bytes df t4)), (Str.ofString "span", some (.int span t3)), (Str.ofString "depth", some (.int depth t2)), (Str.ofString "size", some (.int size t1)), (Str.ofString "first", some (.int xf t)), (Str.ofString "script", some (.ref sa))] m0) ∧ News h₀ L h' news) ?_ ?_
  · k_steps
    · rename Fr h₀ _ _ _ => kF
      rename News h₀ _ _ _ => kN
      exact Stop.get ⟨rfl, _, _, rfl, kF, fun p hp => kN p (.tail _ (.tail _ hp))⟩
    · rename getR _ _ _ _ = some (_, _) => hG
      rename ¬ _ = downL _ _ _ => hb
      rw [hGR] at hG
      exact absurd (Prod.mk.inj (Option.some.inj hG)).2.symm hb
    · rename getR _ _ _ _ = none => hG
      rw [hGR] at hG
      cases hG
  · rintro s' ⟨h', tk', rfl, F', N'⟩
    exact next h' tk' F' N'
end
end
section
local macro_rules | `(tactic| walk_at "call ref") => `(tactic| (k_here; (with_reducible show wpAny _ _ (call (Value.ref _) [Value.int _ _, Value.int _ _, Value.ref _, Value.int _ _, Value.int _ _]) _ _ _); k_dflt (refine' pick_call ?k1 ?k2 ?k3 ?k4 ?k5 ?k6 ?k7 ?N ?m ?T ?lo ?z ?i ?w0 ?w1 ?sp ?d0 ?d1 (fun h' tk' aim t F' N' ha0 ha1 => ?_); (case k1 => k_asm); (case k2 => k_asm); (case k3 => k_asm); (case k4 => k_asm); (case k5 => exact rfl); (case k6 => ktr_unf); (case k7 => ktr_unf); (case N => k_asm); (case m => ktr_rel); (case T => assumption); (case lo => assumption); (case z => omega); (case i => assumption); (case w0 => assumption); (case w1 => assumption); (case sp => assumption); (case d0 => omega); (case d1 => omega))))
local macro_rules | `(tactic| walk_at "call ref") => `(tactic| (k_here; (with_reducible show wpAny _ _ (call (Value.ref _) [Value.ref _, Value.ref _, Value.ref _, Value.int _ _, Value.int _ _]) _ _ _); k_dflt (refine' clear_call ?k1 ?k2 ?k3 ?k4 ?k5 ?k6 ?k7 ?N ?L ?m ?T ?lo ?n0 ?n1 ?d0 ?d1 ?el (fun h' tk' b' F' N' hb' => ?_); (case k1 => k_asm); (case k2 => k_asm); (case k3 => k_asm); (case k4 => k_asm); (case k5 => exact rfl); (case k6 => ktr_unf); (case k7 => ktr_unf); (case N => k_asm); (case L => tb_rel); (case m => ktr_rel); (case T => assumption); (case lo => assumption); (case n0 => assumption); (case n1 => omega); (case d0 => omega); (case d1 => omega); (case el => assumption))))
local macro_rules | `(tactic| walk_at "getMethod ref") => `(tactic| (k_here; k_dflt (refine' my_updm (knd := bytesKind _ _) ?N ?m ?T ?_; (case N => k_asm); (case m => ktr_rel); (case T => assumption))))
local macro_rules | `(tactic| walk_at "call builtin:dict.update") => `(tactic| (k_here; (with_reducible show wpAny _ _ (call (Value.builtin _) [Value.ref _, Value.ref _]) _ _ _); k_dflt (refine' my_updD (knd := bytesKind _ _) ?F ?N ?U ?Td ?m ?Te ?lo ?ne ?z ?_; (case F => k_asm); (case N => k_asm); (case U => k_updF); (case Td => assumption); (case m => ktr_rel); (case Te => assumption); (case lo => assumption); (case ne => assumption); (case z => omega); intro h' o' F' N' T')))
section
theorem off_97 : True := by
  w_top off
  trivial
/-! ### one turn of the law's loop -/
def forBody : Stmt → List Stmt
  | Stmt.For _ _ b _ _ => b
  | _ => []
def turnBody : List Stmt := forBody (nthS 17 lawBody)
section
variable {prog : Program} {w : World} {p : Program} {loose : List Str} {mean : ExcName → Option Value} {mg mb m0 : Str → Option Value} {h₀ : Heap} {L fa sa : Addr} {cd : Value} {s : Shared} {Q : Flow → Shared → Prop} {E : Value → Shared → Prop}
theorem turn_A {num size depth span way : Int} {tn t1 t2 t3 t4 t5 t6 : Tok} {f le he bk ll kn x sd d : Addr} {df : Array UInt8} {w2 w3 w4 w5 w6 : Option Value} {root : By} {oh : Obj} {HD : List (Int × By)} {news : Led} (Bl : Below callerA h₀ [] h₀) (X : (hd.heap_39 w.params).In h₀) (T : Top p loose mean mg mb h₀)
    (F : Fr h₀ L s.heap (ovr [(Str.ofString "number", some (.int num tn)), (Str.ofString "kind", w2), (Str.ofString "aim", w3), (Str.ofString "key", w4), (Str.ofString "value", w5), (Str.ofString "told", w6), (Str.ofString "levels", some (.ref ll)), (Str.ofString "root", some (.bytes root.toArray t6)), (Str.ofString "tree", some (.ref x)), (Str.ofString "store", some (.ref sd)), (Str.ofString "known", some (.ref kn)), (Str.ofString "way", some (.int way t5)), (Str.ofString "held", some (.ref he)), (Str.ofString "empty", some (.ref le)), (Str.ofString "hash_of", some (.ref f)), (Str.ofString "default", some (.bytes df t4)), (Str.ofString "span", some (.int span t3)), (Str.ofString "depth", some (.int depth t2)), (Str.ofString "size", some (.int size t1))] m0)) (N : News h₀ L s.heap news) (hhe : (he, oh) ∈ news) (hT : Tab (intKind prog w) oh HD) (hhlo : (he == sysModules) = false) (hHz : HD.length ≤ 60) (hok : HeldOk span HD)
    (hs0 : 1 ≤ size) (hs1 : size ≤ 2) (hdep : depth = 8 * size) (hspan : span = 256 ^ size.toNat) (hdf : df.size = 1) (hw0 : 0 ≤ way) (hw1 : way < span)
    (next : ∀ h' tk' val aim kind ta tb tc td, Fr h₀ L h' (ovr [(Str.ofString "value", some (.bytes val ta)), (Str.ofString "key", some (.bytes (be size.toNat aim).toArray tb)), (Str.ofString "aim", some (.int aim tc)), (Str.ofString "kind", some (.int kind td)), (Str.ofString "number", some (.int num tn)), (Str.ofString "kind", w2), (Str.ofString "aim", w3), (Str.ofString "key", w4), (Str.ofString "value", w5), (Str.ofString "told", w6), (Str.ofString "levels", some (.ref ll)), (Str.ofString "root", some (.bytes root.toArray t6)), (Str.ofString "tree", some (.ref x)), (Str.ofString "store", some (.ref sd)), (Str.ofString "known", some (.ref kn)), (Str.ofString "way", some (.int way t5)), (Str.ofString "held", some (.ref he)), (Str.ofString "empty", some (.ref le)), (Str.ofString "hash_of", some (.ref f)), (Str.ofString "default", some (.bytes df t4)), (Str.ofString "span", some (.int span t3)), (Str.ofString "depth", some (.int depth t2)), (Str.ofString "size", some (.int size t1))] m0) → News h₀ L h' news → 0 ≤ aim → aim < span → 0 ≤ kind → kind < 4 → val.toList ≠ [] → val.size ≤ 300 →
      wpAny (model prog w) (callerA.deeper (envOf (Str.ofString "law") lawScope L fa cd)) (call (.ref 229) [.ref x, .int kind td, .bytes (be size.toNat aim).toArray tb, .bytes val ta, .bytes df t4]) (fun v s₁ => wpAny (model prog w) (callerA.deeper (envOf (Str.ofString "law") lawScope L fa cd)) (storeName (envOf (Str.ofString "law") lawScope L fa cd) (Str.ofString "told") v) (fun _ s' => wpAny (model prog w) (callerA.deeper (envOf (Str.ofString "law") lawScope L fa cd)) (execs (List.drop 5 turnBody) (envOf (Str.ofString "law") lawScope L fa cd)) Q E s') E s₁) E { s with heap := h', toks := tk' }) :
    wpAny (model prog w) (callerA.deeper (envOf (Str.ofString "law") lawScope L fa cd)) (execs (List.drop 0 turnBody) (envOf (Str.ofString "law") lawScope L fa cd)) Q E s := by
  conv in (List.drop 0 turnBody) => whnf
  repeat (conv in lawScope => whnf)
  have hsp2 : span = 2 ^ depth.toNat := by rw [hspan, hdep]; exact (pow_span hs0 hs1).1
  have hin : ∀ p ∈ HD, 0 ≤ p.1 ∧ p.1 < span := fun p hp => (hok p hp).1
  have hsp3 : span ≤ 65536 := by rw [hspan]; exact (pow_span hs0 hs1).2
  k_steps
  · rename Fr h₀ _ _ _ => kF
    rename News h₀ _ _ _ => kN
    refine Stop.get ?_
    exact next _ _ _ _ _ _ _ _ _ kF kN (by assumption) (by assumption) (Int.fmod_nonneg_of_pos _ (by decide)) (Int.fmod_lt_of_pos _ (by decide)) (fun e => by rw [← Array.length_toList, e] at hdf; cases hdf) (by omega)
  · rename Fr h₀ _ _ _ => kF
    rename News h₀ _ _ _ => kN
    refine Stop.get ?_
    exact next _ _ _ _ _ _ _ _ _ kF (fun p hp => kN p (.tail _ hp)) (by assumption) (by assumption) (Int.fmod_nonneg_of_pos _ (by decide)) (Int.fmod_lt_of_pos _ (by decide)) (by simp) (by simp; omega)
end
end
section
local macro_rules | `(tactic| walk_at "no such key 98") => `(tactic| fail)
theorem off_99 : True := by
  w_top off
  trivial
def ToldD (kind : Int) (N : Nat → Int → By) (V : Int → By) (aim : Int) (n : Nat) (val : By) (KD : List (By × By)) (B' : List By) (tv : Value) (xs : Led) (SD' : List (By × By)) (root root' : By) : Prop :=
  (kind = 0 ∧ (∃ b t, tv = .bytes b t ∧ b.toList = V aim) ∧ xs = [] ∧ SD' = KD ∧ root' = root) ∨
  (kind = 3 ∧ (∃ r o, tv = .ref r ∧ xs = [(r, o)] ∧ TupB o (downL (sideF N aim) n n)) ∧ SD' = KD ∧ root' = root) ∨
  (kind ≠ 0 ∧ kind ≠ 3 ∧ ∃ r o node ns SD1, tv = .ref r ∧ xs = [(r, o)] ∧ TupB o ns.reverse ∧ SetW B' (bitS aim) (upL (sideF N aim) n) val KD n node ns SD1 ∧ Named B' node root' ∧ SD' = put SD1 root' node)
theorem ask_told {kind : Int} {B B' : List By} {N : Nat → Int → By} {V : Int → By} {KD SD' : List (By × By)} {size depth aim : Int} {root val root' : By} {tv : Value} {xs : Led} (hs0 : 1 ≤ size) (hs1 : size ≤ 2) (hdep : depth = 8 * size) (h0 : 0 ≤ aim) (h1 : aim < 256 ^ size.toNat) (S : Shape B N V depth.toNat) (Fi : Fits B KD) (hB : B.length ≤ 16777216) (hr : root = N depth.toNat 0)
    (h : AskD kind B KD root.toArray.toList val (KFB.value (intsOf (be size.toNat aim).toArray.toList)) (size * 8 - 1).toNat (size * 8).toNat tv xs B' SD' root') :
    (clearP N KD aim (depth.toNat + 1) → ToldD kind N V aim depth.toNat val KD B' tv xs SD' root root') ∧ ((¬ clearP N KD aim (depth.toNat + 1)) → tv = .none ∧ xs = [] ∧ B' = B ∧ SD' = KD ∧ root' = root) := by
  have hR := read_clear (root := root) hs0 hs1 hdep h0 h1 S Fi hB hr
  constructor
  · intro hc
    have hR1 := hR.1 hc
    rcases h with ⟨e, _⟩ | ⟨v, bl, e, h⟩
    · rw [hR1] at e; cases e
    · rw [hR1] at e
      obtain ⟨rfl, rfl⟩ := Prod.mk.inj (Option.some.inj e)
      rw [value_key h0 h1, show (size * 8).toNat = depth.toNat by omega] at h
      rcases h with ⟨a, b, c, _, d, e⟩ | ⟨a, b, _, d, e⟩ | ⟨a, a2, r, o, node, ns, SD1, b, c, d, e, g, i⟩
      · exact .inl ⟨a, b, c, d, by rw [e, List.toList_toArray]⟩
      · exact .inr (.inl ⟨a, b, d, by rw [e, List.toList_toArray]⟩)
      · rw [downL_rev] at e
        exact .inr (.inr ⟨a, a2, r, o, node, ns, SD1, b, c, d, e, g, i⟩)
  · intro hc
    have hR1 := hR.2 hc
    rcases h with ⟨_, a, b, c, d, e⟩ | ⟨v, bl, e, _⟩
    · exact ⟨a, b, c, d, by rw [e, List.toList_toArray]⟩
    · rw [hR1] at e; cases e
section
variable {prog : Program} {w : World} {p : Program} {loose : List Str} {mean : ExcName → Option Value} {mg mb m0 : Str → Option Value} {h₀ : Heap} {L fa sa : Addr} {cd : Value} {s : Shared} {Q : Flow → Shared → Prop} {E : Value → Shared → Prop}
theorem turn_B2 {num size depth span way : Int} {tn t1 t2 t3 t4 t5 t6 : Tok} {f le he bk ll kn x sd d : Addr} {df : Array UInt8} {w2 w3 w4 w5 w6 : Option Value} {root : By} {val : Array UInt8} {aim kind : Int} {ta tb tc td : Tok} {tv : Value} {ok : Obj} {KD : List (By × By)} {Ds : List (List (Int × By))} {es : List By} {news : Led} (Bl : Below callerA h₀ [] h₀) (X : (hd.heap_39 w.params).In h₀) (T : Top p loose mean mg mb h₀)
    (F : Fr h₀ L s.heap (ovr [(Str.ofString "told", some tv), (Str.ofString "value", some (.bytes val ta)), (Str.ofString "key", some (.bytes (be size.toNat aim).toArray tb)), (Str.ofString "aim", some (.int aim tc)), (Str.ofString "kind", some (.int kind td)), (Str.ofString "number", some (.int num tn)), (Str.ofString "kind", w2), (Str.ofString "aim", w3), (Str.ofString "key", w4), (Str.ofString "value", w5), (Str.ofString "told", w6), (Str.ofString "levels", some (.ref ll)), (Str.ofString "root", some (.bytes root.toArray t6)), (Str.ofString "tree", some (.ref x)), (Str.ofString "store", some (.ref sd)), (Str.ofString "known", some (.ref kn)), (Str.ofString "way", some (.int way t5)), (Str.ofString "held", some (.ref he)), (Str.ofString "empty", some (.ref le)), (Str.ofString "hash_of", some (.ref f)), (Str.ofString "default", some (.bytes df t4)), (Str.ofString "span", some (.int span t3)), (Str.ofString "depth", some (.int depth t2)), (Str.ofString "size", some (.int size t1))] m0)) (N : News h₀ L s.heap news) (hkn : (kn, ok) ∈ news) (hTk : Tab (bytesKind prog w) ok KD) (hklo : (kn == sysModules) = false) (hLA : LevAt prog w news ll le Ds es) (hel : es.length = depth.toNat + 1)
    (hs0 : 1 ≤ size) (hs1 : size ≤ 2) (hdep : depth = 8 * size) (ha0 : 0 ≤ aim) (ha1 : aim < 65536) (hc : clearP (nm Ds es) KD aim (depth.toNat + 1))
    (next : ∀ h' tk', Fr h₀ L h' (ovr [(Str.ofString "told", some tv), (Str.ofString "value", some (.bytes val ta)), (Str.ofString "key", some (.bytes (be size.toNat aim).toArray tb)), (Str.ofString "aim", some (.int aim tc)), (Str.ofString "kind", some (.int kind td)), (Str.ofString "number", some (.int num tn)), (Str.ofString "kind", w2), (Str.ofString "aim", w3), (Str.ofString "key", w4), (Str.ofString "value", w5), (Str.ofString "told", w6), (Str.ofString "levels", some (.ref ll)), (Str.ofString "root", some (.bytes root.toArray t6)), (Str.ofString "tree", some (.ref x)), (Str.ofString "store", some (.ref sd)), (Str.ofString "known", some (.ref kn)), (Str.ofString "way", some (.int way t5)), (Str.ofString "held", some (.ref he)), (Str.ofString "empty", some (.ref le)), (Str.ofString "hash_of", some (.ref f)), (Str.ofString "default", some (.bytes df t4)), (Str.ofString "span", some (.int span t3)), (Str.ofString "depth", some (.int depth t2)), (Str.ofString "size", some (.int size t1))] m0) → News h₀ L h' news → wpAny (model prog w) (callerA.deeper (envOf (Str.ofString "law") lawScope L fa cd)) (execs (List.drop 6 turnBody) (envOf (Str.ofString "law") lawScope L fa cd)) Q E { s with heap := h', toks := tk' }) :
    wpAny (model prog w) (callerA.deeper (envOf (Str.ofString "law") lawScope L fa cd)) (execs (List.drop 5 turnBody) (envOf (Str.ofString "law") lawScope L fa cd)) Q E s := by
  conv in (List.drop 5 turnBody) => whnf
  repeat (conv in lawScope => whnf)
  refine cut_execS (fun s' => ∃ h' tk', s' = { s with heap := h', toks := tk' } ∧ Fr h₀ L h' (ovr [(Str.ofString "told", some tv), (Str.ofString "value", some (.bytes val ta)), (Str.ofString "key", some (.bytes (be size.toNat aim).toArray tb)), (Str.ofString "aim", some (.int aim tc)), (Str.ofString "kind", some (.int kind td)), (Str.ofString "number", some (.int num tn)), (Str.ofString "kind", w2), (Str.ofString "aim", w3), (Str.ofString "key", w4), (Str.ofString "value", w5), (Str.ofString "told", w6), (Str.ofString "levels", some (.ref ll)), (Str.ofString "root", some (.bytes root.toArray t6)), (Str.ofString "tree", some (.ref x)), (Str.ofString "store", some (.ref sd)), (Str.ofString "known", some (.ref kn)), (Str.ofString "way", some (.int way t5)), (Str.ofString "held", some (.ref he)), (Str.ofString "empty", some (.ref le)), (Str.ofString "hash_of", some (.ref f)), (Str.ofString "default", some (.bytes df t4)), (Str.ofString "span", some (.int span t3)), (Str.ofString "depth", some (.int depth t2)), (Str.ofString "size", some (.int size t1))] m0) ∧ News h₀ L h' news) ?_ ?_
  · k_steps
    · rename Fr h₀ _ _ _ => kF
      rename News h₀ _ _ _ => kN
      exact Stop.get ⟨rfl, _, _, rfl, kF, kN⟩
    · rename _ = true ↔ _ => hb
      rename _ = false => hf
      rw [hb.mpr hc] at hf
      cases hf
  · rintro s' ⟨h', tk', rfl, F', N'⟩
    exact next h' tk' F' N'
end
end
section
theorem off_100 : True := by
  w_top off
  trivial
section
variable {prog : Program} {w : World} {p : Program} {loose : List Str} {mean : ExcName → Option Value} {mg mb : Str → Option Value} {dp un : Nat} {gd : Option (List Code)} {cn : Str} {cs : Scope} {a : Addr} {ccd : Value} {cl : List (Str × Addr)} {outer : List Env} {A₀ : Around} {base h₀ : Heap} {L : Addr} {m : Str → Option Value} {s : Shared} {Q E : Value → Shared → Prop}
theorem clear_no {kn ll le : Addr} {ok : Obj} {news : Led} {KD : List (By × By)} {Ds : List (List (Int × By))} {es : List By} {number depth : Int} {t1 t2 : Tok} (Bl : Below A₀ base outer h₀) (F : Fr h₀ L s.heap m) (X : (hd.heap_39 w.params).In h₀) (T : Top p loose mean mg mb h₀) (hk : cs.kind = .function) (hdp : dp + 6 < recursionLimit) (hun : un + 150 < cLine)
    (N : News h₀ L s.heap news) (hL : LevAt prog w news ll le Ds es) (hm : (kn, ok) ∈ news) (hT : Tab (bytesKind prog w) ok KD) (hlo : (kn == sysModules) = false)
    (hn0 : 0 ≤ number) (hn1 : number < 65536) (hd0 : 0 ≤ depth) (hd1 : depth ≤ 16) (hel : es.length = depth.toNat + 1) (hc : ¬ clearP (nm Ds es) KD number (depth.toNat + 1))
    (ret : ∀ h' tk', Fr h₀ L h' m → News h₀ L h' news → Q (.bool false) { s with heap := h', toks := tk' }) :
    wpAny (model prog w) (ktrTop dp un gd cn cs L a ccd cl outer) (call (.ref 205) [.ref kn, .ref ll, .ref le, .int number t1, .int depth t2]) Q E s :=
  clear_call Bl F X T hk hdp hun N hL hm hT hlo hn0 hn1 hd0 hd1 hel fun h' tk' b F' N' hb => by
    cases b with
    | false => exact ret h' tk' F' N'
    | true => exact absurd (hb.mp rfl) hc
theorem clear_yes {kn ll le : Addr} {ok : Obj} {news : Led} {KD : List (By × By)} {Ds : List (List (Int × By))} {es : List By} {number depth : Int} {t1 t2 : Tok} (Bl : Below A₀ base outer h₀) (F : Fr h₀ L s.heap m) (X : (hd.heap_39 w.params).In h₀) (T : Top p loose mean mg mb h₀) (hk : cs.kind = .function) (hdp : dp + 6 < recursionLimit) (hun : un + 150 < cLine)
    (N : News h₀ L s.heap news) (hL : LevAt prog w news ll le Ds es) (hm : (kn, ok) ∈ news) (hT : Tab (bytesKind prog w) ok KD) (hlo : (kn == sysModules) = false)
    (hn0 : 0 ≤ number) (hn1 : number < 65536) (hd0 : 0 ≤ depth) (hd1 : depth ≤ 16) (hel : es.length = depth.toNat + 1) (hc : clearP (nm Ds es) KD number (depth.toNat + 1))
    (ret : ∀ h' tk', Fr h₀ L h' m → News h₀ L h' news → Q (.bool true) { s with heap := h', toks := tk' }) :
    wpAny (model prog w) (ktrTop dp un gd cn cs L a ccd cl outer) (call (.ref 205) [.ref kn, .ref ll, .ref le, .int number t1, .int depth t2]) Q E s :=
  clear_call Bl F X T hk hdp hun N hL hm hT hlo hn0 hn1 hd0 hd1 hel fun h' tk' b F' N' hb => by
    cases b with
    | true => exact ret h' tk' F' N'
    | false => have := hb.mpr hc; cases this
end
theorem rows_self {K : Type} [DecidableEq K] {D : List (K × By)} (hn : (D.map (·.1)).Nodup) : Rows D D := fun p hp => by
  obtain ⟨i, hi, e⟩ := List.mem_iff_getElem.mp hp
  have hs : (get D p.1).isSome = true := (get_isSome D p.1).mpr (List.mem_map.mpr ⟨p, hp, rfl⟩)
  obtain ⟨z, hz⟩ := Option.isSome_iff_exists.mp hs
  obtain ⟨j, hj, e2⟩ := List.mem_iff_getElem.mp (get_mem hz)
  have := (List.getElem_inj (xs := D.map (·.1)) (i := j) (j := i) (h₀ := by simpa using hj) (h₁ := by simpa using hi) hn).mp (by simp [e, e2])
  subst this
  rw [e] at e2
  rw [hz, e2]
section
variable {prog : Program} {w : World} {K : Type} [DecidableEq K] {knd : KeyKind prog w K} {A : Around} {E : Value → Shared → Prop} {s : Shared} {h₀ : Heap} {L a b : Addr} {news : Led} {oa ob : Obj} {D : List (K × By)}
theorem my_neS {Q : Value → Shared → Prop} (N : News h₀ L s.heap news) (ha : (a, oa) ∈ news) (hb : (b, ob) ∈ news) (Ta : Tab knd oa D) (Tb : Tab knd ob D) (la : (a == sysModules) = false) (lb : (b == sysModules) = false) (hu : A.units < cLine)
    (h : Q (.bool false) s) : wpAny (model prog w) A (compareOp .NotEq (.ref a) (.ref b)) Q E s :=
  my_neD N ha hb Ta Tb la lb hu fun c hc => by
    have := hc.mpr ⟨rfl, rows_self Ta.nodup⟩
    subst this
    exact h
theorem my_eqS {Q : Value → Shared → Prop} (N : News h₀ L s.heap news) (ha : (a, oa) ∈ news) (hb : (b, ob) ∈ news) (Ta : Tab knd oa D) (Tb : Tab knd ob D) (la : (a == sysModules) = false) (lb : (b == sysModules) = false) (hu : A.units < cLine)
    (h : Q (.bool true) s) : wpAny (model prog w) A (compareOp .Eq (.ref a) (.ref b)) Q E s :=
  my_eqD N ha hb Ta Tb la lb hu fun c hc => by
    have := hc.mpr ⟨rfl, rows_self Ta.nodup⟩
    subst this
    exact h
end
theorem cut_exec1 {M : Model} {A : Around} {st : Stmt} {rest : List Stmt} {env : Env} {Q : Flow → Shared → Prop} {E : Value → Shared → Prop} {s : Shared} (h1 : wpAny M A (exec st env) (fun f s' => Stop (f = .next ∧ wpAny M A (execs rest env) Q E s')) E s) : wpAny M A (execs (st :: rest) env) Q E s := cut_exec (fun s' => wpAny M A (execs rest env) Q E s') h1 fun _ h => h
theorem held_val {span aim : Int} {HD : List (Int × By)} {df : Array UInt8} (hok : HeldOk span HD) (hdf : df.size = 1) : gd HD aim df.toList ≠ [] ∧ (gd HD aim df.toList).length ≤ 300 := by
  unfold gd
  cases q : get HD aim with
  | none =>
    have : df.toList.length = 1 := by rw [Array.length_toList]; exact hdf
    exact ⟨fun e => (by rw [show df.toList = [] from e] at this; cases this), (by show df.toList.length ≤ 300; omega)⟩
  | some y => exact (hok _ (get_mem q)).2
theorem root_len {B : List By} {N : Nat → Int → By} {V : Int → By} {n : Nat} {root : By} (S : Shape B N V n) (hr : root = N n 0) : root.toArray.size = 32 := by
  rw [List.size_toArray, hr]; exact S.len 0 (Nat.le_refl _)
theorem key_size {size aim : Int} (h : 1 ≤ size) : (((be size.toNat aim).toArray.size : Nat) : Int) = size := by
  rw [List.size_toArray, be_length]; omega
theorem off3 {bk sd d kn he : Addr} {ok oh : Obj} {R2 : Led} (hoff : OwnOff R2 [bk, sd, d, kn, he]) (c1 : @LT.lt Nat _ bk he) (c2 : @LT.lt Nat _ he kn) (c3 : @LT.lt Nat _ kn sd) (c4 : @LT.lt Nat _ sd d) : OwnOff ((kn, ok) :: (he, oh) :: R2) [bk, sd, d] := by
  refine offs fun p hp b hb => ?_
  simp only [List.mem_cons, List.not_mem_nil, or_false] at hb
  rcases List.mem_cons.mp hp with rfl | hp
  · rcases hb with rfl | rfl | rfl <;> exact neN (by show @Ne Nat kn _; omega)
  rcases List.mem_cons.mp hp with rfl | hp
  · rcases hb with rfl | rfl | rfl <;> exact neN (by show @Ne Nat he _; omega)
  · rcases hb with rfl | rfl | rfl
    · exact hoff p hp _ (.head _)
    · exact hoff p hp _ (.tail _ (.head _))
    · exact hoff p hp _ (.tail _ (.tail _ (.head _)))
theorem off1 {bk sd d kn he : Addr} {o osd od oh : Obj} {R2 : Led} (hoff : OwnOff R2 [bk, sd, d, kn, he]) (c1 : @LT.lt Nat _ bk he) (c2 : @LT.lt Nat _ he kn) (c3 : @LT.lt Nat _ kn sd) (c4 : @LT.lt Nat _ sd d) : OwnOff ((bk, o) :: (sd, osd) :: (d, od) :: (he, oh) :: R2) [kn] := by
  refine offs fun p hp b hb => ?_
  rw [List.mem_singleton.mp hb]
  rcases List.mem_cons.mp hp with rfl | hp
  · exact neN (by show @Ne Nat bk kn; omega)
  rcases List.mem_cons.mp hp with rfl | hp
  · exact neN (by show @Ne Nat sd kn; omega)
  rcases List.mem_cons.mp hp with rfl | hp
  · exact neN (by show @Ne Nat d kn; omega)
  rcases List.mem_cons.mp hp with rfl | hp
  · exact neN (by show @Ne Nat he kn; omega)
  · exact hoff p hp _ (.tail _ (.tail _ (.tail _ (.head _))))
theorem News.kfront {h₀ h : Heap} {L : Addr} {a b c k : Addr × Obj} {r : Led} (N : News h₀ L h (a :: b :: c :: k :: r)) : News h₀ L h (k :: (a :: b :: c :: r)) := fun p hp => N p (by simp only [List.mem_cons] at hp ⊢; rcases hp with h | h | h | h | h <;> simp [h])
theorem News.kback {h₀ h : Heap} {L : Addr} {a b c k : Addr × Obj} {r : Led} (N : News h₀ L h (k :: (a :: b :: c :: r))) : News h₀ L h (a :: b :: c :: k :: r) := fun p hp => N p (by simp only [List.mem_cons] at hp ⊢; rcases hp with h | h | h | h | h <;> simp [h])
end
local macro_rules | `(tactic| walk_at "call ref") => `(tactic| (k_here; (with_reducible show wpAny _ _ (call (Value.ref _) [Value.ref _, Value.ref _, Value.ref _, Value.int _ _, Value.int _ _]) _ _ _); k_dflt (first
  | (refine' clear_no ?k1 ?k2 ?k3 ?k4 ?k5 ?k6 ?k7 ?N ?L ?m ?T ?lo ?n0 ?n1 ?d0 ?d1 ?el ?hc (fun h' tk' F' N' => ?_); (case k1 => k_asm); (case k2 => k_asm); (case k3 => k_asm); (case k4 => k_asm); (case k5 => exact rfl); (case k6 => ktr_unf); (case k7 => ktr_unf); (case N => k_asm); (case L => tb_rel); (case m => ktr_rel); (case T => assumption); (case lo => assumption); (case n0 => assumption); (case n1 => omega); (case d0 => omega); (case d1 => omega); (case el => assumption); (case hc => assumption))
  | (refine' clear_yes ?k1 ?k2 ?k3 ?k4 ?k5 ?k6 ?k7 ?N ?L ?m ?T ?lo ?n0 ?n1 ?d0 ?d1 ?el ?hc (fun h' tk' F' N' => ?_); (case k1 => k_asm); (case k2 => k_asm); (case k3 => k_asm); (case k4 => k_asm); (case k5 => exact rfl); (case k6 => ktr_unf); (case k7 => ktr_unf); (case N => k_asm); (case L => tb_rel); (case m => ktr_rel); (case T => assumption); (case lo => assumption); (case n0 => assumption); (case n1 => omega); (case d0 => omega); (case d1 => omega); (case el => assumption); (case hc => assumption)))))
local macro_rules | `(tactic| walk_at "compareOp NotEq ref ref") => `(tactic| (k_here; k_dflt (refine' my_neS (knd := bytesKind _ _) ?N ?a ?b ?Ta ?Tb ?la ?lb ?hu ?_; (case N => k_asm); (case a => ktr_rel); (case b => ktr_rel); (case Ta => assumption); (case Tb => assumption); (case la => assumption); (case lb => assumption); (case hu => ktr_unf))))
section
theorem off_101 : True := by
  w_top off
  trivial
section
variable {prog : Program} {w : World} {p : Program} {loose : List Str} {mean : ExcName → Option Value} {mg mb m0 : Str → Option Value} {h₀ : Heap} {L fa sa : Addr} {cd : Value} {s : Shared} {Q : Flow → Shared → Prop} {E : Value → Shared → Prop}
theorem turn_B3 {num size depth span way : Int} {tn t1 t2 t3 t4 t5 t6 : Tok} {f le he bk ll kn x sd d : Addr} {df : Array UInt8} {w2 w3 w4 w5 w6 : Option Value} {root : By} {val : Array UInt8} {aim kind : Int} {ta tb tc td : Tok} {o osd ok oh : Obj} {B : List By} {KD : List (By × By)} {HD : List (Int × By)} {Ds : List (List (Int × By))} {es : List By} {R2 : Led} {u0 u1 u2 u3 u4 u5 u6 u7 u8 u9 : Tok} (Bl : Below callerA h₀ [] h₀) (X : (hd.heap_39 w.params).In h₀) (T : Top p loose mean mg mb h₀)
    (F : Fr h₀ L s.heap (ovr [(Str.ofString "told", some .none), (Str.ofString "value", some (.bytes val ta)), (Str.ofString "key", some (.bytes (be size.toNat aim).toArray tb)), (Str.ofString "aim", some (.int aim tc)), (Str.ofString "kind", some (.int kind td)), (Str.ofString "number", some (.int num tn)), (Str.ofString "kind", w2), (Str.ofString "aim", w3), (Str.ofString "key", w4), (Str.ofString "value", w5), (Str.ofString "told", w6), (Str.ofString "levels", some (.ref ll)), (Str.ofString "root", some (.bytes root.toArray t6)), (Str.ofString "tree", some (.ref x)), (Str.ofString "store", some (.ref sd)), (Str.ofString "known", some (.ref kn)), (Str.ofString "way", some (.int way t5)), (Str.ofString "held", some (.ref he)), (Str.ofString "empty", some (.ref le)), (Str.ofString "hash_of", some (.ref f)), (Str.ofString "default", some (.bytes df t4)), (Str.ofString "span", some (.int span t3)), (Str.ofString "depth", some (.int depth t2)), (Str.ofString "size", some (.int size t1))] m0)) (N : News h₀ L s.heap ((bk, o) :: (sd, osd) :: (d, dictOf (treeL w size df f sd root.toArray u0 u1 u2 u3 u4 u5 u6 u7 u8 u9) 6) :: (kn, ok) :: (he, oh) :: R2)) (hTs : Tab (bytesKind prog w) osd KD) (hs0 : 1 ≤ size) (hs1 : size ≤ 2) (hdep : depth = 8 * size) (hspan : span = 256 ^ size.toNat) (hdf : df.size = 1) (c1 : @LT.lt Nat _ bk he) (c2 : @LT.lt Nat _ he kn) (c3 : @LT.lt Nat _ kn sd) (c4 : @LT.lt Nat _ sd d) (hoff : OwnOff R2 [bk, sd, d, kn, he]) (hx : (x, instObj 161 d) ∈ R2) (hH : HashFn R2 f bk) (hLA : LevAt prog w R2 ll le Ds es) (hel : es.length = depth.toNat + 1) (hnl : ∀ h p, (nm Ds es h p).length ≤ 32) (hblo : (bk == sysModules) = false) (hslo : (sd == sysModules) = false) (hklo : (kn == sysModules) = false) (hhlo : (he == sysModules) = false) (hTk : Tab (bytesKind prog w) ok KD) (hTh : Tab (intKind prog w) oh HD) (hHz : HD.length ≤ 15) (hKz : KD.length ≤ 800000) (hok : HeldOk span HD) (hS : Shape B (nm Ds es) (fun p => gd HD p df.toList) depth.toNat) (hFi : Fits B KD) (hKs : ∀ p ∈ KD, p.2 ≠ [] ∧ p.2.length ≤ 300) (hroot : root = nm Ds es depth.toNat 0) (hB : Book (prog := prog) (w := w) o B) (hBl : B.length ≤ 800000) (ha0 : 0 ≤ aim) (ha1 : aim < span) (hk0 : 0 ≤ kind) (hk1 : kind < 4) (hv0 : val.toList ≠ []) (hv1 : val.size ≤ 300)
    (hc : ¬ clearP (nm Ds es) KD aim (depth.toNat + 1))
    (next : ∀ h' tk' tv xs o' osd' ok' B' SD' KD' root' v0 v1 v2 v3 v4 v5 v6 v7 v8 v9, Fr h₀ L h' (ovr [(Str.ofString "told", some tv), (Str.ofString "value", some (.bytes val ta)), (Str.ofString "key", some (.bytes (be size.toNat aim).toArray tb)), (Str.ofString "aim", some (.int aim tc)), (Str.ofString "kind", some (.int kind td)), (Str.ofString "number", some (.int num tn)), (Str.ofString "kind", w2), (Str.ofString "aim", w3), (Str.ofString "key", w4), (Str.ofString "value", w5), (Str.ofString "told", w6), (Str.ofString "levels", some (.ref ll)), (Str.ofString "root", some (.bytes root.toArray t6)), (Str.ofString "tree", some (.ref x)), (Str.ofString "store", some (.ref sd)), (Str.ofString "known", some (.ref kn)), (Str.ofString "way", some (.int way t5)), (Str.ofString "held", some (.ref he)), (Str.ofString "empty", some (.ref le)), (Str.ofString "hash_of", some (.ref f)), (Str.ofString "default", some (.bytes df t4)), (Str.ofString "span", some (.int span t3)), (Str.ofString "depth", some (.int depth t2)), (Str.ofString "size", some (.int size t1))] m0) → News h₀ L h' (xs ++ (bk, o') :: (sd, osd') :: (d, dictOf (treeL w size df f sd root' v0 v1 v2 v3 v4 v5 v6 v7 v8 v9) 6) :: (kn, ok') :: (he, oh) :: R2) → (∀ q ∈ xs, ∀ p ∈ (kn, ok') :: (he, oh) :: R2, @LT.lt Nat _ p.1 q.1) →
      Book (prog := prog) (w := w) o' B' → B <+: B' → B'.length ≤ B.length + 40 → Tab (bytesKind prog w) osd' SD' → Tab (bytesKind prog w) ok' KD' → KD'.length ≤ KD.length + 20 → Fits B' KD' → (∀ p ∈ KD', p.2 ≠ [] ∧ p.2.length ≤ 300) →
      ToldD kind (nm Ds es) (fun p => gd HD p df.toList) aim depth.toNat val.toList KD' B' tv xs SD' root root'.toList →
      wpAny (model prog w) (callerA.deeper (envOf (Str.ofString "law") lawScope L fa cd)) (execs (List.drop 6 turnBody) (envOf (Str.ofString "law") lawScope L fa cd)) Q E { s with heap := h', toks := tk' }) :
    wpAny (model prog w) (callerA.deeper (envOf (Str.ofString "law") lawScope L fa cd)) (execs (List.drop 5 turnBody) (envOf (Str.ofString "law") lawScope L fa cd)) Q E s := by
  conv in (List.drop 5 turnBody) => whnf
  repeat (conv in lawScope => whnf)
  have ha65 : aim < 65536 := Int.lt_of_lt_of_le ha1 (by rw [hspan]; exact (pow_span hs0 hs1).2)
  have hd' : (d, dictOf (treeL w size df f sd root.toArray u0 u1 u2 u3 u4 u5 u6 u7 u8 u9) 6) ∈ ((bk, o) :: (sd, osd) :: (d, dictOf (treeL w size df f sd root.toArray u0 u1 u2 u3 u4 u5 u6 u7 u8 u9) 6) :: (kn, ok) :: (he, oh) :: R2) := .tail _ (.tail _ (.head _))
  have hBz : B.length ≤ 16777216 := by omega
  refine cut_exec1 ?_
  k_steps
  · rename (_ != _) = true => hb
    simp at hb
  rename Fr h₀ _ _ _ => kF
  rename News h₀ _ _ _ => kN
  refine Stop.get ?_
  refine' lay_call ?y1 ?y2 ?y3 ?y4 ?y5 ?y6 ?y7 (News.kfront kN) (off1 hoff c1 c2 c3 c4) (hLA.mono ?y8) hTk ?y9 ?ya hTh hhlo ha0 ha65 ?yb ?yc hel hnl ?yr
  case y1 => exact Bl
  case y2 => exact kF
  case y3 => exact X
  case y4 => exact T
  case y5 => exact rfl
  case y6 => decide
  case y7 => decide
  case y8 => exact fun p hp => .tail _ (.tail _ (.tail _ (.tail _ hp)))
  case y9 => omega
  case ya => exact .tail _ (.tail _ (.tail _ (.head _)))
  case yb => omega
  case yc => omega
  intro h3 tk3 ok3 kF3 kN3 hTk3
  have kN4 := News.kback kN3
  have hlz := layD_length (nm Ds es) (gd HD aim df.toList) aim KD depth.toNat
  have hFi2 : Fits B (layD (nm Ds es) (gd HD aim df.toList) aim KD depth.toNat) := Fits.lay hS hFi _ (Nat.le_refl _)
  have hKs2 := lay_sizes (number := aim) hS (held_val hok hdf) hKs depth.toNat (Nat.le_refl _)
  have hpre : KD <+: layD (nm Ds es) (gd HD aim df.toList) aim KD depth.toNat := Fits.layPrefix hS hFi hBz _ (Nat.le_refl _)
  have hc2 : clearP (nm Ds es) (layD (nm Ds es) (gd HD aim df.toList) aim KD depth.toNat) aim (depth.toNat + 1) := fun h hh => lay_clear depth.toNat h (by omega)
  generalize hKD : layD (nm Ds es) (gd HD aim df.toList) aim KD depth.toNat = KD2 at hTk3 hlz hFi2 hKs2 hpre hc2
  have hmg : mergeT KD KD2 = KD2 := merge_lay hFi hBz hpre hTk3.nodup
  have hne : @Ne Nat sd kn := Nat.ne_of_gt c3
  have hzz : KD.length + KD2.length ≤ 16777216 := by omega
  (try clear hd')
  (try clear kN)
  (try clear kF)
  (try clear kN3)
  (try clear N)
  (try clear F)
  k_steps
  rename Fr h₀ _ _ _ => kF4
  rename News h₀ _ _ _ => kN6
  rename Tab _ _ (mergeT _ _) => hTs2
  rw [hmg] at hTs2
  refine Stop.get ?_
  refine' ask_call (size := size) ?j1 ?j2 ?j3 ?j4 ?j5 ?j6 ?j7 kN6 (off3 hoff c1 c2 c3 c4) ?j8 ?j9 ?ja (.tail _ (.tail _ hx)) (hH.mono ?jb) hB ?jc hblo hTs2 ?jd hslo (key_size hs0) hs0 hs1 ?je hv1 ?jf ?jg (root_len hS hroot) ?jr
  case j1 => exact Bl
  case j2 => exact kF4
  case j3 => exact X
  case j4 => exact T
  case j5 => exact rfl
  case j6 => decide
  case j7 => decide
  case j8 => exact neN (by show @Ne Nat bk sd; omega)
  case j9 => exact neN (by show @Ne Nat bk d; omega)
  case ja => exact neN (by show @Ne Nat sd d; omega)
  case jb => exact fun p hp => .tail _ (.tail _ hp)
  case jc => omega
  case jd => omega
  case je => omega
  case jf => exact fun k v e => (hKs2 _ (get_mem e)).2
  case jg => exact fun k v e => (hKs2 _ (get_mem e)).1
  intro h4 tk4 tv xs o4 osd4 B4 SD4 root4 v0 v1 v2 v3 v4 v5 v6 v7 v8 v9 kF5 kN5 hxs hB4 hp4 hBl4 hTs4 hAD
  have ha1' : aim < 256 ^ size.toNat := by rw [← hspan]; exact ha1
  have hTD := (ask_told hs0 hs1 hdep ha0 ha1' hS hFi2 hBz hroot hAD).1 hc2
  clear hAD
  k_steps
  rename Fr h₀ _ _ _ => kF7
  rename News h₀ _ _ _ => kN7
  have kF8 : Fr h₀ L _ (ovr [(Str.ofString "told", some tv), (Str.ofString "value", some (.bytes val ta)), (Str.ofString "key", some (.bytes (be size.toNat aim).toArray tb)), (Str.ofString "aim", some (.int aim tc)), (Str.ofString "kind", some (.int kind td)), (Str.ofString "number", some (.int num tn)), (Str.ofString "kind", w2), (Str.ofString "aim", w3), (Str.ofString "key", w4), (Str.ofString "value", w5), (Str.ofString "told", w6), (Str.ofString "levels", some (.ref ll)), (Str.ofString "root", some (.bytes root.toArray t6)), (Str.ofString "tree", some (.ref x)), (Str.ofString "store", some (.ref sd)), (Str.ofString "known", some (.ref kn)), (Str.ofString "way", some (.int way t5)), (Str.ofString "held", some (.ref he)), (Str.ofString "empty", some (.ref le)), (Str.ofString "hash_of", some (.ref f)), (Str.ofString "default", some (.bytes df t4)), (Str.ofString "span", some (.int span t3)), (Str.ofString "depth", some (.int depth t2)), (Str.ofString "size", some (.int size t1))] m0) := Eq.mp (congrArg (Fr h₀ L _) (upd_upd (m := ovr [(Str.ofString "value", some (.bytes val ta)), (Str.ofString "key", some (.bytes (be size.toNat aim).toArray tb)), (Str.ofString "aim", some (.int aim tc)), (Str.ofString "kind", some (.int kind td)), (Str.ofString "number", some (.int num tn)), (Str.ofString "kind", w2), (Str.ofString "aim", w3), (Str.ofString "key", w4), (Str.ofString "value", w5), (Str.ofString "told", w6), (Str.ofString "levels", some (.ref ll)), (Str.ofString "root", some (.bytes root.toArray t6)), (Str.ofString "tree", some (.ref x)), (Str.ofString "store", some (.ref sd)), (Str.ofString "known", some (.ref kn)), (Str.ofString "way", some (.int way t5)), (Str.ofString "held", some (.ref he)), (Str.ofString "empty", some (.ref le)), (Str.ofString "hash_of", some (.ref f)), (Str.ofString "default", some (.bytes df t4)), (Str.ofString "span", some (.int span t3)), (Str.ofString "depth", some (.int depth t2)), (Str.ofString "size", some (.int size t1))] m0) (x := Str.ofString "told") (u := some Value.none) (v := some tv))) kF7
  exact Stop.get ⟨rfl, next _ _ tv xs o4 osd4 ok3 B4 SD4 KD2 root4 _ _ _ _ _ _ _ _ _ _ kF8 kN7 hxs hB4 hp4 (by omega) hTs4 hTk3 (by omega) (hFi2.mono hp4) hKs2 hTD⟩
end
end
section
local macro_rules | `(tactic| walk_at "no such key 102") => `(tactic| fail)
theorem off_103 : True := by
  w_top off
  trivial
section
variable {prog : Program} {w : World} {p : Program} {loose : List Str} {mean : ExcName → Option Value} {mg mb m0 : Str → Option Value} {h₀ : Heap} {L fa sa : Addr} {cd : Value} {s : Shared} {Q : Flow → Shared → Prop} {E : Value → Shared → Prop}
theorem turn_B {num size depth span way : Int} {tn t1 t2 t3 t4 t5 t6 : Tok} {f le he bk ll kn x sd d : Addr} {df : Array UInt8} {w2 w3 w4 w5 w6 : Option Value} {root : By} {val : Array UInt8} {aim kind : Int} {ta tb tc td : Tok} {o osd ok oh : Obj} {B : List By} {KD : List (By × By)} {HD : List (Int × By)} {Ds : List (List (Int × By))} {es : List By} {R2 : Led} {u0 u1 u2 u3 u4 u5 u6 u7 u8 u9 : Tok} (Bl : Below callerA h₀ [] h₀) (X : (hd.heap_39 w.params).In h₀) (T : Top p loose mean mg mb h₀)
    (F : Fr h₀ L s.heap (ovr [(Str.ofString "value", some (.bytes val ta)), (Str.ofString "key", some (.bytes (be size.toNat aim).toArray tb)), (Str.ofString "aim", some (.int aim tc)), (Str.ofString "kind", some (.int kind td)), (Str.ofString "number", some (.int num tn)), (Str.ofString "kind", w2), (Str.ofString "aim", w3), (Str.ofString "key", w4), (Str.ofString "value", w5), (Str.ofString "told", w6), (Str.ofString "levels", some (.ref ll)), (Str.ofString "root", some (.bytes root.toArray t6)), (Str.ofString "tree", some (.ref x)), (Str.ofString "store", some (.ref sd)), (Str.ofString "known", some (.ref kn)), (Str.ofString "way", some (.int way t5)), (Str.ofString "held", some (.ref he)), (Str.ofString "empty", some (.ref le)), (Str.ofString "hash_of", some (.ref f)), (Str.ofString "default", some (.bytes df t4)), (Str.ofString "span", some (.int span t3)), (Str.ofString "depth", some (.int depth t2)), (Str.ofString "size", some (.int size t1))] m0)) (N : News h₀ L s.heap ((bk, o) :: (sd, osd) :: (d, dictOf (treeL w size df f sd root.toArray u0 u1 u2 u3 u4 u5 u6 u7 u8 u9) 6) :: (kn, ok) :: (he, oh) :: R2)) (hTs : Tab (bytesKind prog w) osd KD) (hs0 : 1 ≤ size) (hs1 : size ≤ 2) (hdep : depth = 8 * size) (hspan : span = 256 ^ size.toNat) (hdf : df.size = 1) (c1 : @LT.lt Nat _ bk he) (c2 : @LT.lt Nat _ he kn) (c3 : @LT.lt Nat _ kn sd) (c4 : @LT.lt Nat _ sd d) (hoff : OwnOff R2 [bk, sd, d, kn, he]) (hx : (x, instObj 161 d) ∈ R2) (hH : HashFn R2 f bk) (hLA : LevAt prog w R2 ll le Ds es) (hel : es.length = depth.toNat + 1) (hnl : ∀ h p, (nm Ds es h p).length ≤ 32) (hblo : (bk == sysModules) = false) (hslo : (sd == sysModules) = false) (hklo : (kn == sysModules) = false) (hhlo : (he == sysModules) = false) (hTk : Tab (bytesKind prog w) ok KD) (hTh : Tab (intKind prog w) oh HD) (hHz : HD.length ≤ 15) (hKz : KD.length ≤ 800000) (hok : HeldOk span HD) (hS : Shape B (nm Ds es) (fun p => gd HD p df.toList) depth.toNat) (hFi : Fits B KD) (hKs : ∀ p ∈ KD, p.2 ≠ [] ∧ p.2.length ≤ 300) (hroot : root = nm Ds es depth.toNat 0) (hB : Book (prog := prog) (w := w) o B) (hBl : B.length ≤ 800000) (ha0 : 0 ≤ aim) (ha1 : aim < span) (hk0 : 0 ≤ kind) (hk1 : kind < 4) (hv0 : val.toList ≠ []) (hv1 : val.size ≤ 300)
    (next : ∀ h' tk' tv xs o' osd' ok' B' SD' KD' root' v0 v1 v2 v3 v4 v5 v6 v7 v8 v9, Fr h₀ L h' (ovr [(Str.ofString "told", some tv), (Str.ofString "value", some (.bytes val ta)), (Str.ofString "key", some (.bytes (be size.toNat aim).toArray tb)), (Str.ofString "aim", some (.int aim tc)), (Str.ofString "kind", some (.int kind td)), (Str.ofString "number", some (.int num tn)), (Str.ofString "kind", w2), (Str.ofString "aim", w3), (Str.ofString "key", w4), (Str.ofString "value", w5), (Str.ofString "told", w6), (Str.ofString "levels", some (.ref ll)), (Str.ofString "root", some (.bytes root.toArray t6)), (Str.ofString "tree", some (.ref x)), (Str.ofString "store", some (.ref sd)), (Str.ofString "known", some (.ref kn)), (Str.ofString "way", some (.int way t5)), (Str.ofString "held", some (.ref he)), (Str.ofString "empty", some (.ref le)), (Str.ofString "hash_of", some (.ref f)), (Str.ofString "default", some (.bytes df t4)), (Str.ofString "span", some (.int span t3)), (Str.ofString "depth", some (.int depth t2)), (Str.ofString "size", some (.int size t1))] m0) → News h₀ L h' (xs ++ (bk, o') :: (sd, osd') :: (d, dictOf (treeL w size df f sd root' v0 v1 v2 v3 v4 v5 v6 v7 v8 v9) 6) :: (kn, ok') :: (he, oh) :: R2) → (∀ q ∈ xs, ∀ p ∈ (kn, ok') :: (he, oh) :: R2, @LT.lt Nat _ p.1 q.1) →
      Book (prog := prog) (w := w) o' B' → B <+: B' → B'.length ≤ B.length + 40 → Tab (bytesKind prog w) osd' SD' → Tab (bytesKind prog w) ok' KD' → KD'.length ≤ KD.length + 20 → Fits B' KD' → (∀ p ∈ KD', p.2 ≠ [] ∧ p.2.length ≤ 300) →
      ToldD kind (nm Ds es) (fun p => gd HD p df.toList) aim depth.toNat val.toList KD' B' tv xs SD' root root'.toList →
      wpAny (model prog w) (callerA.deeper (envOf (Str.ofString "law") lawScope L fa cd)) (execs (List.drop 6 turnBody) (envOf (Str.ofString "law") lawScope L fa cd)) Q E { s with heap := h', toks := tk' }) :
    wpAny (model prog w) (callerA.deeper (envOf (Str.ofString "law") lawScope L fa cd)) (call (.ref 229) [.ref x, .int kind td, .bytes (be size.toNat aim).toArray tb, .bytes val ta, .bytes df t4]) (fun v s₁ => wpAny (model prog w) (callerA.deeper (envOf (Str.ofString "law") lawScope L fa cd)) (storeName (envOf (Str.ofString "law") lawScope L fa cd) (Str.ofString "told") v) (fun _ s' => wpAny (model prog w) (callerA.deeper (envOf (Str.ofString "law") lawScope L fa cd)) (execs (List.drop 5 turnBody) (envOf (Str.ofString "law") lawScope L fa cd)) Q E s') E s₁) E s := by
  have hBz : B.length ≤ 16777216 := by omega
  have ha65 : aim < 65536 := Int.lt_of_lt_of_le ha1 (by rw [hspan]; exact (pow_span hs0 hs1).2)
  repeat (conv in lawScope => whnf)
  refine' ask_call (size := size) ?j1 ?j2 ?j3 ?j4 ?j5 ?j6 ?j7 N (off3 hoff c1 c2 c3 c4) ?j8 ?j9 ?ja (.tail _ (.tail _ hx)) (hH.mono ?jb) hB ?jc hblo hTs ?jd hslo (key_size hs0) hs0 hs1 ?je hv1 ?jf ?jg (root_len hS hroot) ?jr
  case j1 => exact Bl
  case j2 => exact F
  case j3 => exact X
  case j4 => exact T
  case j5 => exact rfl
  case j6 => decide
  case j7 => decide
  case j8 => exact neN (by show @Ne Nat bk sd; omega)
  case j9 => exact neN (by show @Ne Nat bk d; omega)
  case ja => exact neN (by show @Ne Nat sd d; omega)
  case jb => exact fun p hp => .tail _ (.tail _ hp)
  case jc => omega
  case jd => omega
  case je => omega
  case jf => exact fun k v e => (hKs _ (get_mem e)).2
  case jg => exact fun k v e => (hKs _ (get_mem e)).1
  intro h4 tk4 tv xs o4 osd4 B4 SD4 root4 v0 v1 v2 v3 v4 v5 v6 v7 v8 v9 kF5 kN5 hxs hB4 hp4 hBl4 hTs4 hAD
  have ha1' : aim < 256 ^ size.toNat := by rw [← hspan]; exact ha1
  obtain ⟨q1, q2⟩ := ask_told hs0 hs1 hdep ha0 ha1' hS hFi hBz hroot hAD
  clear hAD
  (try dsimp only)
  walk1
  (try dsimp only)
  rename Fr h₀ _ _ _ => kF7
  rename News h₀ _ _ _ => kN7
  by_cases hc : clearP (nm Ds es) KD aim (depth.toNat + 1)
  · refine turn_B2 (tv := tv) (d := d) (bk := bk) Bl X T kF7 kN7 (List.mem_append_right _ (.tail _ (.tail _ (.tail _ (.head _))))) hTk hklo (hLA.mono fun p hp => List.mem_append_right _ (.tail _ (.tail _ (.tail _ (.tail _ (.tail _ hp)))))) hel hs0 hs1 hdep ha0 ha65 hc fun h' tk' F' N' => ?_
    exact next _ _ tv xs o4 osd4 ok B4 SD4 KD root4 _ _ _ _ _ _ _ _ _ _ F' N' hxs hB4 hp4 (by omega) hTs4 hTk (by omega) (hFi.mono hp4) hKs (q1 hc)
  · obtain ⟨rfl, rfl, rfl, rfl, hr4⟩ := q2 hc
    have hr5 : root4 = root.toArray := by rw [← hr4, Array.toArray_toList]
    subst hr5
    exact turn_B3 Bl X T kF7 kN7 hTs4 hs0 hs1 hdep hspan hdf c1 c2 c3 c4 hoff hx hH hLA hel hnl hblo hslo hklo hhlo hTk hTh hHz hKz hok hS hFi hKs hroot hB4 hBl ha0 ha1 hk0 hk1 hv0 hv1 hc next
end
end
section
local macro_rules | `(tactic| walk_at "no such key 104") => `(tactic| fail)
local macro_rules | `(tactic| walk_at "no such key 105") => `(tactic| fail)
theorem off_106 : True := by
  w_top off
  trivial
section
variable {prog : Program} {w : World} {p : Program} {loose : List Str} {mean : ExcName → Option Value} {mg mb m0 : Str → Option Value} {h₀ : Heap} {L fa sa : Addr} {cd : Value} {s : Shared} {Q : Flow → Shared → Prop} {E : Value → Shared → Prop}
theorem turn_C0 {num size depth span way : Int} {tn t1 t2 t3 t4 t5 t6 : Tok} {f le he bk ll kn x sd d : Addr} {df : Array UInt8} {w2 w3 w4 w5 w6 : Option Value} {root : By} {val b : Array UInt8} {aim kind : Int} {ta tb tc td te : Tok} {ok oh osd : Obj} {KD : List (By × By)} {HD : List (Int × By)} {news : Led} (Bl : Below callerA h₀ [] h₀) (X : (hd.heap_39 w.params).In h₀) (T : Top p loose mean mg mb h₀)
    (F : Fr h₀ L s.heap (ovr [(Str.ofString "told", some (.bytes b te)), (Str.ofString "value", some (.bytes val ta)), (Str.ofString "key", some (.bytes (be size.toNat aim).toArray tb)), (Str.ofString "aim", some (.int aim tc)), (Str.ofString "kind", some (.int kind td)), (Str.ofString "number", some (.int num tn)), (Str.ofString "kind", w2), (Str.ofString "aim", w3), (Str.ofString "key", w4), (Str.ofString "value", w5), (Str.ofString "told", w6), (Str.ofString "levels", some (.ref ll)), (Str.ofString "root", some (.bytes root.toArray t6)), (Str.ofString "tree", some (.ref x)), (Str.ofString "store", some (.ref sd)), (Str.ofString "known", some (.ref kn)), (Str.ofString "way", some (.int way t5)), (Str.ofString "held", some (.ref he)), (Str.ofString "empty", some (.ref le)), (Str.ofString "hash_of", some (.ref f)), (Str.ofString "default", some (.bytes df t4)), (Str.ofString "span", some (.int span t3)), (Str.ofString "depth", some (.int depth t2)), (Str.ofString "size", some (.int size t1))] m0)) (N : News h₀ L s.heap news) (hkn : (kn, ok) ∈ news) (hsd : (sd, osd) ∈ news) (hhe : (he, oh) ∈ news) (hTk : Tab (bytesKind prog w) ok KD) (hTs : Tab (bytesKind prog w) osd KD) (hTh : Tab (intKind prog w) oh HD)
    (hklo : (kn == sysModules) = false) (hslo : (sd == sysModules) = false) (hhlo : (he == sysModules) = false) (hk : kind = 0) (hV : b.toList = gd HD aim df.toList)
    (fin : ∀ h' tk', Fr h₀ L h' (ovr [(Str.ofString "told", some (.bytes b te)), (Str.ofString "value", some (.bytes val ta)), (Str.ofString "key", some (.bytes (be size.toNat aim).toArray tb)), (Str.ofString "aim", some (.int aim tc)), (Str.ofString "kind", some (.int kind td)), (Str.ofString "number", some (.int num tn)), (Str.ofString "kind", w2), (Str.ofString "aim", w3), (Str.ofString "key", w4), (Str.ofString "value", w5), (Str.ofString "told", w6), (Str.ofString "levels", some (.ref ll)), (Str.ofString "root", some (.bytes root.toArray t6)), (Str.ofString "tree", some (.ref x)), (Str.ofString "store", some (.ref sd)), (Str.ofString "known", some (.ref kn)), (Str.ofString "way", some (.int way t5)), (Str.ofString "held", some (.ref he)), (Str.ofString "empty", some (.ref le)), (Str.ofString "hash_of", some (.ref f)), (Str.ofString "default", some (.bytes df t4)), (Str.ofString "span", some (.int span t3)), (Str.ofString "depth", some (.int depth t2)), (Str.ofString "size", some (.int size t1))] m0) → News h₀ L h' news → Q .next { s with heap := h', toks := tk' }) :
    wpAny (model prog w) (callerA.deeper (envOf (Str.ofString "law") lawScope L fa cd)) (execs (List.drop 6 turnBody) (envOf (Str.ofString "law") lawScope L fa cd)) Q E s := by
  subst hk
  conv in (List.drop 6 turnBody) => whnf
  repeat (conv in lawScope => whnf)
  k_steps
  · rename (_ != _) = true => hb
    rw [List.toList_toArray, hV] at hb
    have hb2 : (gd HD aim df.toList != gd HD aim df.toList) = true := hb
    simp at hb2
  · rename Fr h₀ _ _ _ => kF
    rename News h₀ _ _ _ => kN
    exact fin _ _ kF kN
theorem turn_C3 {num size depth span way : Int} {tn t1 t2 t3 t4 t5 t6 : Tok} {f le he bk ll kn x sd d : Addr} {df : Array UInt8} {w2 w3 w4 w5 w6 : Option Value} {root : By} {val : Array UInt8} {aim kind : Int} {ta tb tc td te : Tok} {r : Addr} {orr : Obj} {ok oh osd : Obj} {KD : List (By × By)} {Ds : List (List (Int × By))} {es : List By} {news : Led} (Bl : Below callerA h₀ [] h₀) (X : (hd.heap_39 w.params).In h₀) (T : Top p loose mean mg mb h₀)
    (F : Fr h₀ L s.heap (ovr [(Str.ofString "told", some (.ref r)), (Str.ofString "value", some (.bytes val ta)), (Str.ofString "key", some (.bytes (be size.toNat aim).toArray tb)), (Str.ofString "aim", some (.int aim tc)), (Str.ofString "kind", some (.int kind td)), (Str.ofString "number", some (.int num tn)), (Str.ofString "kind", w2), (Str.ofString "aim", w3), (Str.ofString "key", w4), (Str.ofString "value", w5), (Str.ofString "told", w6), (Str.ofString "levels", some (.ref ll)), (Str.ofString "root", some (.bytes root.toArray t6)), (Str.ofString "tree", some (.ref x)), (Str.ofString "store", some (.ref sd)), (Str.ofString "known", some (.ref kn)), (Str.ofString "way", some (.int way t5)), (Str.ofString "held", some (.ref he)), (Str.ofString "empty", some (.ref le)), (Str.ofString "hash_of", some (.ref f)), (Str.ofString "default", some (.bytes df t4)), (Str.ofString "span", some (.int span t3)), (Str.ofString "depth", some (.int depth t2)), (Str.ofString "size", some (.int size t1))] m0)) (N : News h₀ L s.heap news) (hkn : (kn, ok) ∈ news) (hsd : (sd, osd) ∈ news) (hr : (r, orr) ∈ news) (hTk : Tab (bytesKind prog w) ok KD) (hTs : Tab (bytesKind prog w) osd KD)
    (hklo : (kn == sysModules) = false) (hslo : (sd == sysModules) = false) (hk : kind = 3) (hTT : TupB orr (downL (sideF (nm Ds es) aim) depth.toNat depth.toNat))
    (hLA : LevAt prog w news ll le Ds es) (hel : es.length = depth.toNat + 1) (hs0 : 1 ≤ size) (hs1 : size ≤ 2) (hdep : depth = 8 * size) (ha0 : 0 ≤ aim) (ha1 : aim < 65536)
    (fin : ∀ h' tk', Fr h₀ L h' (ovr [(Str.ofString "told", some (.ref r)), (Str.ofString "value", some (.bytes val ta)), (Str.ofString "key", some (.bytes (be size.toNat aim).toArray tb)), (Str.ofString "aim", some (.int aim tc)), (Str.ofString "kind", some (.int kind td)), (Str.ofString "number", some (.int num tn)), (Str.ofString "kind", w2), (Str.ofString "aim", w3), (Str.ofString "key", w4), (Str.ofString "value", w5), (Str.ofString "told", w6), (Str.ofString "levels", some (.ref ll)), (Str.ofString "root", some (.bytes root.toArray t6)), (Str.ofString "tree", some (.ref x)), (Str.ofString "store", some (.ref sd)), (Str.ofString "known", some (.ref kn)), (Str.ofString "way", some (.int way t5)), (Str.ofString "held", some (.ref he)), (Str.ofString "empty", some (.ref le)), (Str.ofString "hash_of", some (.ref f)), (Str.ofString "default", some (.bytes df t4)), (Str.ofString "span", some (.int span t3)), (Str.ofString "depth", some (.int depth t2)), (Str.ofString "size", some (.int size t1))] m0) → News h₀ L h' news → Q .next { s with heap := h', toks := tk' }) :
    wpAny (model prog w) (callerA.deeper (envOf (Str.ofString "law") lawScope L fa cd)) (execs (List.drop 6 turnBody) (envOf (Str.ofString "law") lawScope L fa cd)) Q E s := by
  subst hk
  conv in (List.drop 6 turnBody) => whnf
  repeat (conv in lawScope => whnf)
  k_steps
  · rename Fr h₀ _ _ _ => kF
    rename News h₀ _ _ _ => kN
    exact fin _ _ kF (fun p hp => kN p (.tail _ hp))
  · rename ¬ _ = _ => hb
    exact absurd rfl hb
end
end
section
theorem off_107 : True := by
  w_top off
  trivial
theorem News.fin7 {h₀ h : Heap} {L : Addr} {w b r : Addr × Obj} {R : Led} (N : News h₀ L h (w :: b :: r :: R)) : News h₀ L h (b :: R) := fun p hp => N p (by
  simp only [List.mem_cons] at hp ⊢
  rcases hp with h | h <;> simp [h])
theorem News.kf5 {h₀ h : Heap} {L : Addr} {a b c e k : Addr × Obj} {R : Led} (N : News h₀ L h (a :: b :: c :: e :: k :: R)) : News h₀ L h (k :: (a :: b :: c :: e :: R)) := fun p hp => N p (by
  simp only [List.mem_cons] at hp ⊢
  rcases hp with h | h | h | h | h | h <;> simp [h])
theorem News.kb5 {h₀ h : Heap} {L : Addr} {a b c e k : Addr × Obj} {R : Led} (N : News h₀ L h (k :: (a :: b :: c :: e :: R))) : News h₀ L h (a :: b :: c :: e :: k :: R) := fun p hp => N p (by
  simp only [List.mem_cons] at hp ⊢
  rcases hp with h | h | h | h | h | h <;> simp [h])
theorem News.cs {h₀ h : Heap} {L : Addr} {a b r s d k e : Addr × Obj} {l R : Led} (N : News h₀ L h (a :: b :: (l ++ (r :: s :: d :: k :: e :: R)))) : News h₀ L h (b :: r :: s :: d :: k :: e :: a :: (l ++ R)) := fun p hp => N p (by
  simp only [List.mem_cons, List.mem_append] at hp ⊢
  rcases hp with h | h | h | h | h | h | h | h | h <;> simp [h])
section
variable {prog : Program} {w : World} {p : Program} {loose : List Str} {mean : ExcName → Option Value} {mg mb m0 : Str → Option Value} {h₀ : Heap} {L fa sa : Addr} {cd : Value} {s : Shared} {Q : Flow → Shared → Prop} {E : Value → Shared → Prop}
theorem turn_CS1 {num size depth span way : Int} {tn t1 t2 t3 t4 t5 t6 : Tok} {f le he bk ll kn x sd d : Addr} {df : Array UInt8} {w2 w3 w4 w5 w6 : Option Value} {root : By} {val : Array UInt8} {aim kind : Int} {ta tb tc td te : Tok} {r : Addr} {orr : Obj} {o osd ok oh : Obj} {B : List By} {KD : List (By × By)} {HD : List (Int × By)} {Ds : List (List (Int × By))} {es : List By} {R2 : Led} {SD1 : List (By × By)} {root' : Array UInt8} {ns : List By} {node : By} {u0 u1 u2 u3 u4 u5 u6 u7 u8 u9 : Tok} (Bl : Below callerA h₀ [] h₀) (X : (hd.heap_39 w.params).In h₀) (T : Top p loose mean mg mb h₀)
    (F : Fr h₀ L s.heap (ovr [(Str.ofString "told", some (.ref r)), (Str.ofString "value", some (.bytes val ta)), (Str.ofString "key", some (.bytes (be size.toNat aim).toArray tb)), (Str.ofString "aim", some (.int aim tc)), (Str.ofString "kind", some (.int kind td)), (Str.ofString "number", some (.int num tn)), (Str.ofString "kind", w2), (Str.ofString "aim", w3), (Str.ofString "key", w4), (Str.ofString "value", w5), (Str.ofString "told", w6), (Str.ofString "levels", some (.ref ll)), (Str.ofString "root", some (.bytes root.toArray t6)), (Str.ofString "tree", some (.ref x)), (Str.ofString "store", some (.ref sd)), (Str.ofString "known", some (.ref kn)), (Str.ofString "way", some (.int way t5)), (Str.ofString "held", some (.ref he)), (Str.ofString "empty", some (.ref le)), (Str.ofString "hash_of", some (.ref f)), (Str.ofString "default", some (.bytes df t4)), (Str.ofString "span", some (.int span t3)), (Str.ofString "depth", some (.int depth t2)), (Str.ofString "size", some (.int size t1))] m0)) (N : News h₀ L s.heap ((r, orr) :: (bk, o) :: (sd, osd) :: (d, dictOf (treeL w size df f sd root' u0 u1 u2 u3 u4 u5 u6 u7 u8 u9) 6) :: (kn, ok) :: (he, oh) :: R2)) (hTs : Tab (bytesKind prog w) osd (put SD1 root'.toList node)) (hs0 : 1 ≤ size) (hs1 : size ≤ 2) (hdep : depth = 8 * size) (hspan : span = 256 ^ size.toNat) (hdf : df.size = 1) (c1 : @LT.lt Nat _ bk he) (c2 : @LT.lt Nat _ he kn) (c3 : @LT.lt Nat _ kn sd) (c4 : @LT.lt Nat _ sd d) (hoff : OwnOff R2 [bk, sd, d, kn, he]) (hx : (x, instObj 161 d) ∈ R2) (hH : HashFn R2 f bk) (hLA : LevAt prog w R2 ll le Ds es) (hel : es.length = depth.toNat + 1) (hnl : ∀ h p, (nm Ds es h p).length ≤ 32) (hblo : (bk == sysModules) = false) (hslo : (sd == sysModules) = false) (hklo : (kn == sysModules) = false) (hhlo : (he == sysModules) = false) (hTk : Tab (bytesKind prog w) ok KD) (hTh : Tab (intKind prog w) oh HD) (hHz : HD.length ≤ 15) (hKz : KD.length ≤ 800000) (hok : HeldOk span HD) (hS : Shape B (nm Ds es) (fun p => gd HD p df.toList) depth.toNat) (hFi : Fits B KD) (hKs : ∀ p ∈ KD, p.2 ≠ [] ∧ p.2.length ≤ 300) (hroot : root = nm Ds es depth.toNat 0) (hB : Book (prog := prog) (w := w) o B) (hBl : B.length ≤ 800000) (ha0 : 0 ≤ aim) (ha1 : aim < span) (hk0 : 0 ≤ kind) (hk1 : kind < 4) (hv0 : val.toList ≠ []) (hv1 : val.size ≤ 300)
    (hk : kind = 1) (hr0 : ∀ p ∈ (kn, ok) :: (he, oh) :: R2, @LT.lt Nat _ p.1 r) (hTT : TupB orr ns.reverse) (hE : Emp B df.toList es) (hW : SetW B (bitS aim) (upL (sideF (nm Ds es) aim) depth.toNat) val.toList KD depth.toNat node ns SD1) (hNm : Named B node root'.toList)
    (fin : ∀ h' tk' ll2 oll2 lvs2 Ds2 o2 ok2 oh2 B2 t6', Fr h₀ L h' (ovr [(Str.ofString "root", some (.bytes (nm Ds2 es depth.toNat 0).toArray t6')), (Str.ofString "levels", some (.ref ll2)), (Str.ofString "told", some (.ref r)), (Str.ofString "value", some (.bytes val ta)), (Str.ofString "key", some (.bytes (be size.toNat aim).toArray tb)), (Str.ofString "aim", some (.int aim tc)), (Str.ofString "kind", some (.int kind td)), (Str.ofString "number", some (.int num tn)), (Str.ofString "kind", w2), (Str.ofString "aim", w3), (Str.ofString "key", w4), (Str.ofString "value", w5), (Str.ofString "told", w6), (Str.ofString "levels", some (.ref ll)), (Str.ofString "root", some (.bytes root.toArray t6)), (Str.ofString "tree", some (.ref x)), (Str.ofString "store", some (.ref sd)), (Str.ofString "known", some (.ref kn)), (Str.ofString "way", some (.int way t5)), (Str.ofString "held", some (.ref he)), (Str.ofString "empty", some (.ref le)), (Str.ofString "hash_of", some (.ref f)), (Str.ofString "default", some (.bytes df t4)), (Str.ofString "span", some (.int span t3)), (Str.ofString "depth", some (.int depth t2)), (Str.ofString "size", some (.int size t1))] m0) →
      News h₀ L h' ((bk, o2) :: (sd, osd) :: (d, dictOf (treeL w size df f sd root' u0 u1 u2 u3 u4 u5 u6 u7 u8 u9) 6) :: (kn, ok2) :: (he, oh2) :: (ll2, oll2) :: (lvs2 ++ R2)) →
      (∀ p ∈ (ll2, oll2) :: lvs2, (∀ q ∈ R2, @LT.lt Nat _ q.1 p.1) ∧ p.1 ≠ bk ∧ p.1 ≠ sd ∧ p.1 ≠ d ∧ p.1 ≠ kn ∧ p.1 ≠ he) →
      Book (prog := prog) (w := w) o2 B2 → B <+: B2 → B2.length ≤ B.length + 300 → Tab (bytesKind prog w) osd (layD (nm Ds2 es) val.toList aim KD depth.toNat) → Tab (bytesKind prog w) ok2 (layD (nm Ds2 es) val.toList aim KD depth.toNat) → Tab (intKind prog w) oh2 (put HD aim val.toList) →
      ListV oll2 (lvs2.map fun p => .ref p.1) → LevT prog w lvs2 Ds2 → lvs2.length = depth.toNat + 1 → Levels B2 (put HD aim val.toList) es Ds2 → Shape B2 (nm Ds2 es) (fun p => gd (put HD aim val.toList) p df.toList) depth.toNat → root'.toList = nm Ds2 es depth.toNat 0 →
      Q .next { s with heap := h', toks := tk' }) :
    wpAny (model prog w) (callerA.deeper (envOf (Str.ofString "law") lawScope L fa cd)) (execs (List.drop 6 turnBody) (envOf (Str.ofString "law") lawScope L fa cd)) Q E s := by
  have hBz : B.length ≤ 16777216 := by omega
  have ha65 : aim < 65536 := Int.lt_of_lt_of_le ha1 (by rw [hspan]; exact (pow_span hs0 hs1).2)
  obtain ⟨oll, lvs, ol, hm1, hm2, hm3, hm4, hle, hol, hm5, hm6⟩ := hLA
  have hrk : @LT.lt Nat _ kn r := hr0 _ (.head _)
  have hrh : @LT.lt Nat _ he r := hr0 _ (.tail _ (.head _))
  subst hk
  conv in (List.drop 6 turnBody) => whnf
  repeat (conv in lawScope => whnf)
  k_steps
  rename Fr h₀ _ _ _ => kF
  rename News h₀ _ _ _ => kN
  rename Tab (intKind _ _) _ (put _ _ _) => hT2
  have hrb : r ≠ bk := apart kN (.head _) (.tail _ (.head _)) (by
    obtain ⟨vs, rfl, _⟩ := hTT
    obtain ⟨es', n', hd⟩ := hB.dict
    rw [hd]; nofun)
  have hrs : r ≠ sd := apart kN (.head _) (.tail _ (.tail _ (.head _))) (by
    obtain ⟨vs, rfl, _⟩ := hTT
    obtain ⟨es', n', hd⟩ := Tab.dict hTs
    rw [hd]; nofun)
  have hrd : r ≠ d := apart kN (.head _) (.tail _ (.tail _ (.tail _ (.head _)))) (by
    obtain ⟨vs, rfl, _⟩ := hTT
    nofun)
  refine Stop.get ?_
  refine' levels_call ?k1 ?k2 ?k3 ?k4 ?k5 ?k6 ?k7 (News.swap2 kN) ?k8 ?k9 hB ?ka hblo ?kb ?kc (.tail _ (.tail _ (.tail _ (.tail _ (.head _))))) hT2 hhlo ?kd (.tail _ (.tail _ (.tail _ (.tail _ (.tail _ hle))))) hol hel hE.len ?ret
  case k1 => exact Bl
  case k2 => exact kF
  case k3 => exact X
  case k4 => exact T
  case k5 => exact rfl
  case k6 => decide
  case k7 => decide
  case k8 =>
    refine offs fun p hp b hb => ?_
    rw [List.mem_singleton.mp hb]
    rcases List.mem_cons.mp hp with rfl | hp
    · exact hrb
    rcases List.mem_cons.mp hp with rfl | hp
    · exact neN (by show @Ne Nat sd bk; omega)
    rcases List.mem_cons.mp hp with rfl | hp
    · exact neN (by show @Ne Nat d bk; omega)
    rcases List.mem_cons.mp hp with rfl | hp
    · exact neN (by show @Ne Nat kn bk; omega)
    rcases List.mem_cons.mp hp with rfl | hp
    · exact neN (by show @Ne Nat he bk; omega)
    · exact hoff p hp _ (.head _)
  case k9 => exact hH.mono fun p hp => .tail _ (.tail _ (.tail _ (.tail _ (.tail _ hp))))
  case ka => omega
  case kb => omega
  case kc => omega
  case kd => exact Nat.le_trans (put_length_le _ _ _) (by omega)
  intro h2 tk2 ll2 oll2 o2 B2 lvs2 Ds2 kF2 kN2 q1 q2 q3 hB2 hp2 hBl2 hll2 hLT2 hlv2 hLs2
  have hS2 : Shape B2 (nm Ds2 es) (fun p => gd (put HD aim val.toList) p df.toList) depth.toNat := shape_of (hE.mono hp2) hel hLs2 (by rw [← hLT2.length]; exact hlv2)
  have hVo : ∀ p, p ≠ aim → gd (put HD aim val.toList) p df.toList = gd HD p df.toList := fun p hp => by unfold gd; rw [get_put_ne _ _ hp]
  have hVa : gd (put HD aim val.toList) aim df.toList = val.toList := by unfold gd; rw [get_put_self]; rfl
  obtain ⟨e1, e2, e3⟩ := setW_end hS hS2 hp2 hB2.nodup hVo hVa (hW.mono hp2) (hNm.mono hp2)
  have ha1' : aim < 2 ^ depth.toNat := by rw [hdep, ← (pow_span hs0 hs1).1, ← hspan]; exact ha1
  rw [way_top ha0 ha1'] at e2
  rw [e3] at hTs
  rw [e1] at hTT
  have hnl2 := nm_len hE.len hLs2.len
  have kN3 := News.cs kN2
  have hLA2 : LevAt prog w ((ll2, oll2) :: (lvs2 ++ R2)) ll2 le Ds2 es := ⟨oll2, lvs2, ol, .head _, hll2, fun p hp => .tail _ (List.mem_append_left _ hp), hLT2, .tail _ (List.mem_append_right _ hle), hol, by omega, by omega⟩
  have hnew : ∀ p ∈ (ll2, oll2) :: lvs2, (∀ q ∈ R2, @LT.lt Nat _ q.1 p.1) ∧ p.1 ≠ bk ∧ p.1 ≠ sd ∧ p.1 ≠ d ∧ p.1 ≠ kn ∧ p.1 ≠ he := fun p hp => by
    rcases List.mem_cons.mp hp with rfl | hp
    · exact ⟨fun q hq => q2 q (.tail _ (.tail _ (.tail _ (.tail _ (.tail _ hq))))), Nat.ne_of_gt q1, Nat.ne_of_gt (q2 _ (.tail _ (.head _))), Nat.ne_of_gt (q2 _ (.tail _ (.tail _ (.head _)))), Nat.ne_of_gt (q2 _ (.tail _ (.tail _ (.tail _ (.head _))))), Nat.ne_of_gt (q2 _ (.tail _ (.tail _ (.tail _ (.tail _ (.head _))))))⟩
    · obtain ⟨a1, a2, a3⟩ := q3 p hp
      exact ⟨fun q hq => a1 q (.tail _ (.tail _ (.tail _ (.tail _ (.tail _ hq))))), Nat.ne_of_gt a2, Nat.ne_of_gt (a1 _ (.tail _ (.head _))), Nat.ne_of_gt (a1 _ (.tail _ (.tail _ (.head _)))), Nat.ne_of_gt (a1 _ (.tail _ (.tail _ (.tail _ (.head _))))), Nat.ne_of_gt (a1 _ (.tail _ (.tail _ (.tail _ (.tail _ (.head _))))))⟩
  (try clear kN)
  (try clear kN2)
  (try clear N)
  (try clear F)
  (try clear hm1)
  (try clear hm3)
  k_steps
  rename Fr h₀ _ _ _ => kF3
  rename News h₀ _ _ _ => kN4
  refine Stop.get ?_
  refine' lay_call ?y1 ?y2 ?y3 ?y4 ?y5 ?y6 ?y7 (News.kf5 kN4) ?y0 (hLA2.mono ?y8) hTk ?y9 (.tail _ (.tail _ (.tail _ (.tail _ (.head _))))) hT2 hhlo ha0 ha65 ?yb ?yc hel hnl2 ?yr
  case y1 => exact Bl
  case y2 => exact kF3
  case y3 => exact X
  case y4 => exact T
  case y5 => exact rfl
  case y6 => decide
  case y7 => decide
  case y0 =>
    refine offs fun p hp b hb => ?_
    rw [List.mem_singleton.mp hb]
    rcases List.mem_cons.mp hp with rfl | hp
    · exact neN (by show @Ne Nat bk kn; omega)
    rcases List.mem_cons.mp hp with rfl | hp
    · exact Nat.ne_of_gt hrk
    rcases List.mem_cons.mp hp with rfl | hp
    · exact neN (by show @Ne Nat sd kn; omega)
    rcases List.mem_cons.mp hp with rfl | hp
    · exact neN (by show @Ne Nat d kn; omega)
    rcases List.mem_cons.mp hp with rfl | hp
    · exact neN (by show @Ne Nat he kn; omega)
    rcases List.mem_cons.mp hp with rfl | hp
    · exact (hnew _ (.head _)).2.2.2.2.1
    rcases List.mem_append.mp hp with hp | hp
    · exact (hnew _ (.tail _ hp)).2.2.2.2.1
    · exact hoff p hp _ (.tail _ (.tail _ (.tail _ (.head _))))
  case y8 => exact fun p hp => .tail _ (.tail _ (.tail _ (.tail _ (.tail _ hp))))
  case y9 => omega
  case yb => omega
  case yc => omega
  intro h3 tk3 ok3 kF5 kN5 hTk3
  have kN6 := News.kb5 kN5
  rw [hVa] at hTk3
  have hlz := layD_length (nm Ds2 es) val.toList aim KD depth.toNat
  generalize hKD : layD (nm Ds2 es) val.toList aim KD depth.toNat = KD2 at hTk3 hlz hTs fin
  have hroot2 : root'.toList = nm Ds2 es depth.toNat 0 := e2
  have hd2 : (d, dictOf (treeL w size df f sd root' u0 u1 u2 u3 u4 u5 u6 u7 u8 u9) 6) ∈ ((bk, o2) :: (r, orr) :: (sd, osd) :: (d, dictOf (treeL w size df f sd root' u0 u1 u2 u3 u4 u5 u6 u7 u8 u9) 6) :: ([] : Led)) := .tail _ (.tail _ (.tail _ (.head _)))
  have hx2 : (x, instObj 161 d) ∈ lvs2 ++ R2 := List.mem_append_right _ hx
  (try clear kN4)
  (try clear kN5)
  (try clear kF3)
  k_steps
  · rename (_ != _) = true => hb
    rw [List.toList_toArray, hroot2] at hb
    simp at hb
  · rename Fr h₀ _ _ _ => kF
    rename News h₀ _ _ _ => kN
    exact fin _ _ ll2 oll2 lvs2 Ds2 o2 ok3 _ B2 _ kF (News.fin7 kN) hnew hB2 hp2 (by omega) (by rw [hKD]; exact hTs) (by rw [hKD]; exact hTk3) hT2 hll2 hLT2 hlv2 hLs2 hS2 hroot2
  · rename ¬ _ = _ => hb
    exact absurd rfl hb
end
end
section
local macro_rules | `(tactic| walk_at "no such key 108") => `(tactic| fail)
theorem off_109 : True := by
  w_top off
  trivial
section
variable {prog : Program} {w : World} {p : Program} {loose : List Str} {mean : ExcName → Option Value} {mg mb m0 : Str → Option Value} {h₀ : Heap} {L fa sa : Addr} {cd : Value} {s : Shared} {Q : Flow → Shared → Prop} {E : Value → Shared → Prop}
theorem turn_CS2 {num size depth span way : Int} {tn t1 t2 t3 t4 t5 t6 : Tok} {f le he bk ll kn x sd d : Addr} {df : Array UInt8} {w2 w3 w4 w5 w6 : Option Value} {root : By} {val : Array UInt8} {aim kind : Int} {ta tb tc td te : Tok} {r : Addr} {orr : Obj} {o osd ok oh : Obj} {B : List By} {KD : List (By × By)} {HD : List (Int × By)} {Ds : List (List (Int × By))} {es : List By} {R2 : Led} {SD1 : List (By × By)} {root' : Array UInt8} {ns : List By} {node : By} {u0 u1 u2 u3 u4 u5 u6 u7 u8 u9 : Tok} (Bl : Below callerA h₀ [] h₀) (X : (hd.heap_39 w.params).In h₀) (T : Top p loose mean mg mb h₀)
    (F : Fr h₀ L s.heap (ovr [(Str.ofString "told", some (.ref r)), (Str.ofString "value", some (.bytes val ta)), (Str.ofString "key", some (.bytes (be size.toNat aim).toArray tb)), (Str.ofString "aim", some (.int aim tc)), (Str.ofString "kind", some (.int kind td)), (Str.ofString "number", some (.int num tn)), (Str.ofString "kind", w2), (Str.ofString "aim", w3), (Str.ofString "key", w4), (Str.ofString "value", w5), (Str.ofString "told", w6), (Str.ofString "levels", some (.ref ll)), (Str.ofString "root", some (.bytes root.toArray t6)), (Str.ofString "tree", some (.ref x)), (Str.ofString "store", some (.ref sd)), (Str.ofString "known", some (.ref kn)), (Str.ofString "way", some (.int way t5)), (Str.ofString "held", some (.ref he)), (Str.ofString "empty", some (.ref le)), (Str.ofString "hash_of", some (.ref f)), (Str.ofString "default", some (.bytes df t4)), (Str.ofString "span", some (.int span t3)), (Str.ofString "depth", some (.int depth t2)), (Str.ofString "size", some (.int size t1))] m0)) (N : News h₀ L s.heap ((r, orr) :: (bk, o) :: (sd, osd) :: (d, dictOf (treeL w size df f sd root' u0 u1 u2 u3 u4 u5 u6 u7 u8 u9) 6) :: (kn, ok) :: (he, oh) :: R2)) (hTs : Tab (bytesKind prog w) osd (put SD1 root'.toList node)) (hs0 : 1 ≤ size) (hs1 : size ≤ 2) (hdep : depth = 8 * size) (hspan : span = 256 ^ size.toNat) (hdf : df.size = 1) (c1 : @LT.lt Nat _ bk he) (c2 : @LT.lt Nat _ he kn) (c3 : @LT.lt Nat _ kn sd) (c4 : @LT.lt Nat _ sd d) (hoff : OwnOff R2 [bk, sd, d, kn, he]) (hx : (x, instObj 161 d) ∈ R2) (hH : HashFn R2 f bk) (hLA : LevAt prog w R2 ll le Ds es) (hel : es.length = depth.toNat + 1) (hnl : ∀ h p, (nm Ds es h p).length ≤ 32) (hblo : (bk == sysModules) = false) (hslo : (sd == sysModules) = false) (hklo : (kn == sysModules) = false) (hhlo : (he == sysModules) = false) (hTk : Tab (bytesKind prog w) ok KD) (hTh : Tab (intKind prog w) oh HD) (hHz : HD.length ≤ 15) (hKz : KD.length ≤ 800000) (hok : HeldOk span HD) (hS : Shape B (nm Ds es) (fun p => gd HD p df.toList) depth.toNat) (hFi : Fits B KD) (hKs : ∀ p ∈ KD, p.2 ≠ [] ∧ p.2.length ≤ 300) (hroot : root = nm Ds es depth.toNat 0) (hB : Book (prog := prog) (w := w) o B) (hBl : B.length ≤ 800000) (ha0 : 0 ≤ aim) (ha1 : aim < span) (hk0 : 0 ≤ kind) (hk1 : kind < 4) (hv0 : val.toList ≠ []) (hv1 : val.size ≤ 300)
    (hk : kind = 2) (hr0 : ∀ p ∈ (kn, ok) :: (he, oh) :: R2, @LT.lt Nat _ p.1 r) (hTT : TupB orr ns.reverse) (hE : Emp B df.toList es) (hW : SetW B (bitS aim) (upL (sideF (nm Ds es) aim) depth.toNat) val.toList KD depth.toNat node ns SD1) (hNm : Named B node root'.toList)
    (fin : ∀ h' tk' ll2 oll2 lvs2 Ds2 o2 ok2 oh2 B2 t6', Fr h₀ L h' (ovr [(Str.ofString "root", some (.bytes (nm Ds2 es depth.toNat 0).toArray t6')), (Str.ofString "levels", some (.ref ll2)), (Str.ofString "told", some (.ref r)), (Str.ofString "value", some (.bytes val ta)), (Str.ofString "key", some (.bytes (be size.toNat aim).toArray tb)), (Str.ofString "aim", some (.int aim tc)), (Str.ofString "kind", some (.int kind td)), (Str.ofString "number", some (.int num tn)), (Str.ofString "kind", w2), (Str.ofString "aim", w3), (Str.ofString "key", w4), (Str.ofString "value", w5), (Str.ofString "told", w6), (Str.ofString "levels", some (.ref ll)), (Str.ofString "root", some (.bytes root.toArray t6)), (Str.ofString "tree", some (.ref x)), (Str.ofString "store", some (.ref sd)), (Str.ofString "known", some (.ref kn)), (Str.ofString "way", some (.int way t5)), (Str.ofString "held", some (.ref he)), (Str.ofString "empty", some (.ref le)), (Str.ofString "hash_of", some (.ref f)), (Str.ofString "default", some (.bytes df t4)), (Str.ofString "span", some (.int span t3)), (Str.ofString "depth", some (.int depth t2)), (Str.ofString "size", some (.int size t1))] m0) →
      News h₀ L h' ((bk, o2) :: (sd, osd) :: (d, dictOf (treeL w size df f sd root' u0 u1 u2 u3 u4 u5 u6 u7 u8 u9) 6) :: (kn, ok2) :: (he, oh2) :: (ll2, oll2) :: (lvs2 ++ R2)) →
      (∀ p ∈ (ll2, oll2) :: lvs2, (∀ q ∈ R2, @LT.lt Nat _ q.1 p.1) ∧ p.1 ≠ bk ∧ p.1 ≠ sd ∧ p.1 ≠ d ∧ p.1 ≠ kn ∧ p.1 ≠ he) →
      Book (prog := prog) (w := w) o2 B2 → B <+: B2 → B2.length ≤ B.length + 300 → Tab (bytesKind prog w) osd (layD (nm Ds2 es) val.toList aim KD depth.toNat) → Tab (bytesKind prog w) ok2 (layD (nm Ds2 es) val.toList aim KD depth.toNat) → Tab (intKind prog w) oh2 (put HD aim val.toList) →
      ListV oll2 (lvs2.map fun p => .ref p.1) → LevT prog w lvs2 Ds2 → lvs2.length = depth.toNat + 1 → Levels B2 (put HD aim val.toList) es Ds2 → Shape B2 (nm Ds2 es) (fun p => gd (put HD aim val.toList) p df.toList) depth.toNat → root'.toList = nm Ds2 es depth.toNat 0 →
      Q .next { s with heap := h', toks := tk' }) :
    wpAny (model prog w) (callerA.deeper (envOf (Str.ofString "law") lawScope L fa cd)) (execs (List.drop 6 turnBody) (envOf (Str.ofString "law") lawScope L fa cd)) Q E s := by
  have hBz : B.length ≤ 16777216 := by omega
  have ha65 : aim < 65536 := Int.lt_of_lt_of_le ha1 (by rw [hspan]; exact (pow_span hs0 hs1).2)
  obtain ⟨oll, lvs, ol, hm1, hm2, hm3, hm4, hle, hol, hm5, hm6⟩ := hLA
  have hrk : @LT.lt Nat _ kn r := hr0 _ (.head _)
  have hrh : @LT.lt Nat _ he r := hr0 _ (.tail _ (.head _))
  subst hk
  conv in (List.drop 6 turnBody) => whnf
  repeat (conv in lawScope => whnf)
  k_steps
  rename Fr h₀ _ _ _ => kF
  rename News h₀ _ _ _ => kN
  rename Tab (intKind _ _) _ (put _ _ _) => hT2
  have hrb : r ≠ bk := apart kN (.head _) (.tail _ (.head _)) (by
    obtain ⟨vs, rfl, _⟩ := hTT
    obtain ⟨es', n', hd⟩ := hB.dict
    rw [hd]; nofun)
  have hrs : r ≠ sd := apart kN (.head _) (.tail _ (.tail _ (.head _))) (by
    obtain ⟨vs, rfl, _⟩ := hTT
    obtain ⟨es', n', hd⟩ := Tab.dict hTs
    rw [hd]; nofun)
  have hrd : r ≠ d := apart kN (.head _) (.tail _ (.tail _ (.tail _ (.head _)))) (by
    obtain ⟨vs, rfl, _⟩ := hTT
    nofun)
  refine Stop.get ?_
  refine' levels_call ?k1 ?k2 ?k3 ?k4 ?k5 ?k6 ?k7 (News.swap2 kN) ?k8 ?k9 hB ?ka hblo ?kb ?kc (.tail _ (.tail _ (.tail _ (.tail _ (.head _))))) hT2 hhlo ?kd (.tail _ (.tail _ (.tail _ (.tail _ (.tail _ hle))))) hol hel hE.len ?ret
  case k1 => exact Bl
  case k2 => exact kF
  case k3 => exact X
  case k4 => exact T
  case k5 => exact rfl
  case k6 => decide
  case k7 => decide
  case k8 =>
    refine offs fun p hp b hb => ?_
    rw [List.mem_singleton.mp hb]
    rcases List.mem_cons.mp hp with rfl | hp
    · exact hrb
    rcases List.mem_cons.mp hp with rfl | hp
    · exact neN (by show @Ne Nat sd bk; omega)
    rcases List.mem_cons.mp hp with rfl | hp
    · exact neN (by show @Ne Nat d bk; omega)
    rcases List.mem_cons.mp hp with rfl | hp
    · exact neN (by show @Ne Nat kn bk; omega)
    rcases List.mem_cons.mp hp with rfl | hp
    · exact neN (by show @Ne Nat he bk; omega)
    · exact hoff p hp _ (.head _)
  case k9 => exact hH.mono fun p hp => .tail _ (.tail _ (.tail _ (.tail _ (.tail _ hp))))
  case ka => omega
  case kb => omega
  case kc => omega
  case kd => exact Nat.le_trans (put_length_le _ _ _) (by omega)
  intro h2 tk2 ll2 oll2 o2 B2 lvs2 Ds2 kF2 kN2 q1 q2 q3 hB2 hp2 hBl2 hll2 hLT2 hlv2 hLs2
  have hS2 : Shape B2 (nm Ds2 es) (fun p => gd (put HD aim val.toList) p df.toList) depth.toNat := shape_of (hE.mono hp2) hel hLs2 (by rw [← hLT2.length]; exact hlv2)
  have hVo : ∀ p, p ≠ aim → gd (put HD aim val.toList) p df.toList = gd HD p df.toList := fun p hp => by unfold gd; rw [get_put_ne _ _ hp]
  have hVa : gd (put HD aim val.toList) aim df.toList = val.toList := by unfold gd; rw [get_put_self]; rfl
  obtain ⟨e1, e2, e3⟩ := setW_end hS hS2 hp2 hB2.nodup hVo hVa (hW.mono hp2) (hNm.mono hp2)
  have ha1' : aim < 2 ^ depth.toNat := by rw [hdep, ← (pow_span hs0 hs1).1, ← hspan]; exact ha1
  rw [way_top ha0 ha1'] at e2
  rw [e3] at hTs
  rw [e1] at hTT
  have hnl2 := nm_len hE.len hLs2.len
  have kN3 := News.cs kN2
  have hLA2 : LevAt prog w ((ll2, oll2) :: (lvs2 ++ R2)) ll2 le Ds2 es := ⟨oll2, lvs2, ol, .head _, hll2, fun p hp => .tail _ (List.mem_append_left _ hp), hLT2, .tail _ (List.mem_append_right _ hle), hol, by omega, by omega⟩
  have hnew : ∀ p ∈ (ll2, oll2) :: lvs2, (∀ q ∈ R2, @LT.lt Nat _ q.1 p.1) ∧ p.1 ≠ bk ∧ p.1 ≠ sd ∧ p.1 ≠ d ∧ p.1 ≠ kn ∧ p.1 ≠ he := fun p hp => by
    rcases List.mem_cons.mp hp with rfl | hp
    · exact ⟨fun q hq => q2 q (.tail _ (.tail _ (.tail _ (.tail _ (.tail _ hq))))), Nat.ne_of_gt q1, Nat.ne_of_gt (q2 _ (.tail _ (.head _))), Nat.ne_of_gt (q2 _ (.tail _ (.tail _ (.head _)))), Nat.ne_of_gt (q2 _ (.tail _ (.tail _ (.tail _ (.head _))))), Nat.ne_of_gt (q2 _ (.tail _ (.tail _ (.tail _ (.tail _ (.head _))))))⟩
    · obtain ⟨a1, a2, a3⟩ := q3 p hp
      exact ⟨fun q hq => a1 q (.tail _ (.tail _ (.tail _ (.tail _ (.tail _ hq))))), Nat.ne_of_gt a2, Nat.ne_of_gt (a1 _ (.tail _ (.head _))), Nat.ne_of_gt (a1 _ (.tail _ (.tail _ (.head _)))), Nat.ne_of_gt (a1 _ (.tail _ (.tail _ (.tail _ (.head _))))), Nat.ne_of_gt (a1 _ (.tail _ (.tail _ (.tail _ (.tail _ (.head _))))))⟩
  (try clear kN)
  (try clear kN2)
  (try clear N)
  (try clear F)
  (try clear hm1)
  (try clear hm3)
  k_steps
  rename Fr h₀ _ _ _ => kF3
  rename News h₀ _ _ _ => kN4
  refine Stop.get ?_
  refine' lay_call ?y1 ?y2 ?y3 ?y4 ?y5 ?y6 ?y7 (News.kf5 kN4) ?y0 (hLA2.mono ?y8) hTk ?y9 (.tail _ (.tail _ (.tail _ (.tail _ (.head _))))) hT2 hhlo ha0 ha65 ?yb ?yc hel hnl2 ?yr
  case y1 => exact Bl
  case y2 => exact kF3
  case y3 => exact X
  case y4 => exact T
  case y5 => exact rfl
  case y6 => decide
  case y7 => decide
  case y0 =>
    refine offs fun p hp b hb => ?_
    rw [List.mem_singleton.mp hb]
    rcases List.mem_cons.mp hp with rfl | hp
    · exact neN (by show @Ne Nat bk kn; omega)
    rcases List.mem_cons.mp hp with rfl | hp
    · exact Nat.ne_of_gt hrk
    rcases List.mem_cons.mp hp with rfl | hp
    · exact neN (by show @Ne Nat sd kn; omega)
    rcases List.mem_cons.mp hp with rfl | hp
    · exact neN (by show @Ne Nat d kn; omega)
    rcases List.mem_cons.mp hp with rfl | hp
    · exact neN (by show @Ne Nat he kn; omega)
    rcases List.mem_cons.mp hp with rfl | hp
    · exact (hnew _ (.head _)).2.2.2.2.1
    rcases List.mem_append.mp hp with hp | hp
    · exact (hnew _ (.tail _ hp)).2.2.2.2.1
    · exact hoff p hp _ (.tail _ (.tail _ (.tail _ (.head _))))
  case y8 => exact fun p hp => .tail _ (.tail _ (.tail _ (.tail _ (.tail _ hp))))
  case y9 => omega
  case yb => omega
  case yc => omega
  intro h3 tk3 ok3 kF5 kN5 hTk3
  have kN6 := News.kb5 kN5
  rw [hVa] at hTk3
  have hlz := layD_length (nm Ds2 es) val.toList aim KD depth.toNat
  generalize hKD : layD (nm Ds2 es) val.toList aim KD depth.toNat = KD2 at hTk3 hlz hTs fin
  have hroot2 : root'.toList = nm Ds2 es depth.toNat 0 := e2
  have hd2 : (d, dictOf (treeL w size df f sd root' u0 u1 u2 u3 u4 u5 u6 u7 u8 u9) 6) ∈ ((bk, o2) :: (r, orr) :: (sd, osd) :: (d, dictOf (treeL w size df f sd root' u0 u1 u2 u3 u4 u5 u6 u7 u8 u9) 6) :: ([] : Led)) := .tail _ (.tail _ (.tail _ (.head _)))
  have hx2 : (x, instObj 161 d) ∈ lvs2 ++ R2 := List.mem_append_right _ hx
  (try clear kN4)
  (try clear kN5)
  (try clear kF3)
  k_steps
  · rename (_ != _) = true => hb
    rw [List.toList_toArray, hroot2] at hb
    simp at hb
  · rename Fr h₀ _ _ _ => kF
    rename News h₀ _ _ _ => kN
    exact fin _ _ ll2 oll2 lvs2 Ds2 o2 ok3 _ B2 _ kF (News.fin7 kN) hnew hB2 hp2 (by omega) (by rw [hKD]; exact hTs) (by rw [hKD]; exact hTk3) hT2 hll2 hLT2 hlv2 hLs2 hS2 hroot2
  · rename ¬ _ = _ => hb
    exact absurd rfl hb
end
end
section
theorem off_110 : True := by
  w_top off
  trivial
theorem ovr_same {m : Str → Option Value} : ∀ {l : List (Str × Option Value)}, (∀ p ∈ l, m p.1 = p.2) → ovr l m = m
  | [], _ => rfl
  | p :: r, h => by
    funext z
    show (if z = p.1 then p.2 else ovr r m z) = m z
    rw [ovr_same fun q hq => h q (.tail _ hq)]
    split
    · rename_i e; rw [e]; exact (h p (.head _)).symm
    · rfl
structure LawState (prog : Program) (w : World) (depth span : Int) (df : Array UInt8) (B : List By) (o osd ok oh oll : Obj) (KD : List (By × By)) (HD : List (Int × By)) (Ds : List (List (Int × By))) (es : List By) (lvs : Led) (root : By) (i : Nat) : Prop where
  book : Book (prog := prog) (w := w) o B
  bz : B.length ≤ 1000 + 1000 * i
  ts : Tab (bytesKind prog w) osd KD
  tk : Tab (bytesKind prog w) ok KD
  kz : KD.length ≤ 100 + 100 * i
  th : Tab (intKind prog w) oh HD
  hz : HD.length ≤ 3 + i
  ok : HeldOk span HD
  lv : ListV oll (lvs.map fun p => .ref p.1)
  lt : LevT prog w lvs Ds
  ln : lvs.length = depth.toNat + 1
  ls : Levels B HD es Ds
  em : Emp B df.toList es
  sh : Shape B (nm Ds es) (fun p => gd HD p df.toList) depth.toNat
  fi : Fits B KD
  ks : ∀ p ∈ KD, p.2 ≠ [] ∧ p.2.length ≤ 300
  rt : root = nm Ds es depth.toNat 0
def LawJ (prog : Program) (w : World) (size depth span : Int) (df : Array UInt8) (f bk sd d kn he : Addr) (es : List By) (m₀ : Str → Option Value) (frz : Led) (i : Nat) (m : Str → Option Value) (fr : Led) : Prop :=
  ∃ w1 w2 w3 w4 w5 w6 ll root t6 o osd ok oh oll B KD HD Ds lvs v0 v1 v2 v3 v4 v5 v6 v7 v8 v9,
    m = ovr [(Str.ofString "number", w1), (Str.ofString "kind", w2), (Str.ofString "aim", w3), (Str.ofString "key", w4), (Str.ofString "value", w5), (Str.ofString "told", w6), (Str.ofString "levels", some (.ref ll)), (Str.ofString "root", some (.bytes (List.toArray root) t6))] m₀ ∧
    fr = (bk, o) :: (sd, osd) :: (d, dictOf (treeL w size df f sd (List.toArray root) v0 v1 v2 v3 v4 v5 v6 v7 v8 v9) 6) :: (kn, ok) :: (he, oh) :: (ll, oll) :: lvs ∧
    LawState prog w depth span df B o osd ok oh oll KD HD Ds es lvs root i ∧ (∀ p ∈ (ll, oll) :: lvs, p.1 ≠ bk ∧ p.1 ≠ sd ∧ p.1 ≠ d ∧ p.1 ≠ kn ∧ p.1 ≠ he)
section
variable {prog : Program} {w : World} {p : Program} {loose : List Str} {mean : ExcName → Option Value} {mg mb m0 : Str → Option Value} {h₀ : Heap} {L fa sa : Addr} {cd : Value} {s : Shared} {Q : Flow → Shared → Prop} {E : Value → Shared → Prop}
theorem law_turn {i : Nat} {num size depth span way xf : Int} {tn t t1 t2 t3 t4 t5 t7 : Tok} {f le he bk ll0 kn x sd d : Addr} {df : Array UInt8} {u : Option Value} {root0 : By} {ol : Obj} {es : List By} {rest' fr fr₀ : Led} {m₁ : Str → Option Value} {QQ : Flow → Shared → Prop} (Bl : Below callerA h₀ [] h₀) (X : (hd.heap_39 w.params).In h₀) (T : Top p loose mean mg mb h₀)
    (hs0 : 1 ≤ size) (hs1 : size ≤ 2) (hdep : depth = 8 * size) (hspan : span = 256 ^ size.toNat) (hdf : df.size = 1) (c1 : @LT.lt Nat _ bk he) (c2 : @LT.lt Nat _ he kn) (c3 : @LT.lt Nat _ kn sd) (c4 : @LT.lt Nat _ sd d) (hw0 : 0 ≤ way) (hw1 : way < span) (hi : i < 4)
    (hx : (x, instObj 161 d) ∈ rest') (hH : HashFn rest' f bk) (hle : (le, ol) ∈ rest') (hol : ListB ol es) (hel : es.length = depth.toNat + 1) (hblo : (bk == sysModules) = false) (hslo : (sd == sysModules) = false) (hklo : (kn == sysModules) = false) (hhlo : (he == sysModules) = false)
    (hJ : LawJ prog w size depth span df f bk sd d kn he es (ovr [(Str.ofString "tree", some (.ref x)), (Str.ofString "store", some (.ref sd)), (Str.ofString "known", some (.ref kn)), (Str.ofString "root", some (.bytes (List.toArray root0) t7)), (Str.ofString "levels", some (.ref ll0)), (Str.ofString "way", some (.int way t5)), (Str.ofString "number", u), (Str.ofString "held", some (.ref he)), (Str.ofString "empty", some (.ref le)), (Str.ofString "hash_of", some (.ref f)), (Str.ofString "default", some (.bytes df t4)), (Str.ofString "span", some (.int span t3)), (Str.ofString "depth", some (.int depth t2)), (Str.ofString "size", some (.int size t1)), (Str.ofString "first", some (.int xf t)), (Str.ofString "script", some (.ref sa))] m0) fr₀ i m₁ fr)
    (ho : OwnOff rest' (fr.map (·.1))) (F : Fr h₀ L s.heap (fun y => if y = Str.ofString "number" then some (.int num tn) else m₁ y)) (N : News h₀ L s.heap (fr ++ rest')) :
    wpAny (model prog w) (callerA.deeper (envOf (Str.ofString "law") lawScope L fa cd)) (execs (List.drop 0 turnBody) (envOf (Str.ofString "law") lawScope L fa cd)) (TurnPost h₀ L (LawJ prog w size depth span df f bk sd d kn he es (ovr [(Str.ofString "tree", some (.ref x)), (Str.ofString "store", some (.ref sd)), (Str.ofString "known", some (.ref kn)), (Str.ofString "root", some (.bytes (List.toArray root0) t7)), (Str.ofString "levels", some (.ref ll0)), (Str.ofString "way", some (.int way t5)), (Str.ofString "number", u), (Str.ofString "held", some (.ref he)), (Str.ofString "empty", some (.ref le)), (Str.ofString "hash_of", some (.ref f)), (Str.ofString "default", some (.bytes df t4)), (Str.ofString "span", some (.int span t3)), (Str.ofString "depth", some (.int depth t2)), (Str.ofString "size", some (.int size t1)), (Str.ofString "first", some (.int xf t)), (Str.ofString "script", some (.ref sa))] m0) fr₀ (i + 1)) rest' s QQ) E s := by
  obtain ⟨w1, w2, w3, w4, w5, w6, ll, root, t6, o, osd, ok, oh, oll, B, KD, HD, Ds, lvs, v0, v1, v2, v3, v4, v5, v6, v7, v8, v9, rfl, rfl, St, hlv⟩ := hJ
  simp only [List.cons_append] at N
  simp only [List.map_cons] at ho
  generalize hm : (fun y => if y = Str.ofString "number" then some (Value.int num tn) else ovr [(Str.ofString "number", w1), (Str.ofString "kind", w2), (Str.ofString "aim", w3), (Str.ofString "key", w4), (Str.ofString "value", w5), (Str.ofString "told", w6), (Str.ofString "levels", some (.ref ll)), (Str.ofString "root", some (.bytes (List.toArray root) t6))] (ovr [(Str.ofString "tree", some (.ref x)), (Str.ofString "store", some (.ref sd)), (Str.ofString "known", some (.ref kn)), (Str.ofString "root", some (.bytes (List.toArray root0) t7)), (Str.ofString "levels", some (.ref ll0)), (Str.ofString "way", some (.int way t5)), (Str.ofString "number", u), (Str.ofString "held", some (.ref he)), (Str.ofString "empty", some (.ref le)), (Str.ofString "hash_of", some (.ref f)), (Str.ofString "default", some (.bytes df t4)), (Str.ofString "span", some (.int span t3)), (Str.ofString "depth", some (.int depth t2)), (Str.ofString "size", some (.int size t1)), (Str.ofString "first", some (.int xf t)), (Str.ofString "script", some (.ref sa))] m0) y) = M at F
  have e1 : M = ovr [(Str.ofString "number", some (.int num tn)), (Str.ofString "kind", w2), (Str.ofString "aim", w3), (Str.ofString "key", w4), (Str.ofString "value", w5), (Str.ofString "told", w6), (Str.ofString "levels", some (.ref ll)), (Str.ofString "root", some (.bytes root.toArray t6)), (Str.ofString "tree", some (.ref x)), (Str.ofString "store", some (.ref sd)), (Str.ofString "known", some (.ref kn)), (Str.ofString "way", some (.int way t5)), (Str.ofString "held", some (.ref he)), (Str.ofString "empty", some (.ref le)), (Str.ofString "hash_of", some (.ref f)), (Str.ofString "default", some (.bytes df t4)), (Str.ofString "span", some (.int span t3)), (Str.ofString "depth", some (.int depth t2)), (Str.ofString "size", some (.int size t1))] M := by
    refine (ovr_same fun p hp => ?_).symm
    simp only [List.mem_cons, List.not_mem_nil, or_false] at hp
    rcases hp with rfl | rfl | rfl | rfl | rfl | rfl | rfl | rfl | rfl | rfl | rfl | rfl | rfl | rfl | rfl | rfl | rfl | rfl | rfl <;> (subst hm; rfl)
  have e2 : ovr [(Str.ofString "tree", some (.ref x)), (Str.ofString "store", some (.ref sd)), (Str.ofString "known", some (.ref kn)), (Str.ofString "way", some (.int way t5)), (Str.ofString "held", some (.ref he)), (Str.ofString "empty", some (.ref le)), (Str.ofString "hash_of", some (.ref f)), (Str.ofString "default", some (.bytes df t4)), (Str.ofString "span", some (.int span t3)), (Str.ofString "depth", some (.int depth t2)), (Str.ofString "size", some (.int size t1))] M = M := by
    refine ovr_same fun p hp => ?_
    simp only [List.mem_cons, List.not_mem_nil, or_false] at hp
    rcases hp with rfl | rfl | rfl | rfl | rfl | rfl | rfl | rfl | rfl | rfl | rfl <;> (subst hm; rfl)
  have F2 : Fr h₀ L s.heap (ovr [(Str.ofString "number", some (.int num tn)), (Str.ofString "kind", w2), (Str.ofString "aim", w3), (Str.ofString "key", w4), (Str.ofString "value", w5), (Str.ofString "told", w6), (Str.ofString "levels", some (.ref ll)), (Str.ofString "root", some (.bytes root.toArray t6)), (Str.ofString "tree", some (.ref x)), (Str.ofString "store", some (.ref sd)), (Str.ofString "known", some (.ref kn)), (Str.ofString "way", some (.int way t5)), (Str.ofString "held", some (.ref he)), (Str.ofString "empty", some (.ref le)), (Str.ofString "hash_of", some (.ref f)), (Str.ofString "default", some (.bytes df t4)), (Str.ofString "span", some (.int span t3)), (Str.ofString "depth", some (.int depth t2)), (Str.ofString "size", some (.int size t1))] M) := Eq.mp (congrArg (Fr h₀ L s.heap) e1) F
  have hLA : LevAt prog w ((ll, oll) :: (lvs ++ rest')) ll le Ds es := ⟨oll, lvs, ol, .head _, St.lv, fun p hp => .tail _ (List.mem_append_left _ hp), St.lt, .tail _ (List.mem_append_right _ hle), hol, by rw [St.ln, hel], by omega⟩
  have hsub : ∀ p ∈ rest', p ∈ (ll, oll) :: (lvs ++ rest') := fun p hp => .tail _ (List.mem_append_right _ hp)
  have hoff2 : OwnOff ((ll, oll) :: (lvs ++ rest')) [bk, sd, d, kn, he] := by
    refine offs fun p hp b hb => ?_
    have key : p ∈ (ll, oll) :: lvs ∨ p ∈ rest' := by
      rcases List.mem_cons.mp hp with h | h
      · exact .inl (h ▸ .head _)
      · rcases List.mem_append.mp h with h | h
        · exact .inl (.tail _ h)
        · exact .inr h
    simp only [List.mem_cons, List.not_mem_nil, or_false] at hb
    rcases key with h | h
    · obtain ⟨a1, a2, a3, a4, a5⟩ := hlv p h
      rcases hb with rfl | rfl | rfl | rfl | rfl <;> assumption
    · rcases hb with rfl | rfl | rfl | rfl | rfl
      · exact ho p h _ (.head _)
      · exact ho p h _ (.tail _ (.head _))
      · exact ho p h _ (.tail _ (.tail _ (.head _)))
      · exact ho p h _ (.tail _ (.tail _ (.tail _ (.head _))))
      · exact ho p h _ (.tail _ (.tail _ (.tail _ (.tail _ (.head _)))))
  have hnl := nm_len St.em.len St.ls.len
  have hbz := St.bz
  have hkz := St.kz
  have hhz := St.hz
  refine turn_A (d := d) (bk := bk) Bl X T F2 N (.tail _ (.tail _ (.tail _ (.tail _ (.head _))))) St.th hhlo (by omega) St.ok hs0 hs1 hdep hspan hdf hw0 hw1 ?_
  intro h1 tk1 val aim kind ta tb tc td F3 N3 a0 a1 k0 k1 z0 z1
  refine turn_B Bl X T F3 N3 St.ts hs0 hs1 hdep hspan hdf c1 c2 c3 c4 hoff2 (hsub _ hx) (hH.mono hsub) hLA hel hnl hblo hslo hklo hhlo St.tk St.th (by omega) (by omega) St.ok St.sh St.fi St.ks St.rt St.book (by omega) a0 a1 k0 k1 z0 z1 ?_
  intro h2 tk2 tv xs o2 osd2 ok2 B2 SD2 KD2 root2 y0 y1 y2 y3 y4 y5 y6 y7 y8 y9 F4 N4 hxs hB2 hp2 hBl2 hTs2 hTk2 hKz2 hFi2 hKs2 hTD
  have ha65 : aim < 65536 := Int.lt_of_lt_of_le a1 (by rw [hspan]; exact (pow_span hs0 hs1).2)
  rcases hTD with ⟨hk, ⟨b, te, rfl, hV⟩, rfl, rfl, hr⟩ | ⟨hk, ⟨r, orr, rfl, rfl, hTT⟩, rfl, hr⟩ | ⟨k0', k3', r, orr, node, ns', SD1, rfl, rfl, hTT, hW, hNm, rfl⟩
  · have hr2 : root2 = List.toArray root := by rw [← hr, Array.toArray_toList]
    subst hr2
    refine turn_C0 (bk := bk) (d := d) Bl X T F4 N4 (.tail _ (.tail _ (.tail _ (.head _)))) (.tail _ (.head _)) (.tail _ (.tail _ (.tail _ (.tail _ (.head _))))) hTk2 hTs2 St.th hklo hslo hhlo hk hV fun h3 tk3 F5 N5 => ?_
    have F6 : Fr h₀ L h3 (ovr [(Str.ofString "told", some (.bytes b te)), (Str.ofString "value", some (.bytes val ta)), (Str.ofString "key", some (.bytes (be size.toNat aim).toArray tb)), (Str.ofString "aim", some (.int aim tc)), (Str.ofString "kind", some (.int kind td)), (Str.ofString "number", some (.int num tn)), (Str.ofString "kind", w2), (Str.ofString "aim", w3), (Str.ofString "key", w4), (Str.ofString "value", w5), (Str.ofString "told", w6), (Str.ofString "levels", some (.ref ll)), (Str.ofString "root", some (.bytes (List.toArray root) t6))] M) := Eq.mp (congrArg (fun q => Fr h₀ L h3 (ovr [(Str.ofString "told", some (.bytes b te)), (Str.ofString "value", some (.bytes val ta)), (Str.ofString "key", some (.bytes (be size.toNat aim).toArray tb)), (Str.ofString "aim", some (.int aim tc)), (Str.ofString "kind", some (.int kind td)), (Str.ofString "number", some (.int num tn)), (Str.ofString "kind", w2), (Str.ofString "aim", w3), (Str.ofString "key", w4), (Str.ofString "value", w5), (Str.ofString "told", w6), (Str.ofString "levels", some (.ref ll)), (Str.ofString "root", some (.bytes (List.toArray root) t6))] q)) e2) F5
    refine ⟨h3, tk3, _, ((bk, o2) :: (sd, osd2) :: (d, dictOf (treeL w size df f sd (List.toArray root) y0 y1 y2 y3 y4 y5 y6 y7 y8 y9) 6) :: (kn, ok2) :: (he, oh) :: (ll, oll) :: lvs), _, rfl, F6, N5, fun p hp => ?_, fun p hp => ?_, ho, ?_⟩
    · exact (List.mem_append_left rest' hp)
    · exact (List.mem_append_right ((bk, o2) :: (sd, osd2) :: (d, dictOf (treeL w size df f sd (List.toArray root) y0 y1 y2 y3 y4 y5 y6 y7 y8 y9) 6) :: (kn, ok2) :: (he, oh) :: (ll, oll) :: lvs) hp)
    · exact ⟨_, _, _, _, _, _, ll, root, t6, o2, osd2, ok2, oh, oll, B2, _, HD, Ds, lvs, y0, y1, y2, y3, y4, y5, y6, y7, y8, y9, ovr_of [Str.ofString "number", Str.ofString "kind", Str.ofString "aim", Str.ofString "key", Str.ofString "value", Str.ofString "told", Str.ofString "levels", Str.ofString "root"] (fun z hz => by
        simp only [List.mem_cons, List.not_mem_nil, or_false, not_or] at hz
        obtain ⟨z1, z2, z3, z4, z5, z6, z7, z8⟩ := hz
        rw [← hm]
        simp only [ovr, z1, z2, z3, z4, z5, z6, z7, z8, if_false]), rfl, ⟨hB2, by omega, hTs2, hTk2, by omega, St.th, by omega, St.ok, St.lv, St.lt, St.ln, St.ls.mono hp2, St.em.mono hp2, St.sh.mono hp2, hFi2, hKs2, St.rt⟩, hlv⟩
  · have hr2 : root2 = List.toArray root := by rw [← hr, Array.toArray_toList]
    subst hr2
    refine turn_C3 (bk := bk) (d := d) (oh := oh) (te := t1) Bl X T F4 N4 (.tail _ (.tail _ (.tail _ (.tail _ (.head _))))) (.tail _ (.tail _ (.head _))) (.head _) hTk2 hTs2 hklo hslo hk hTT (hLA.mono fun p hp => .tail _ (.tail _ (.tail _ (.tail _ (.tail _ (.tail _ hp)))))) hel hs0 hs1 hdep a0 ha65 fun h3 tk3 F5 N5 => ?_
    have F6 : Fr h₀ L h3 (ovr [(Str.ofString "told", some (.ref r)), (Str.ofString "value", some (.bytes val ta)), (Str.ofString "key", some (.bytes (be size.toNat aim).toArray tb)), (Str.ofString "aim", some (.int aim tc)), (Str.ofString "kind", some (.int kind td)), (Str.ofString "number", some (.int num tn)), (Str.ofString "kind", w2), (Str.ofString "aim", w3), (Str.ofString "key", w4), (Str.ofString "value", w5), (Str.ofString "told", w6), (Str.ofString "levels", some (.ref ll)), (Str.ofString "root", some (.bytes (List.toArray root) t6))] M) := Eq.mp (congrArg (fun q => Fr h₀ L h3 (ovr [(Str.ofString "told", some (.ref r)), (Str.ofString "value", some (.bytes val ta)), (Str.ofString "key", some (.bytes (be size.toNat aim).toArray tb)), (Str.ofString "aim", some (.int aim tc)), (Str.ofString "kind", some (.int kind td)), (Str.ofString "number", some (.int num tn)), (Str.ofString "kind", w2), (Str.ofString "aim", w3), (Str.ofString "key", w4), (Str.ofString "value", w5), (Str.ofString "told", w6), (Str.ofString "levels", some (.ref ll)), (Str.ofString "root", some (.bytes (List.toArray root) t6))] q)) e2) F5
    refine ⟨h3, tk3, _, ((bk, o2) :: (sd, osd2) :: (d, dictOf (treeL w size df f sd (List.toArray root) y0 y1 y2 y3 y4 y5 y6 y7 y8 y9) 6) :: (kn, ok2) :: (he, oh) :: (ll, oll) :: lvs), _, rfl, F6, N5, fun p hp => ?_, fun p hp => ?_, ho, ?_⟩
    · exact .tail _ (List.mem_append_left rest' hp)
    · exact .tail _ (List.mem_append_right ((bk, o2) :: (sd, osd2) :: (d, dictOf (treeL w size df f sd (List.toArray root) y0 y1 y2 y3 y4 y5 y6 y7 y8 y9) 6) :: (kn, ok2) :: (he, oh) :: (ll, oll) :: lvs) hp)
    · exact ⟨_, _, _, _, _, _, ll, root, t6, o2, osd2, ok2, oh, oll, B2, _, HD, Ds, lvs, y0, y1, y2, y3, y4, y5, y6, y7, y8, y9, ovr_of [Str.ofString "number", Str.ofString "kind", Str.ofString "aim", Str.ofString "key", Str.ofString "value", Str.ofString "told", Str.ofString "levels", Str.ofString "root"] (fun z hz => by
        simp only [List.mem_cons, List.not_mem_nil, or_false, not_or] at hz
        obtain ⟨z1, z2, z3, z4, z5, z6, z7, z8⟩ := hz
        rw [← hm]
        simp only [ovr, z1, z2, z3, z4, z5, z6, z7, z8, if_false]), rfl, ⟨hB2, by omega, hTs2, hTk2, by omega, St.th, by omega, St.ok, St.lv, St.lt, St.ln, St.ls.mono hp2, St.em.mono hp2, St.sh.mono hp2, hFi2, hKs2, St.rt⟩, hlv⟩
  · have hkk : kind = 1 ∨ kind = 2 := by omega
    have hr0 : ∀ p ∈ (kn, ok2) :: (he, oh) :: (ll, oll) :: (lvs ++ rest'), @LT.lt Nat _ p.1 r := hxs _ (.head _)
    have fin : ∀ h3 tk3 ll3 oll3 lvs3 Ds3 o3 ok3 oh3 B3 t8, Fr h₀ L h3 (ovr [(Str.ofString "root", some (.bytes (List.toArray (nm Ds3 es depth.toNat 0)) t8)), (Str.ofString "levels", some (.ref ll3)), (Str.ofString "told", some (.ref r)), (Str.ofString "value", some (.bytes val ta)), (Str.ofString "key", some (.bytes (be size.toNat aim).toArray tb)), (Str.ofString "aim", some (.int aim tc)), (Str.ofString "kind", some (.int kind td)), (Str.ofString "number", some (.int num tn)), (Str.ofString "kind", w2), (Str.ofString "aim", w3), (Str.ofString "key", w4), (Str.ofString "value", w5), (Str.ofString "told", w6), (Str.ofString "levels", some (.ref ll)), (Str.ofString "root", some (.bytes root.toArray t6)), (Str.ofString "tree", some (.ref x)), (Str.ofString "store", some (.ref sd)), (Str.ofString "known", some (.ref kn)), (Str.ofString "way", some (.int way t5)), (Str.ofString "held", some (.ref he)), (Str.ofString "empty", some (.ref le)), (Str.ofString "hash_of", some (.ref f)), (Str.ofString "default", some (.bytes df t4)), (Str.ofString "span", some (.int span t3)), (Str.ofString "depth", some (.int depth t2)), (Str.ofString "size", some (.int size t1))] M) →
      News h₀ L h3 ((bk, o3) :: (sd, osd2) :: (d, dictOf (treeL w size df f sd root2 y0 y1 y2 y3 y4 y5 y6 y7 y8 y9) 6) :: (kn, ok3) :: (he, oh3) :: (ll3, oll3) :: (lvs3 ++ ((ll, oll) :: (lvs ++ rest')))) →
      (∀ p ∈ (ll3, oll3) :: lvs3, (∀ q ∈ (ll, oll) :: (lvs ++ rest'), @LT.lt Nat _ q.1 p.1) ∧ p.1 ≠ bk ∧ p.1 ≠ sd ∧ p.1 ≠ d ∧ p.1 ≠ kn ∧ p.1 ≠ he) →
      Book (prog := prog) (w := w) o3 B3 → B2 <+: B3 → B3.length ≤ B2.length + 300 → Tab (bytesKind prog w) osd2 (layD (nm Ds3 es) val.toList aim KD2 depth.toNat) → Tab (bytesKind prog w) ok3 (layD (nm Ds3 es) val.toList aim KD2 depth.toNat) → Tab (intKind prog w) oh3 (put HD aim val.toList) →
      ListV oll3 (lvs3.map fun p => .ref p.1) → LevT prog w lvs3 Ds3 → lvs3.length = depth.toNat + 1 → Levels B3 (put HD aim val.toList) es Ds3 → Shape B3 (nm Ds3 es) (fun p => gd (put HD aim val.toList) p df.toList) depth.toNat → root2.toList = nm Ds3 es depth.toNat 0 →
      TurnPost h₀ L (LawJ prog w size depth span df f bk sd d kn he es (ovr [(Str.ofString "tree", some (.ref x)), (Str.ofString "store", some (.ref sd)), (Str.ofString "known", some (.ref kn)), (Str.ofString "root", some (.bytes (List.toArray root0) t7)), (Str.ofString "levels", some (.ref ll0)), (Str.ofString "way", some (.int way t5)), (Str.ofString "number", u), (Str.ofString "held", some (.ref he)), (Str.ofString "empty", some (.ref le)), (Str.ofString "hash_of", some (.ref f)), (Str.ofString "default", some (.bytes df t4)), (Str.ofString "span", some (.int span t3)), (Str.ofString "depth", some (.int depth t2)), (Str.ofString "size", some (.int size t1)), (Str.ofString "first", some (.int xf t)), (Str.ofString "script", some (.ref sa))] m0) fr₀ (i + 1)) rest' s QQ .next { s with heap := h3, toks := tk3 } := by
      intro h3 tk3 ll3 oll3 lvs3 Ds3 o3 ok3 oh3 B3 t8 F5 N5 hnew hB3 hp3 hBl3 hTs3 hTk3 hT3 hll3 hLT3 hlv3 hLs3 hS3 hr3
      have hr2 : root2 = List.toArray (nm Ds3 es depth.toNat 0) := by rw [← hr3, Array.toArray_toList]
      subst hr2
      have hVa : gd (put HD aim val.toList) aim df.toList = val.toList := by unfold gd; rw [get_put_self]; rfl
      have qf := Fits.lay (number := aim) hS3 (hFi2.mono hp3) depth.toNat (Nat.le_refl _)
      have qk := lay_sizes (number := aim) hS3 (by (try dsimp only); rw [hVa]; exact ⟨z0, by rw [Array.length_toList]; exact z1⟩) hKs2 depth.toNat (Nat.le_refl _)
      (try dsimp only at qf qk)
      rw [hVa] at qf qk
      have ql := layD_length (nm Ds3 es) val.toList aim KD2 depth.toNat
      have F6 : Fr h₀ L h3 (ovr [(Str.ofString "root", some (.bytes (List.toArray (nm Ds3 es depth.toNat 0)) t8)), (Str.ofString "levels", some (.ref ll3)), (Str.ofString "told", some (.ref r)), (Str.ofString "value", some (.bytes val ta)), (Str.ofString "key", some (.bytes (be size.toNat aim).toArray tb)), (Str.ofString "aim", some (.int aim tc)), (Str.ofString "kind", some (.int kind td)), (Str.ofString "number", some (.int num tn)), (Str.ofString "kind", w2), (Str.ofString "aim", w3), (Str.ofString "key", w4), (Str.ofString "value", w5), (Str.ofString "told", w6), (Str.ofString "levels", some (.ref ll)), (Str.ofString "root", some (.bytes (List.toArray root) t6))] M) := Eq.mp (congrArg (fun q => Fr h₀ L h3 (ovr [(Str.ofString "root", some (.bytes (List.toArray (nm Ds3 es depth.toNat 0)) t8)), (Str.ofString "levels", some (.ref ll3)), (Str.ofString "told", some (.ref r)), (Str.ofString "value", some (.bytes val ta)), (Str.ofString "key", some (.bytes (be size.toNat aim).toArray tb)), (Str.ofString "aim", some (.int aim tc)), (Str.ofString "kind", some (.int kind td)), (Str.ofString "number", some (.int num tn)), (Str.ofString "kind", w2), (Str.ofString "aim", w3), (Str.ofString "key", w4), (Str.ofString "value", w5), (Str.ofString "told", w6), (Str.ofString "levels", some (.ref ll)), (Str.ofString "root", some (.bytes (List.toArray root) t6))] q)) e2) F5
      refine ⟨h3, tk3, _, ((bk, o3) :: (sd, osd2) :: (d, dictOf (treeL w size df f sd (List.toArray (nm Ds3 es depth.toNat 0)) y0 y1 y2 y3 y4 y5 y6 y7 y8 y9) 6) :: (kn, ok3) :: (he, oh3) :: (ll3, oll3) :: lvs3), _, rfl, F6, N5, fun p hp => ?_, fun p hp => ?_, ?_, ?_⟩
      · exact (List.mem_append_left ((ll, oll) :: (lvs ++ rest')) hp)
      · exact (List.mem_append_right ((bk, o3) :: (sd, osd2) :: (d, dictOf (treeL w size df f sd (List.toArray (nm Ds3 es depth.toNat 0)) y0 y1 y2 y3 y4 y5 y6 y7 y8 y9) 6) :: (kn, ok3) :: (he, oh3) :: (ll3, oll3) :: lvs3) (hsub _ hp))
      · refine offs fun p hp b hb => ?_
        simp only [List.map_cons] at hb
        rcases List.mem_cons.mp hb with rfl | hb
        · exact ho p hp _ (.head _)
        rcases List.mem_cons.mp hb with rfl | hb
        · exact ho p hp _ (.tail _ (.head _))
        rcases List.mem_cons.mp hb with rfl | hb
        · exact ho p hp _ (.tail _ (.tail _ (.head _)))
        rcases List.mem_cons.mp hb with rfl | hb
        · exact ho p hp _ (.tail _ (.tail _ (.tail _ (.head _))))
        rcases List.mem_cons.mp hb with rfl | hb
        · exact ho p hp _ (.tail _ (.tail _ (.tail _ (.tail _ (.head _)))))
        rcases List.mem_cons.mp hb with rfl | hb
        · exact Nat.ne_of_lt ((hnew _ (.head _)).1 p (hsub _ hp))
        · obtain ⟨q, hq, rfl⟩ := List.mem_map.mp hb
          exact Nat.ne_of_lt ((hnew _ (.tail _ hq)).1 p (hsub _ hp))
      · exact ⟨_, _, _, _, _, _, ll3, nm Ds3 es depth.toNat 0, t8, o3, osd2, ok3, oh3, oll3, B3, _, _, Ds3, lvs3, y0, y1, y2, y3, y4, y5, y6, y7, y8, y9, ovr_of [Str.ofString "number", Str.ofString "kind", Str.ofString "aim", Str.ofString "key", Str.ofString "value", Str.ofString "told", Str.ofString "levels", Str.ofString "root"] (fun z hz => by
          simp only [List.mem_cons, List.not_mem_nil, or_false, not_or] at hz
          obtain ⟨z1, z2, z3, z4, z5, z6, z7, z8⟩ := hz
          rw [← hm]
          simp only [ovr, z1, z2, z3, z4, z5, z6, z7, z8, if_false]), rfl, ⟨hB3, by omega, hTs3, hTk3, by omega, hT3, Nat.le_trans (put_length_le _ _ _) (by omega), St.ok.put a0 a1 z0 (by rw [Array.length_toList]; exact z1), hll3, hLT3, hlv3, hLs3, (St.em.mono hp2).mono hp3, hS3, qf, qk, rfl⟩, fun p hp => (hnew p hp).2⟩
    rcases hkk with hk | hk
    · exact turn_CS1 (te := t1) Bl X T F4 N4 hTs2 hs0 hs1 hdep hspan hdf c1 c2 c3 c4 hoff2 (hsub _ hx) (hH.mono hsub) hLA hel hnl hblo hslo hklo hhlo hTk2 St.th (by omega) (by omega) St.ok (St.sh.mono hp2) hFi2 hKs2 St.rt hB2 (by omega) a0 a1 k0 k1 z0 z1 hk hr0 hTT (St.em.mono hp2) hW hNm fin
    · exact turn_CS2 (te := t1) Bl X T F4 N4 hTs2 hs0 hs1 hdep hspan hdf c1 c2 c3 c4 hoff2 (hsub _ hx) (hH.mono hsub) hLA hel hnl hblo hslo hklo hhlo hTk2 St.th (by omega) (by omega) St.ok (St.sh.mono hp2) hFi2 hKs2 St.rt hB2 (by omega) a0 a1 k0 k1 z0 z1 hk hr0 hTT (St.em.mono hp2) hW hNm fin
end
end
section
local macro_rules | `(tactic| walk_at "compareOp Eq ref ref") => `(tactic| (k_here; k_dflt (refine' my_eqS (knd := bytesKind _ _) ?N ?a ?b ?Ta ?Tb ?la ?lb ?hu ?_; (case N => k_asm); (case a => ktr_rel); (case b => ktr_rel); (case Ta => assumption); (case Tb => assumption); (case la => assumption); (case lb => assumption); (case hu => ktr_unf))))
local macro_rules | `(tactic| walk_at "no such key 111") => `(tactic| fail)
theorem off_112 : True := by
  w_top off
  trivial
theorem allLt_get {d : Nat} {l : Led} (h : AllLt d l) : ∀ p ∈ l, @LT.lt Nat _ p.1 d := by
  induction l with
  | nil => intro p hp; cases hp
  | cons a r ih =>
    intro p hp
    rcases List.mem_cons.mp hp with e | hp
    · rw [e]; exact h.1
    · exact ih h.2 p hp
theorem News.slide {h₀ h : Heap} {L : Addr} {a : Addr × Obj} {fr R : Led} (N : News h₀ L h (a :: (fr ++ R))) : News h₀ L h (fr ++ (a :: R)) := fun p hp => N p (by
  simp only [List.mem_cons, List.mem_append] at hp ⊢
  rcases hp with h | h | h <;> simp [h])
section
variable {prog : Program} {w : World} {p : Program} {loose : List Str} {mean : ExcName → Option Value} {mg mb m0 : Str → Option Value} {h₀ : Heap} {L fa sa : Addr} {cd : Value} {s : Shared} {Q : Flow → Shared → Prop} {E : Value → Shared → Prop}
theorem law_4 {xf size depth span way : Int} {t t1 t2 t3 t4 t5 t6 : Tok} {f le he bk ll kn : Addr} {df : Array UInt8} {u : Option Value} {root : By} {x sd d : Addr} {o osd ok oh oll ol : Obj} {B : List By} {KD : List (By × By)} {HD : List (Int × By)} {Ds : List (List (Int × By))} {es : List By} {lvs R : Led} {vs : List Value} {ns : List Int} {ps : Array Value} {u0 u1 u2 u3 u4 u5 u6 u7 u8 u9 : Tok} (Bl : Below callerA h₀ [] h₀) (X : (hd.heap_39 w.params).In h₀) (T : Top p loose mean mg mb h₀) (hPO : PassesOwn (model prog w) (callerA.deeper (envOf (Str.ofString "law") lawScope L fa cd)) (envOf (Str.ofString "law") lawScope L fa cd) E)
    (F : Fr h₀ L s.heap (ovr [(Str.ofString "tree", some (.ref x)), (Str.ofString "store", some (.ref sd)), (Str.ofString "known", some (.ref kn)), (Str.ofString "root", some (.bytes root.toArray t6)), (Str.ofString "levels", some (.ref ll)), (Str.ofString "way", some (.int way t5)), (Str.ofString "number", u), (Str.ofString "held", some (.ref he)), (Str.ofString "empty", some (.ref le)), (Str.ofString "hash_of", some (.ref f)), (Str.ofString "default", some (.bytes df t4)), (Str.ofString "span", some (.int span t3)), (Str.ofString "depth", some (.int depth t2)), (Str.ofString "size", some (.int size t1)), (Str.ofString "first", some (.int xf t)), (Str.ofString "script", some (.ref sa))] m0)) (N : News h₀ L s.heap ((bk, o) :: (sd, osd) :: (d, dictOf (treeL w size df f sd root.toArray u0 u1 u2 u3 u4 u5 u6 u7 u8 u9) 6) :: (kn, ok) :: (he, oh) :: (ll, oll) :: (lvs ++ R)))
    (hS : h₀.IsList sa vs.toArray) (hI : IntsAre vs ns) (hn : ns.length ≤ 63)
    (St : LawState prog w depth span df B o osd ok oh oll KD HD Ds es lvs root 0) (hlv : ∀ p ∈ (ll, oll) :: lvs, p.1 ≠ bk ∧ p.1 ≠ sd ∧ p.1 ≠ d ∧ p.1 ≠ kn ∧ p.1 ≠ he)
    (hoff : OwnOff R (bk :: sd :: d :: kn :: he :: ll :: lvs.map (·.1)))
    (hs0 : 1 ≤ size) (hs1 : size ≤ 2) (hdep : depth = 8 * size) (hspan : span = 256 ^ size.toNat) (hdf : df.size = 1) (c1 : @LT.lt Nat _ bk he) (c2 : @LT.lt Nat _ he kn) (c3 : @LT.lt Nat _ kn sd) (c4 : @LT.lt Nat _ sd d) (hw0 : 0 ≤ way) (hw1 : way < span)
    (hx : (x, instObj 161 d) ∈ R) (hH : HashFn R f bk) (hle : (le, ol) ∈ R) (hol : ListB ol es) (hel : es.length = depth.toNat + 1) (hblo : (bk == sysModules) = false) (hslo : (sd == sysModules) = false) (hklo : (kn == sysModules) = false) (hhlo : (he == sysModules) = false)
    (h167 : (167, tabObj ps) ∈ R)
    (ret : ∀ h' tk' m' news', Fr h₀ L h' m' → News h₀ L h' news' → (167, tabObj ps) ∈ news' → Q (.ret (.bool true)) { s with heap := h', toks := tk' }) :
    wpAny (model prog w) (callerA.deeper (envOf (Str.ofString "law") lawScope L fa cd)) (execs (List.drop 17 lawBody) (envOf (Str.ofString "law") lawScope L fa cd)) Q E s := by
  conv in (List.drop 17 lawBody) => whnf
  repeat (conv in lawScope => whnf)
  k_steps
  rename Fr h₀ _ _ _ => kF
  rename News h₀ _ _ _ => kN
  rename IntsAre _ (List.take _ _) => hI'
  rename List.length (List.take _ _) = _ => hC'

  rename _ ∧ _ ∧ _ ∧ _ ∧ _ ∧ _ ∧ AllLt _ _ => l1
  have hD : ∀ p ∈ ((bk, o) :: (sd, osd) :: (d, dictOf (treeL w size df f sd (List.toArray root) u0 u1 u2 u3 u4 u5 u6 u7 u8 u9) 6) :: (kn, ok) :: (he, oh) :: (ll, oll) :: lvs) ++ R, @LT.lt Nat _ p.1 _ := allLt_get (l := ((bk, o) :: (sd, osd) :: (d, dictOf (treeL w size df f sd (List.toArray root) u0 u1 u2 u3 u4 u5 u6 u7 u8 u9) 6) :: (kn, ok) :: (he, oh) :: (ll, oll) :: lvs) ++ R) l1
  refine Stop.get (iter_list (fr₀ := ((bk, o) :: (sd, osd) :: (d, dictOf (treeL w size df f sd (List.toArray root) u0 u1 u2 u3 u4 u5 u6 u7 u8 u9) 6) :: (kn, ok) :: (he, oh) :: (ll, oll) :: lvs)) (rest := (_, _) :: R) (LawJ prog w size depth span df f bk sd d kn he es) rfl (.head _) ⟨_, rfl⟩ hI' kF (News.slide kN) ?off ?j0 ?turn ?done)
  case off =>
    refine offs fun p hp b hb => ?_
    rcases List.mem_cons.mp hp with rfl | hp
    · obtain ⟨q, hq, rfl⟩ := List.mem_map.mp hb
      exact Nat.ne_of_gt (hD q (List.mem_append_left _ hq))
    · exact hoff p hp b hb
  case j0 =>
    exact ⟨_, _, _, _, _, _, ll, root, t6, o, osd, ok, oh, oll, B, KD, HD, Ds, lvs, u0, u1, u2, u3, u4, u5, u6, u7, u8, u9, ovr_of [Str.ofString "number", Str.ofString "kind", Str.ofString "aim", Str.ofString "key", Str.ofString "value", Str.ofString "told", Str.ofString "levels", Str.ofString "root"] (fun _ _ => rfl), rfl, St, hlv⟩
  case turn =>
    intro i k tk1 m₁ fr rest' h tk hi hJ ho hs F₁ N₁
    have hi4 : i < 4 := by omega
    exact law_turn Bl X T hs0 hs1 hdep hspan hdf c1 c2 c3 c4 hw0 hw1 hi4 (hs _ (.tail _ hx)) (hH.mono fun p hp => hs _ (.tail _ hp)) (hs _ (.tail _ hle)) hol hel hblo hslo hklo hhlo hJ ho F₁ N₁
  case done =>
    rintro m₁ fr h tk ⟨w1, w2, w3, w4, w5, w6, ll, root, t6, o, osd, ok, oh, oll, B, KD, HD, Ds, lvs, v0, v1, v2, v3, v4, v5, v6, v7, v8, v9, rfl, rfl, St, hlv⟩ ho F₁ N₁
    simp only [List.cons_append] at N₁
    have hTs := St.ts
    have hTk := St.tk
    clear kF kN
    k_steps
    · rename Fr h₀ _ _ _ => kF
      rename News h₀ _ _ _ => kN
      exact ret _ _ _ _ kF kN (.tail _ (.tail _ (.tail _ (.tail _ (.tail _ (.tail _ (List.mem_append_right _ (.tail _ h167))))))))
    · rename (_ == _) = false => hb
      simp at hb
end
end
end
section
theorem off_113 : True := by
  w_top off
  trivial
theorem News.l4 {h₀ h : Heap} {L : Addr} {x d bk sd kn ll he : Addr × Obj} {lvs R : Led} (N : News h₀ L h (x :: d :: bk :: sd :: kn :: ll :: (lvs ++ he :: R))) : News h₀ L h (bk :: sd :: d :: kn :: he :: ll :: (lvs ++ (x :: R))) := fun p hp => N p (by
  simp only [List.mem_cons, List.mem_append] at hp ⊢
  rcases hp with h | h | h | h | h | h | h | h | h <;> simp [h])
section
variable {prog : Program} {w : World} {p : Program} {loose : List Str} {mean : ExcName → Option Value} {mg mb m0 : Str → Option Value} {h₀ : Heap} {L fa sa : Addr} {cd : Value} {s : Shared} {Q : Flow → Shared → Prop} {E : Value → Shared → Prop}
theorem law_rest {x : Int} {t : Tok} {vs : List Value} {ns : List Int} (Bl : Below callerA h₀ [] h₀) (X : (hd.heap_39 w.params).In h₀) (T : Top p loose mean mg mb h₀) (hPO : PassesOwn (model prog w) (callerA.deeper (envOf (Str.ofString "law") lawScope L fa cd)) (envOf (Str.ofString "law") lawScope L fa cd) E) (F : Fr h₀ L s.heap (ovr [(Str.ofString "first", some (.int x t)), (Str.ofString "script", some (.ref sa))] m0))
    (hcd : CodeHd h₀ 171 167) (h167 : 167 < h₀.objs.size) (N : News h₀ L s.heap [(167, tabObj #[])]) (hS : h₀.IsList sa vs.toArray) (hI : IntsAre vs ns) (hn : ns.length ≤ 63)
    (ret : ∀ h' tk' m' news' ps, Fr h₀ L h' m' → News h₀ L h' news' → (167, tabObj ps) ∈ news' → Q (.ret (.bool true)) { s with heap := h', toks := tk' }) :
    wpAny (model prog w) (callerA.deeper (envOf (Str.ofString "law") lawScope L fa cd)) (execs (List.drop 1 lawBody) (envOf (Str.ofString "law") lawScope L fa cd)) Q E s := by
  refine law_1 Bl X T hPO F hcd h167 N ?_
  intro h1 tk1 size depth span t1 t2 t3 t4 f bk o df ps R0 F1 N1 hoff1 hH1 hm167 hT1 hblo hs0 hs1 hdep hspan hdf
  refine law_2 Bl X T hPO F1 N1 hoff1 hH1 hT1 hblo hs0 hs1 hdep hspan hdf hS hI hn ?_
  intro h2 tk2 le ol he oh o2 B es HD u F2 N2 l1 l2 l3 hB hBl hol hel hE hTh hHl hhlo hok
  have hsp0 : 0 < span := by rw [hspan]; exact Int.pow_pos (by decide)
  have hsp65 : span ≤ 65536 := by rw [hspan]; exact (pow_span hs0 hs1).2
  refine law_3a Bl X T hPO F2 N2 hsp0 hS hI hn ?_
  intro h3 tk3 way t5 F3 N3 w0 w1
  refine law_3b Bl X T hPO F3 N3 l1 l2 l3 hoff1 hH1 hB hBl hol hel hE hTh hHl hhlo hblo hok hs0 hs1 hdep hsp65 hdf w0 w1 ?_
  intro h4 tk4 ll oll o4 B4 lvs Ds kn ok t6 F4 N4 q1 q2 q3 q4 hB4 hp4 hBl4 hll hLT hlv hLs hTk hklo
  have hS4 : Shape B4 (nm Ds es) (fun p => gd HD p df.toList) depth.toNat := shape_of (hE.mono hp4) hel hLs (by rw [← hLT.length]; exact hlv)
  have hFi : Fits B4 (layD (nm Ds es) (gd HD way df.toList) way [] depth.toNat) := Fits.lay (KD := []) hS4 (fun p hp => nomatch hp) _ (Nat.le_refl _)
  have hKs := lay_sizes (KD := []) (number := way) hS4 (held_val hok hdf) (fun p hp => nomatch hp) depth.toNat (Nat.le_refl _)
  have hcl : clearP (nm Ds es) (layD (nm Ds es) (gd HD way df.toList) way [] depth.toNat) way (depth.toNat + 1) := fun h hh => lay_clear depth.toNat h (by omega)
  have hKz := layD_length (nm Ds es) (gd HD way df.toList) way [] depth.toNat
  simp only [List.length_nil] at hKz
  generalize hKD : layD (nm Ds es) (gd HD way df.toList) way [] depth.toNat = KD at hTk hFi hKs hcl hKz
  refine law_3c Bl X T hPO F4 N4 q1 ?offA (hH1.mono ?subA) hB4 (by omega) hblo hTk hklo (by omega) (hS4.len 0 (Nat.le_refl _)) hs0 hs1 hdf ?_
  case offA =>
    refine offs fun p hp b hb => ?_
    rw [List.mem_singleton.mp hb]
    rcases List.mem_cons.mp hp with rfl | hp
    · exact Nat.ne_of_gt q2
    rcases List.mem_append.mp hp with hp | hp
    · exact Nat.ne_of_gt (q4 p hp).2.1
    rcases List.mem_cons.mp hp with rfl | hp
    · exact neN (by show @Ne Nat he bk; omega)
    rcases List.mem_cons.mp hp with rfl | hp
    · exact neN (by show @Ne Nat le bk; omega)
    · exact hoff1 p hp _ (.head _)
  case subA => exact fun p hp => .tail _ (List.mem_append_right _ (.tail _ (.tail _ hp)))
  intro h5 tk5 sd osd x' d o5 B5 u0 u1 u2 u3 u4 u5 u6 u7 u8 u9 F5 N5 hB5 hp5 hBl5 d1 d2 d3 d4 hTs hslo
  have hS5 := hS4.mono hp5
  have hFi5 := hFi.mono hp5
  refine law_3d (bk := bk) Bl X T hPO F5 N5 (.head _) (.tail _ (.head _)) (.tail _ (.tail _ (.tail _ (.head _)))) hTs hslo ⟨oll, lvs, ol, .tail _ (.tail _ (.tail _ (.tail _ (.tail _ (.head _))))), hll, fun p hp => .tail _ (.tail _ (.tail _ (.tail _ (.tail _ (.tail _ (List.mem_append_left _ hp)))))), hLT, .tail _ (.tail _ (.tail _ (.tail _ (.tail _ (.tail _ (List.mem_append_right _ (.tail _ (.head _)))))))), hol, by rw [hlv, hel], by omega⟩ hel hs0 hs1 hdep w0 (by rw [← hspan]; exact w1) hS5 hFi5 (by omega) hKs hcl rfl ?_
  intro h6 tk6 F6 N6
  have e1 : @LT.lt Nat _ he ll := q3 _ (.head _)
  have e2 : @LT.lt Nat _ he kn := q1 _ (.tail _ (.tail _ (List.mem_append_right _ (.head _))))
  have e3 : @LT.lt Nat _ ll kn := q1 _ (.tail _ (.head _))
  have e4 : @LT.lt Nat _ sd d := d3 _ (.head _)
  have e5 : ∀ p ∈ lvs, @LT.lt Nat _ he p.1 ∧ @LT.lt Nat _ bk p.1 ∧ @LT.lt Nat _ p.1 kn := fun p hp => ⟨(q4 p hp).1 _ (.head _), (q4 p hp).2.1, q1 _ (.tail _ (.tail _ (List.mem_append_left _ hp)))⟩
  refine law_4 Bl X T hPO F6 (News.l4 N6) hS hI hn ⟨hB5, by omega, hTs, hTk, by omega, hTh, by omega, hok, hll, hLT, hlv, hLs.mono hp5, (hE.mono hp4).mono hp5, hS5, hFi5, hKs, rfl⟩ ?_ ?_ hs0 hs1 hdep hspan hdf (by omega) e2 d4 e4 w0 w1 (.head _) (hH1.mono fun p hp => .tail _ (.tail _ hp)) (.tail _ (.head _)) hol hel hblo hslo hklo hhlo (.tail _ (.tail _ hm167)) ?_
  · intro p hp
    rcases List.mem_cons.mp hp with rfl | hp
    · refine ⟨neN ?_, neN ?_, neN ?_, neN ?_, neN ?_⟩ <;> dsimp only <;> omega
    · obtain ⟨a1, a2, a3⟩ := e5 p hp
      refine ⟨neN ?_, neN ?_, neN ?_, neN ?_, neN ?_⟩ <;> omega
  · refine offs fun p hp b hb => ?_
    have hb' : b = bk ∨ b = sd ∨ b = d ∨ b = kn ∨ b = he ∨ b = ll ∨ ∃ q ∈ lvs, q.1 = b := by
      simp only [List.mem_cons, List.mem_map] at hb
      exact hb
    rcases List.mem_cons.mp hp with rfl | hp
    · rcases hb' with rfl | rfl | rfl | rfl | rfl | rfl | ⟨q, hq, rfl⟩
      case inr.inr.inr.inr.inr.inr => obtain ⟨a1, a2, a3⟩ := e5 q hq; exact neN (by dsimp only; omega)
      all_goals exact neN (by dsimp only; omega)
    rcases List.mem_cons.mp hp with rfl | hp
    · rcases hb' with rfl | rfl | rfl | rfl | rfl | rfl | ⟨q, hq, rfl⟩
      case inr.inr.inr.inr.inr.inr => obtain ⟨a1, a2, a3⟩ := e5 q hq; exact neN (by dsimp only; omega)
      all_goals exact neN (by dsimp only; omega)
    · have a0 := l3 p hp
      rcases hb' with rfl | rfl | rfl | rfl | rfl | rfl | ⟨q, hq, rfl⟩
      case inl => exact hoff1 p hp _ (.head _)
      case inr.inr.inr.inr.inr.inr => obtain ⟨a1, a2, a3⟩ := e5 q hq; exact neN (by omega)
      all_goals exact neN (by omega)
  · intro h' tk' m' news' F7 N7 h7
    exact ret h' tk' m' news' ps F7 N7 h7
end
end
section
local macro_rules | `(tactic| walk_at "no such key 114") => `(tactic| fail)
theorem off_115 : True := by
  w_top off
  trivial
theorem lookup_one {n : Str} {v : Value} : (fun x => List.lookup x [(n, v)].reverse) = ovr [(n, some v)] (fun _ => none) := by
  funext z
  show List.lookup z [(n, v)] = if z = n then some v else none
  by_cases h : z = n
  · subst h; simp [List.lookup]
  · have : (z == n) = false := by simpa using h
    simp [List.lookup, this, h]
section
variable {prog : Program} {w : World} {p : Program} {loose : List Str} {mean : ExcName → Option Value} {mg mb m0 : Str → Option Value} {h₀ : Heap} {L fa sa : Addr} {cd : Value} {s : Shared} {Q : Flow → Shared → Prop} {E : Value → Shared → Prop}
theorem law_0 {vs : List Value} {ns : List Int} (Bl : Below callerA h₀ [] h₀) (X : (hd.heap_39 w.params).In h₀) (T : Top p loose mean mg mb h₀) (hPO : PassesOwn (model prog w) (callerA.deeper (envOf (Str.ofString "law") lawScope L fa cd)) (envOf (Str.ofString "law") lawScope L fa cd) E) (F : Fr h₀ L s.heap (ovr [(Str.ofString "script", some (.ref sa))] m0))
    (hcd : CodeHd h₀ 171 167) (h167 : 167 < h₀.objs.size) (N : News h₀ L s.heap [(167, tabObj #[])]) (hS : h₀.IsList sa vs.toArray) (hI : IntsAre vs ns) (hn : ns.length ≤ 63)
    (ret : ∀ h' tk' m' news' ps, Fr h₀ L h' m' → News h₀ L h' news' → (167, tabObj ps) ∈ news' → Q (.ret (.bool true)) { s with heap := h', toks := tk' }) :
    wpAny (model prog w) (callerA.deeper (envOf (Str.ofString "law") lawScope L fa cd)) (execs (List.drop 0 lawBody) (envOf (Str.ofString "law") lawScope L fa cd)) Q E s := by
  have e : List.drop 0 lawBody = nthS 0 lawBody :: List.drop 1 lawBody := rfl
  rw [e]
  refine cut_execS (fun s' => ∃ h' tk' x t, s' = { s with heap := h', toks := tk' } ∧ Fr h₀ L h' (ovr [(Str.ofString "first", some (.int x t)), (Str.ofString "script", some (.ref sa))] m0) ∧ News h₀ L h' [(167, tabObj #[])]) ?_ ?_
  · conv in (nthS 0 lawBody) => whnf
    repeat (conv in lawScope => whnf)
    k_steps
    · rename Fr h₀ _ _ _ => kF
      rename News h₀ _ _ _ => kN
      exact Stop.get ⟨trivial, _, _, _, _, rfl, kF, kN⟩
    · rename Fr h₀ _ _ _ => kF
      rename News h₀ _ _ _ => kN
      exact Stop.get ⟨trivial, _, _, _, _, rfl, kF, kN⟩
  · rintro s' ⟨h', tk', x, t, rfl, F', N'⟩
    exact law_rest Bl X T hPO F' hcd h167 N' hS hI hn ret
end
end
section
theorem off_116 : True := by
  w_top off
  trivial
theorem of_not_63 {n : Nat} (h : ¬ ((63 : Nat) : Int) < (n : Int)) : n ≤ 63 := by omega
theorem lw : PySem.Challenge.rw_ad6017_01.Holds := hd (by
  k_go0
  all_goals try k_fold
  rename Fr _ _ _ _ => F0
  rename News _ _ _ _ => N0
  rename Below _ _ _ _ => K0
  rename Top _ _ _ _ _ _ => T0
  rename Frag.In _ _ => X0
  rename IntsAre _ _ => hI
  rename Heap.IsList _ _ _ => hS
  rename CodeHd _ _ _ => hcd
  rename 167 < _ => h167
  rename ¬ ((63 : Nat) : Int) < _ => hn
  have F1 := Eq.mp (congrArg (Fr _ _ _) lookup_one) F0
  have hn2 := of_not_63 hn
  refine law_0 K0 X0 T0 ?po F1 hcd (Nat.lt_of_lt_of_le h167 (Nat.le_of_eq (hideAll_size _ _).symm)) N0 hS hI hn2 ?ret
  case po => passes_own
  case ret =>
    intro h' tk' m' news' ps F' N' h7
    dsimp only
    refine ⟨?_, GrownAt.of N' h7, True.intro⟩
    k_steps)
end
end
end Mine
set_option maxRecDepth 100000 in
set_option maxHeartbeats 8000000 in
theorem PySem.Challenge.cw_ad6017_01_holds : PySem.Challenge.rw_ad6017_01.Holds :=
  Mine.lw
