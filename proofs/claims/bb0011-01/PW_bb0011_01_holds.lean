import PyProof.Rows.All
import Wide.All
import OpenK.AllK
import Wide.FinOn
import PyProof.NeKinds
import PySem.Challenge.RW_bb0011_01
/-
The law of ProxyTLV.parse (bb0011-01), by hand: a contract for each function, walked once by the library's k_steps;
the plain law about edits beside it. Each section was built as a text of its own.
-/
set_option Elab.async false
set_option maxRecDepth 100000

/-! The head: the text's top, run once. -/
section
open PySem PySem.W PyProof.Rows
set_option Elab.async false
set_option maxRecDepth 100000
set_option maxHeartbeats 8000000
namespace Mine
open_top hd for PySem.Challenge.rw_bb0011_01
end Mine
end

/-! The plain side: vectors, their octets, what is due. -/
section
open PySem PySem.W PyProof.Rows PySem.Calls
set_option Elab.async false
set_option maxRecDepth 100000
namespace Mine
theorem anewPure : True := by
  w_top off
  trivial
def kindOf (j : Nat) : Int := ([1, 2, 4, 5, 36, 48, 224, 6] : List Int).getD j 0
def nameOf (j : Nat) : Str := ([Str.ofString "ALPN", Str.ofString "AUTHORITY", Str.ofString "NOOP", Str.ofString "UNIQUE_ID", Str.ofString "SSL_SIG_ALG", Str.ofString "NETNS", Str.ofString "xE0", Str.ofString "x06"] : List Str).getD j Str.empty
theorem kindOf_in (j : Nat) (hj : j < 8) : 0 ≤ kindOf j ∧ kindOf j < 256 := by
  rcases j with _|_|_|_|_|_|_|_|j
  iterate 8 exact ⟨by decide, by decide⟩
  omega
theorem kindOf_mod (j : Nat) (hj : j < 8) : kindOf j % 256 = kindOf j := by
  have := kindOf_in j hj; omega
theorem nameOf_inj (i j : Nat) (hi : i < 8) (hj : j < 8) (e : nameOf i = nameOf j) : i = j := by
  have h : ∀ i : Fin 8, ∀ j : Fin 8, nameOf i.val = nameOf j.val → i = j := by decide +kernel
  have := h ⟨i, hi⟩ ⟨j, hj⟩ e
  exact Fin.mk.inj this

/-- a vector: the kind's number in the table, the value's octets -/
structure Vec where
  j : Nat
  ks : List Int
def Vec.len (v : Vec) : Nat := v.ks.length
def enc1 (v : Vec) : List Int := [kindOf v.j, (v.ks.length : Int) / 256, (v.ks.length : Int) % 256] ++ v.ks
def enc (vs : List Vec) : List Int := (vs.map enc1).flatten
theorem enc1_len (v : Vec) : (enc1 v).length = 3 + v.ks.length := by simp [enc1]; omega
theorem enc_nil : enc [] = [] := rfl
theorem enc_cons (v : Vec) (r : List Vec) : enc (v :: r) = enc1 v ++ enc r := by simp [enc]
theorem enc_app (a b : List Vec) : enc (a ++ b) = enc a ++ enc b := by simp [enc]

def IsVec (o : Obj) (v : Vec) : Prop :=
  ∃ t1 b t2 c t3 n, o = { cls := .type "tuple", data := .seq #[.str (nameOf v.j) t1, .bytes b t2, .bytes c t3] n } ∧ KBw.bInts b = v.ks ∧ KBw.bInts c = enc1 v ∧ v.j < 8 ∧ v.ks.length ≤ 300

/-- the items of the list of rows -/
inductive RowsIn (h : Heap) : List Value → List Vec → Prop
  | nil : RowsIn h [] []
  | cons {a : Addr} {o : Obj} {v : Vec} {r : List Value} {vs : List Vec} : h.get? a = some o → IsVec o v → RowsIn h r vs → RowsIn h (.ref a :: r) (v :: vs)
theorem RowsIn.keeps {h h' : Heap} {its : List Value} {vs : List Vec} (R : RowsIn h its vs) (k : ∀ b o, h.get? b = some o → h'.get? b = some o) : RowsIn h' its vs := by
  induction R with
  | nil => exact .nil
  | cons e i _ ih => exact .cons (k _ _ e) i ih
theorem RowsIn.length {h : Heap} {its : List Value} {vs : List Vec} (R : RowsIn h its vs) : its.length = vs.length := by
  induction R with
  | nil => rfl
  | cons _ _ _ ih => simp [ih]
theorem RowsIn.get {h : Heap} {its : List Value} {vs : List Vec} (R : RowsIn h its vs) : ∀ {i : Nat} {v : Vec}, vs[i]? = some v → ∃ a o, its[i]? = some (.ref a) ∧ h.get? a = some o ∧ IsVec o v := by
  induction R with
  | nil => intro i v e; simp at e
  | cons e i' _ ih =>
    intro i v hv
    cases i with
    | zero => simp at hv; subst hv; exact ⟨_, _, rfl, e, i'⟩
    | succ i => simp at hv; obtain ⟨a, o, h1, h2⟩ := ih hv; exact ⟨a, o, by simpa using h1, h2⟩
def RowsAt (h : Heap) (R : Addr) (vs : List Vec) : Prop := ∃ its, h.IsList R its.toArray ∧ RowsIn h its vs
end Mine
namespace Mine
section
variable {β : Type}
def put (kvs : List (Str × β)) (k : Str) (v : β) : List (Str × β) :=
  if kvs.any (fun kv => decide (kv.1 = k)) then kvs.map (fun kv => if kv.1 = k then (kv.1, v) else kv) else kvs ++ [(k, v)]
inductive Pair2 (P : Value → β → Prop) : List (Str × Value) → List (Str × β) → Prop
  | nil : Pair2 P [] []
  | cons {k : Str} {v : Value} {b : β} {r : List (Str × Value)} {s : List (Str × β)} : P v b → Pair2 P r s → Pair2 P ((k, v) :: r) ((k, b) :: s)
variable {P : Value → β → Prop}
theorem Pair2.snoc {k : Str} {v : Value} {b : β} {r : List (Str × Value)} {s : List (Str × β)} (h : Pair2 P r s) (p : P v b) : Pair2 P (r ++ [(k, v)]) (s ++ [(k, b)]) := by
  induction h with
  | nil => exact .cons p .nil
  | cons q _ ih => exact .cons q ih
theorem Pair2.any {k : Str} {r : List (Str × Value)} {s : List (Str × β)} (h : Pair2 P r s) : (r.any fun kv => decide (kv.1 = k)) = s.any fun kv => decide (kv.1 = k) := by
  induction h with
  | nil => rfl
  | cons _ _ ih => simp only [List.any_cons, ih]
theorem Pair2.length {r : List (Str × Value)} {s : List (Str × β)} (h : Pair2 P r s) : r.length = s.length := by
  induction h with
  | nil => rfl
  | cons _ _ ih => simp only [List.length_cons, ih]
theorem Pair2.keys {r : List (Str × Value)} {s : List (Str × β)} (h : Pair2 P r s) : r.map (·.1) = s.map (·.1) := by
  induction h with
  | nil => rfl
  | cons _ _ ih => simp only [List.map_cons, ih]
theorem Pair2.stored {k : Str} {v : Value} {b : β} {r : List (Str × Value)} {s : List (Str × β)} (h : Pair2 P r s) (p : P v b) : Pair2 P (PySem.stored r k v) (put s k b) := by
  unfold PySem.stored put
  have e := h.any (k := k)
  rw [show (r.any fun kv => decide (kv.1 = k)) = s.any fun kv => decide (kv.1 = k) from e]
  split
  · clear e
    rename_i hh; clear hh
    induction h with
    | nil => exact .nil
    | cons q _ ih =>
      simp only [List.map_cons]
      split
      · exact .cons p ih
      · exact .cons q ih
  · exact h.snoc p
theorem Pair2.valueAt {k : Str} {r : List (Str × Value)} {s : List (Str × β)} (h : Pair2 P r s) : (PySem.valueAt r k = none ∧ (s.find? fun kv => decide (kv.1 = k)) = none) ∨ ∃ v b, PySem.valueAt r k = some v ∧ ((s.find? fun kv => decide (kv.1 = k)).map (·.2)) = some b ∧ P v b := by
  unfold PySem.valueAt
  induction h with
  | nil => exact .inl ⟨rfl, rfl⟩
  | @cons k' v b r s q _ ih =>
    by_cases hk : k' = k
    · refine .inr ⟨v, b, ?_, ?_, q⟩ <;> simp [hk]
    · simp only [List.find?_cons, decide_eq_false hk]
      exact ih
end
def PB (v : Value) (ks : List Int) : Prop := ∃ b t, v = .bytes b t ∧ KBw.bInts b = ks
def PI (v : Value) (n : Int) : Prop := ∃ t, v = .int n t

def dueS (vs : List Vec) : List (Str × List Int) × List (Str × Int) × Int :=
  vs.foldl (fun s v => (put s.1 (nameOf v.j) v.ks, put s.2.1 (nameOf v.j) s.2.2, s.2.2 + ((enc1 v).length : Int))) ([], [], 0)
def dueF (vs : List Vec) : List (Str × List Int) := (dueS vs).1
def dueP (vs : List Vec) : List (Str × Int) := (dueS vs).2.1
theorem dueS_snoc (vs : List Vec) (v : Vec) : dueS (vs ++ [v]) = (put (dueF vs) (nameOf v.j) v.ks, put (dueP vs) (nameOf v.j) (dueS vs).2.2, (dueS vs).2.2 + ((enc1 v).length : Int)) := by
  simp only [dueS, dueF, dueP, List.foldl_append, List.foldl_cons, List.foldl_nil]
theorem due_at (vs : List Vec) : (dueS vs).2.2 = ((enc vs).length : Int) := by
  have h : ∀ (vs : List Vec) (s : List (Str × List Int) × List (Str × Int) × Int), (vs.foldl (fun s v => (put s.1 (nameOf v.j) v.ks, put s.2.1 (nameOf v.j) s.2.2, s.2.2 + ((enc1 v).length : Int))) s).2.2 = s.2.2 + ((enc vs).length : Int) := by
    intro vs
    induction vs with
    | nil => intro s; simp [enc]
    | cons v r ih => intro s; rw [List.foldl_cons, ih, enc_cons, List.length_append]; simp only; omega
  have := h vs ([], [], 0)
  simp only [dueS] at this ⊢
  omega
theorem dueF_snoc (vs : List Vec) (v : Vec) : dueF (vs ++ [v]) = put (dueF vs) (nameOf v.j) v.ks := by
  show (dueS (vs ++ [v])).1 = _; rw [dueS_snoc]
theorem dueP_snoc (vs : List Vec) (v : Vec) : dueP (vs ++ [v]) = put (dueP vs) (nameOf v.j) ((enc vs).length : Int) := by
  show (dueS (vs ++ [v])).2.1 = _; rw [dueS_snoc, due_at]
theorem put_len {β : Type} (kvs : List (Str × β)) (k : Str) (v : β) : (put kvs k v).length ≤ kvs.length + 1 := by
  unfold put; split <;> simp
theorem due_len (vs : List Vec) : (dueF vs).length ≤ vs.length ∧ (dueP vs).length ≤ vs.length := by
  have h : ∀ (vs : List Vec) (s : List (Str × List Int) × List (Str × Int) × Int), (vs.foldl (fun s v => (put s.1 (nameOf v.j) v.ks, put s.2.1 (nameOf v.j) s.2.2, s.2.2 + ((enc1 v).length : Int))) s).1.length ≤ s.1.length + vs.length ∧ (vs.foldl (fun s v => (put s.1 (nameOf v.j) v.ks, put s.2.1 (nameOf v.j) s.2.2, s.2.2 + ((enc1 v).length : Int))) s).2.1.length ≤ s.2.1.length + vs.length := by
    intro vs
    induction vs with
    | nil => intro s; simp
    | cons v r ih =>
      intro s
      rw [List.foldl_cons]
      have h1 := ih (put s.1 (nameOf v.j) v.ks, put s.2.1 (nameOf v.j) s.2.2, s.2.2 + ((enc1 v).length : Int))
      have h2 := put_len s.1 (nameOf v.j) v.ks
      have h3 := put_len s.2.1 (nameOf v.j) s.2.2
      simp only [List.length_cons] at h1 ⊢
      omega
  have := h vs ([], [], 0)
  simpa [dueF, dueP, dueS] using this
end Mine
end

/-! A call seen from its caller's frame. -/
section
open PySem PySem.W PyProof.Rows PySem.Calls
set_option Elab.async false
set_option maxRecDepth 100000
set_option maxHeartbeats 8000000
namespace Mine
theorem anewBase : True := by
  w_top off
  trivial

abbrev ATop (dp un : Nat) (gd : Option (List Code)) (outer : List Env) : Around := { handled := none, depth := dp, frames := some outer, guards := gd, units := un }

section
variable {prog : Program} {w : World} {A : Around} {s : Shared} {K : Frag} {base : Heap} {outer : List Env} {p : Program} {loose : List Str} {mean : ExcName → Option Value} {mg mb : Str → Option Value}
theorem code_enter {R : Result → Shared → Prop} {name qual : Str} {params : Arguments} {body : List Stmt} {scope : Scope} {dV kV doc pm cdv ct oc : Value} {an od : Option Addr} {osl : Array (Option Value)} {f : Addr} {args : Args} {binds : List (Str × Value)}
    (X : K.In s.heap) (T : Top p loose mean mg mb s.heap)
    (ho : K.lookup f = some ⟨oc, od, .func (fnOf name qual params body scope dV kV doc pm an cdv ct), osl⟩) (hcd : codeIn K cdv qual = true) (hroom : A.depth < recursionLimit)
    (hbind : BindsTo s (fnOf name qual params body scope dV kV doc pm an cdv ct) args binds) (hloc : ∀ y ∈ binds, scope.names.lookup y.1 = some .local)
    (h : ∀ L' h₁, Fr s.heap L' h₁ (fun y => binds.reverse.lookup y) → News s.heap L' h₁ [] →
      wpAny (model prog w) (A.deeper (envX qual scope L' f cdv [])) (execs body (envX qual scope L' f cdv []))
        (fun fl s' => R (.ok (.ret (match fl with | .ret v => v | _ => .none))) s')
        (fun e s' => wpAny (model prog w) (A.deeper (envX qual scope L' f cdv [])) (leaving (envX qual scope L' f cdv []) e) (fun _ s'' => R (.error e) s'') (fun e' s'' => R (.error e') s'') s')
        { s with heap := h₁, toks := s.toks + binds.length })
    (hco : scope.isCoroutine = false) (hgen : scope.isGenerator = false) (hk : scope.kind = .function)
    (hcell : ∀ x ∈ scope.names, x.2 ≠ .cell) : codeAny (model prog w) A (.call (.ref f) args) R s := by
  refine codeAny_call_def (fd := fnOf name qual params body scope dV kV doc pm an cdv ct) (body := body) (binds := binds) hroom (X _ _ ho) rfl T.nolimit (codeRec_of X hcd) rfl hbind hcell hloc (fun h₁ hns hk₁ => ?_) hco hgen hk
  exact h s.heap.objs.size h₁ ⟨hns, hk₁, Nat.le_refl _⟩ News.nil
end

/-- what a call of f tells: nothing that stood is turned -/
def Tel (prog : Program) (w : World) (f : Addr) (args : List Value) (d u : Nat) (Pre : Heap → Prop) (Post : Heap → Value → Heap → Prop) : Prop :=
  ∀ (dp un : Nat) (gd : Option (List Code)) (outer : List Env) (A₀ : Around) (base : Heap) (s : Shared) (p : Program) (loose : List Str) (mean : ExcName → Option Value) (mg mb : Str → Option Value) (Q E : Value → Shared → Prop),
    Below A₀ base outer s.heap → (hd.heap_39 w.params).In s.heap → Top p loose mean mg mb s.heap → dp + d < recursionLimit → un + u < cLine → Pre s.heap →
    (∀ r h' tk', s.heap.StaysIn h' → Post s.heap r h' → Q r { s with heap := h', toks := tk' }) →
    wpAny (model prog w) (ATop dp un gd outer) (call (.ref f) args) Q E s

theorem news_stays {h₀ h h' : Heap} {L : Addr} {news : List (Addr × Obj)} (N : News h₀ L h news) (st : h.StaysIn h') : News h₀ L h' news := fun p hp => ⟨st _ _ (N p hp).1, (N p hp).2⟩
theorem fr_stays {h₀ h h' : Heap} {L : Addr} {m : Str → Option Value} (F : Fr h₀ L h m) (st : h.StaysIn h') : Fr h₀ L h' m :=
  ⟨F.ns.keeps st, fun b o e => st b o (F.keep b o e), F.above⟩
theorem stays_fr {g h : Heap} {L : Addr} {m : Str → Option Value} (F : Fr g L h m) : g.StaysIn h := F.keep

section
variable {prog : Program} {w : World} {A₀ : Around} {s : Shared} {h₀ base : Heap} {outer : List Env} {p : Program} {loose : List Str} {mean : ExcName → Option Value} {mg mb : Str → Option Value}
theorem Tel.use {f : Addr} {args : List Value} {d u : Nat} {Pre : Heap → Prop} {Post : Heap → Value → Heap → Prop} {L a : Addr} {m : Str → Option Value} {cn : Str} {cs : Scope} {ccd : Value} {cl : List (Str × Addr)} {dp un : Nat} {gd : Option (List Code)} {news : List (Addr × Obj)}
    {Q E : Value → Shared → Prop}
    (C : Tel prog w f args d u Pre Post) (B : Below A₀ base outer h₀) (F : Fr h₀ L s.heap m) (X : (hd.heap_39 w.params).In h₀) (N : News h₀ L s.heap news) (T : Top p loose mean mg mb h₀) (hk : cs.kind = .function)
    (hd : dp + d < recursionLimit) (hu : un + u < cLine) (pre : Pre s.heap)
    (ret : ∀ r h' tk', Fr h₀ L h' m → News h₀ L h' news → s.heap.StaysIn h' → Post s.heap r h' → Q r { s with heap := h', toks := tk' }) :
    wpAny (model prog w) (ktrTop dp un gd cn cs L a ccd cl outer) (call (.ref f) args) Q E s :=
  C _ _ _ _ _ _ _ _ _ _ _ _ _ _ (pushX (env := envX cn cs L a ccd cl) (A := A₀) B F rfl hk) (X.keeps F.keep) (T.keeps F.keep) hd hu pre
    fun r h' tk' st po => ret r h' tk' (fr_stays F st) (news_stays N st) st po
end
end Mine
namespace Mine
/-- what a call has made -/
def Fresh (h h' : Heap) (tl : List (Addr × Obj)) : Prop := ∀ p ∈ tl, h'.get? p.1 = some p.2 ∧ h.get? p.1 = none
theorem fresh_of {g h : Heap} {L : Addr} {tl : List (Addr × Obj)} (N : News g L h tl) : Fresh g h tl := fun p hp => ⟨(N p hp).1, (N p hp).2.2⟩
theorem news_fresh {h₀ h h' : Heap} {L : Addr} {m : Str → Option Value} {news tl : List (Addr × Obj)} (F : Fr h₀ L h m) (N : News h₀ L h' news) (Z : Fresh h h' tl) : News h₀ L h' (tl ++ news) := fun p hp => by
  rcases List.mem_append.mp hp with hp | hp
  · refine ⟨(Z p hp).1, fun q => ?_, ?_⟩
    · obtain ⟨o, es, ep, hL, _⟩ := F.ns
      have := (Z p hp).2
      rw [q, hL] at this; cases this
    · cases q : h₀.get? p.1 with
      | none => rfl
      | some o => have := F.keep _ _ q; rw [(Z p hp).2] at this; cases this
  · exact N p hp
theorem off_fresh {h₀ h h' : Heap} {L : Addr} {news tl : List (Addr × Obj)} (N : News h₀ L h news) (Z : Fresh h h' tl) : ∀ p ∈ tl, ∀ q ∈ news, p.1 ≠ q.1 := fun p hp q hq e => by
  have := (N q hq).1
  rw [← e, (Z p hp).2] at this; cases this
theorem fillK : (fun (_ : PySem.W.OpenLaw) (_ : Params → Frag) => True) PySem.Challenge.rw_bb0011_01 hd.heap_39 := by
  k_fill
  trivial
abbrev tupObj (vs : List Value) : Obj := { cls := .type "tuple", data := .seq vs.toArray }
end Mine
namespace Mine
section
variable {prog : Program} {w : World} {A₀ : Around} {s : Shared} {h₀ base : Heap} {outer : List Env} {p : Program} {loose : List Str} {mean : ExcName → Option Value} {mg mb : Str → Option Value}
/-- a call, seen from the caller's frame -/
theorem Tel.useZ {f : Addr} {args : List Value} {d u : Nat} {Pre : Heap → Prop} {Post : Heap → Value → Heap → Prop} {L a : Addr} {m : Str → Option Value} {cn : Str} {cs : Scope} {ccd : Value} {cl : List (Str × Addr)} {dp un : Nat} {gd : Option (List Code)} {news : List (Addr × Obj)}
    {Q E : Value → Shared → Prop}
    (C : Tel prog w f args d u Pre Post) (B : Below A₀ base outer h₀) (F : Fr h₀ L s.heap m) (X : (hd.heap_39 w.params).In h₀) (N : News h₀ L s.heap news) (T : Top p loose mean mg mb h₀) (hk : cs.kind = .function)
    (hd : dp + d < recursionLimit) (hu : un + u < cLine) (pre : Pre s.heap)
    (ret : ∀ r h' tk', Fr h₀ L h' m → News h₀ L h' news → (∀ tl, Fresh s.heap h' tl → News h₀ L h' (tl ++ news) ∧ ∀ p ∈ tl, ∀ q ∈ news, p.1 ≠ q.1) → Post s.heap r h' → Q r { s with heap := h', toks := tk' }) :
    wpAny (model prog w) (ktrTop dp un gd cn cs L a ccd cl outer) (call (.ref f) args) Q E s :=
  C.use B F X N T hk hd hu pre fun r h' tk' F' N' st po => ret r h' tk' F' N' (fun tl Z => ⟨news_fresh F N' Z, off_fresh N Z⟩) po
theorem m_lim : recursionLimit = 1000 := by decide +kernel
theorem m_line : 400 < cLine := by decide +kernel
end
end Mine
end

/-! _law_kinds, _law_draw. -/
section
open PySem PySem.W PyProof.Rows PySem.Calls
set_option Elab.async false
set_option maxRecDepth 100000
set_option maxHeartbeats 8000000
namespace Mine
local macro_rules | `(tactic| walk_at "nothing") => `(tactic| skip)
theorem anewT3 : True := by
  w_top off
  trivial


def KindsPost (h : Heap) (r : Value) (h' : Heap) : Prop := ∃ (l : Addr) (vals : List Value) (n : Nat) (tl : List (Addr × Obj)), r = .ref l ∧ Fresh h h' tl ∧ vals.length = 8 ∧ (l, W.listOf vals.toArray n) ∈ tl ∧
   ∀ j, j < 8 → ∃ a t1 t2 n, vals[j]? = some (.ref a) ∧ (a, ({ cls := .type "tuple", data := .seq #[.int (kindOf j) t1, .str (nameOf j) t2] n } : Obj)) ∈ tl

theorem kinds_tel (prog : Program) (w : World) : Tel prog w 108 [] 1 8 (fun _ => True) KindsPost := by
  unfold Tel
  intro dp un gd outer A₀ base s p loose mean mg mb Q E B X T hdp hu hpre hret
  (refine wpAny_call ?_; refine' code_enter (K := hd.heap_39 _) ?k3 ?k5 ?k6 ?k7 ?k8 ?k9 ?kB ?_ ?c2 ?c3 ?c4 ?c5; (case k3 => assumption); (case k5 => assumption); (case k6 => k_is); (case k7 => k_is); (case k8 => (dsimp only [ATop]; omega)); (case k9 => first | exact BindsTo.of_eq rfl | exact binds_K (by assumption) rfl (by k_is) rfl rfl rfl); (case c5 => decide); (case kB => exact locs rfl); (case c2 => exact rfl); (case c3 => exact rfl); (case c4 => exact rfl); intro L' h' F' N'; (try dsimp only); (try k_fold))
  k_steps
  refine hret _ _ _ (stays_fr (by assumption)) ⟨_, _, _, _, rfl, fresh_of (by assumption), ?_, .head _, ?_⟩
  · rfl
  · intro j hj
    rcases j with _|_|_|_|_|_|_|_|j
    iterate 8 (refine' ⟨_, _, _, _, rfl, ?x⟩; (case x => k_mem))
    omega

def DrawPre (l : Addr) (k : Int) (h : Heap) : Prop := ∃ vs ns, h.IsList l vs.toArray ∧ IntsAre vs ns ∧ ns.length ≤ 63 ∧ 0 ≤ k ∧ k ≤ 20

theorem draw_tel (prog : Program) (w : World) (l : Addr) (k : Int) (t : Tok) : Tel prog w 115 [.ref l, .int k t] 1 8 (DrawPre l k) (fun _ r _ => ∃ n t, r = .int n t) := by
  unfold Tel DrawPre
  intro dp un gd outer A₀ base s p loose mean mg mb Q E B X T hdp hu hpre hret
  obtain ⟨vs, ns, hl, hi, hn, hk0, hk1⟩ := hpre
  (refine wpAny_call ?_; refine' code_enter (K := hd.heap_39 _) ?k3 ?k5 ?k6 ?k7 ?k8 ?k9 ?kB ?_ ?c2 ?c3 ?c4 ?c5; (case k3 => assumption); (case k5 => assumption); (case k6 => k_is); (case k7 => k_is); (case k8 => (dsimp only [ATop]; omega)); (case k9 => first | exact BindsTo.of_eq rfl | exact binds_K (by assumption) rfl (by k_is) rfl rfl rfl); (case c5 => decide); (case kB => exact locs rfl); (case c2 => exact rfl); (case c3 => exact rfl); (case c4 => exact rfl); intro L' h' F' N'; (try dsimp only); (try k_fold))
  k_steps
  all_goals exact hret _ _ _ (stays_fr (by assumption)) ⟨_, _, rfl⟩
end Mine
end

/-! _law_vector. -/
section
open PySem PySem.W PyProof.Rows PySem.Calls
set_option Elab.async false
set_option maxRecDepth 100000
set_option maxHeartbeats 8000000
namespace Mine
theorem anewT4 : True := by
  w_top off
  trivial
local macro_rules | `(tactic| walk_at "call ref") => `(tactic| (k_here; (with_reducible show wpAny _ _ (call (Value.ref 108) _) _ _ _); k_dflt (
  (refine' (kinds_tel _ _).useZ ?k1 ?k2 ?k3 ?k4 ?k5 ?k6 ?k7 ?k8 ?k9 ?_; (case k1 => k_asm); (case k2 => k_asm); (case k3 => k_asm); (case k4 => k_asm); (case k5 => k_asm); (case k6 => exact rfl); (case k7 => ((try dsimp only [ATop, Around.deeper, Around.in1] at *); omega)); (case k8 => ((try dsimp only [ATop, Around.deeper, Around.in1] at *); omega)); (case k9 => trivial));
  intro r9 h9 tk9 F9 N9 mk9 po9;
  obtain ⟨l9, vals9, n9, tl9, e9, z9, hlen9, hl9, hj9⟩ := po9;
  subst e9; (have N10 := (mk9 _ z9).1); clear N9 mk9 z9; (try dsimp only); (try k_sweep))))
section
variable {M : Model} {prog : Program} {w : World} {A : Around} {E : Value → Shared → Prop} {s : Shared} {h₀ : Heap} {L : Addr} {news tl : List (Addr × Obj)}
theorem kinds_item {value slice : PySem.Expr} {l : Addr} {vals : List Value} {n : Nat} {k : Int} {u : Tok} {Q : Value → Shared → Prop} (N : News h₀ L s.heap news) (hl : (l, W.listOf vals.toArray n) ∈ news)
    (hj : ∀ j, j < 8 → ∃ a t1 t2 n, vals[j]? = some (.ref a) ∧ (a, ({ cls := .type "tuple", data := .seq #[.int (kindOf j) t1, .str (nameOf j) t2] n } : Obj)) ∈ tl) (h0 : 0 ≤ k) (h8 : k < 8)
    (h : ∀ a j t1 t2 n, j < 8 → 0 ≤ kindOf j → kindOf j < 256 → (a, ({ cls := .type "tuple", data := .seq #[.int (kindOf j) t1, .str (nameOf j) t2] n } : Obj)) ∈ tl → Q (.ref a) s)
    (hs : subscripted slice false (.ref l) (.int k u) = operate [.ref l, .int k u] (getItem (.ref l) (.int k u)) := by with_unfolding_all rfl) :
    wpAny (model prog w) A (subscriptTail value slice (.ref l) (.int k u)) Q E s := by
  obtain ⟨a, t1, t2, n', hv, hm⟩ := hj k.toNat (by omega)
  have hL : s.heap.IsList l vals.toArray := ⟨_, (N _ hl).1, rfl, _, rfl⟩
  exact tail_any hL.typeIs slot_list_getitem.lookup (wpAny_getItem_list hL h0 (by omega) (by simpa using hv) (h a _ t1 t2 n' (by omega) (kindOf_in _ (by omega)).1 (kindOf_in _ (by omega)).2 hm)) hs
theorem bytes_mul_sz {c : UInt8} {n : Int} {t u : Tok} {Q : Value → Shared → Prop} (h0 : 0 ≤ n) (h1 : n ≤ 300) (h : ∀ (b : Array UInt8) (ks : List Int) t' k, KBw.bInts b = ks → ks.length ≤ 300 → Q (.bytes b t') { s with toks := k }) :
    wpAny (model prog w) A (binaryOp .Mult (.bytes (List.toArray [c]) t) (.int n u)) Q E s := by
  refine bytes_mul_any (List.cons_ne_nil _ _) (by omega) (by omega) (by simp) fun t' k => h _ _ t' k rfl ?_
  rw [KBw.ints_length]
  simp
  omega
end
local macro_rules | `(tactic| walk_at "binaryOp Mult bytes int") => `(tactic| (k_here; (refine' bytes_mul_sz ?k1 ?k2 ?_; (case k1 => l_fact); (case k2 => l_fact)); intro b9 ks9 t9 k9 hb9 hs9))
local macro_rules | `(tactic| walk_at "subscriptTail") => `(tactic| (k_here; (with_reducible show wpAny _ _ (subscriptTail _ _ (Value.ref _) (Value.int _ _)) _ _ _); k_dflt (refine' kinds_item ?k1 ?k2 ?k3 ?k4 ?k5 ?_ ?k7; (case k1 => k_asm); (case k2 => k_mem); (case k3 => assumption); (case k4 => l_fact); (case k5 => l_fact); (case k7 => with_unfolding_all rfl)); (intro a9 j9 t9 u9 n9 hj9 hp9 hq9 hm9)))

def VecPost (h : Heap) (r : Value) (h' : Heap) : Prop := ∃ a o v, r = .ref a ∧ Fresh h h' [(a, o)] ∧ IsVec o v
theorem fresh_head {h h' : Heap} {p : Addr × Obj} {tl : List (Addr × Obj)} (z : Fresh h h' (p :: tl)) : Fresh h h' [p] := fun q hq => z q (by rw [List.mem_singleton.mp hq]; exact .head _)
theorem vec_enc {j : Nat} {ks : List Int} (hj : j < 8) (hs : ks.length ≤ 300) : [kindOf j % 256] ++ [(ks.length : Int) / 256 % 256, (ks.length : Int) % 256] ++ ks = enc1 ⟨j, ks⟩ := by
  have h1 := kindOf_mod j hj
  have h2 : (ks.length : Int) / 256 % 256 = (ks.length : Int) / 256 := by omega
  simp [enc1, h1, h2]
theorem vector_tel (prog : Program) (w : World) (n : Int) (t : Tok) : Tel prog w 122 [.int n t] 3 20 (fun _ => True) VecPost := by
  unfold Tel
  intro dp un gd outer A₀ base s p loose mean mg mb Q E B X T hdp hu hpre hret
  (refine wpAny_call ?_; refine' code_enter (K := hd.heap_39 _) ?k3 ?k5 ?k6 ?k7 ?k8 ?k9 ?kB ?_ ?c2 ?c3 ?c4 ?c5; (case k3 => assumption); (case k5 => assumption); (case k6 => k_is); (case k7 => k_is); (case k8 => (dsimp only [ATop]; omega)); (case k9 => first | exact BindsTo.of_eq rfl | exact binds_K (by assumption) rfl (by k_is) rfl rfl rfl); (case c5 => decide); (case kB => exact locs rfl); (case c2 => exact rfl); (case c3 => exact rfl); (case c4 => exact rfl); intro L' h' F' N'; (try dsimp only); (try k_fold))
  k_steps
  all_goals (refine hret _ _ _ (stays_fr (by assumption)) ⟨_, _, ⟨_, _⟩, rfl, fresh_head (fresh_of (by assumption)), ⟨_, _, _, _, _, _, rfl, by assumption, ?_, by assumption, by assumption⟩⟩; exact Eq.trans (by assumption) (vec_enc (by assumption) (by assumption)))
end Mine
end

/-! A for over a list, by an invariant. -/
section
open PySem PySem.W PyProof.Rows PySem.Calls
set_option Elab.async false
set_option maxRecDepth 100000
set_option maxHeartbeats 4000000
namespace Mine
theorem anewLoops : True := by
  w_top off
  trivial
section
variable {prog : Program} {w : World} {A : Around} {E : Value → Shared → Prop} {s : Shared} {env : Env} {h₀ : Heap} {target : Expr} {body : List Stmt} {Q : Flow → Shared → Prop}
def TurnEnd (h₀ : Heap) (L : Addr) (J : (Str → Option Value) → List (Addr × Obj) → Prop) (I : Addr) (oI : Obj) (s₁ : Shared) (Q : Flow → Shared → Prop) (f : Flow) (s₂ : Shared) : Prop :=
  match f with
  | .ret v => Q (.ret v) s₂
  | .brk => Q .next s₂
  | _ => ∃ h' tk m' nx, s₂ = { s₁ with heap := h', toks := tk } ∧ Fr h₀ L h' m' ∧ News h₀ L h' (nx ++ [(I, oI)]) ∧ (∀ p ∈ nx, p.1 ≠ I) ∧ J m' nx
def plainTarget : PySem.Expr → Bool
  | .Name _ _ => true
  | .Tuple _ _ _ => true
  | _ => false
theorem lets_list {I l : Addr} {i : Nat} {v : Value} {Q : Unit → Shared → Prop} (ht : plainTarget target = true) (hit : s.heap.IsListIter I l i) (hQ : Q () s) : wpAny (model prog w) A (letOwnedTupleGo target (.ref I) v) Q E s := by
  cases target <;> first | exact wpAny_pure hQ | (cases ht; done) | skip
  rename_i elts k pos
  cases v <;> first | exact wpAny_pure hQ | exact wpAny_letOwnedTupleGo_listiter hit hQ
/-- a for over a list that the loop leaves as it is -/
theorem turns_list {L l : Addr} {lo : Obj} {vs : List Value} {m₀ : Str → Option Value} {news : List (Addr × Obj)} {n : Nat} (J : Nat → (Str → Option Value) → List (Addr × Obj) → Prop)
    (hLe : env.locals = L) (ht : plainTarget target = true) (hh : A.handled = none) (hlc : lo.cls = .type "list") (hld : lo.data = .seq vs.toArray n) (hl : h₀.get? l = some lo ∨ ∀ i m₁ n₁, J i m₁ n₁ → (l, lo) ∈ n₁)
    (F : Fr h₀ L s.heap m₀) (N : News h₀ L s.heap news) (h0 : J 0 m₀ news)
    (turn : ∀ i v I oI m₁ news₁ h tk, vs[i]? = some v → J i m₁ news₁ → (∀ p ∈ news₁, p.1 ≠ I) → Fr h₀ L h m₁ → News h₀ L h (news₁ ++ [(I, oI)]) →
      wpAny (model prog w) A (assign target env v) (fun _ s₃ => wpAny (model prog w) A (execs body env) (TurnEnd h₀ L (J (i + 1)) I oI { s with heap := h, toks := tk } Q) E s₃) E { s with heap := h, toks := tk })
    (done : ∀ m₁ news₁ h tk, J vs.length m₁ news₁ → Fr h₀ L h m₁ → News h₀ L h news₁ → Q .next { s with heap := h, toks := tk }) :
    wpAny (model prog w) A (pyIter (.ref l)) (fun it s₂ => TurnsAt prog w A h₀ env target body Q E it s₂) E s := by
  subst hLe
  have hls : s.heap.get? l = some lo := hl.elim (fun e => F.keep _ _ e) fun k => (N _ (k 0 m₀ news h0)).1
  have hL : s.heap.IsList l vs.toArray := ⟨lo, hls, hlc, n, hld⟩
  have hlt : l < s.heap.objs.size := Heap.lt_size hls
  have hne : l ≠ s.heap.objs.size := Nat.ne_of_lt hlt
  have hlL : l ≠ env.locals := by
    intro e
    obtain ⟨oL, es, ep, q, hd, _⟩ := F.ns
    rw [← e, hls] at q; cases q
    rw [hld] at hd; cases hd
  refine wpAny_pyIter_list hL ?_
  have W := Walks.list (prog := prog) (w := w) hh s.heap.objs.size l hne vs.toArray
  have T := KTurns.ofWalks (target := target) W (fun i v s' Q' E' st hq => lets_list ht st.1 hq)
  refine ⟨_, _, _, _, _, _, _, m₀, news, J, rfl, T, ?_, ?_, ?_, ⟨⟨_, Heap.get?_push_size _ rfl, rfl, rfl⟩, ⟨lo, Heap.get?_push_of_some _ hls, hlc, n, hld⟩⟩, F.push _, (fun p hp => ⟨Heap.get?_push_of_some _ (N p hp).1, (N p hp).2⟩), h0, ?_, ?_⟩
  · intro hm
    rcases List.mem_cons.mp hm with e | hm
    · exact absurd F.ns.lt (e ▸ Nat.lt_irrefl _)
    · exact hlL (List.mem_singleton.mp hm).symm
  · intro b hb
    rw [List.mem_singleton.mp hb]
    exact next_is_new F
  · intro p hp hI
    exact absurd (Heap.lt_size (N p hp).1) ((List.mem_singleton.mp hI) ▸ Nat.lt_irrefl _)
  · intro i v m₁ news₁ h₁ tk₁ own hin hP hJ hoff hfp hat hall st F₁ N₁
    have hv : vs[i]? = some v := by simpa using hP
    obtain ⟨oI, hoI, _⟩ := st.1
    have hI₀ : h₀.get? s.heap.objs.size = none := next_is_new F
    have hIL : s.heap.objs.size ≠ env.locals := Nat.ne_of_gt F.ns.lt
    have hoff' : ∀ p ∈ news₁, p.1 ≠ s.heap.objs.size := fun p hp e => hoff p hp (by rw [e]; exact List.mem_singleton.mpr rfl)
    refine wpAny_mono (turn i v s.heap.objs.size oI m₁ news₁ h₁ tk₁ hv hJ hoff' F₁ (fun p hp => ?_)) (fun _ s₃ h₃ => wpAny_mono h₃ (fun f s₄ h₄ => ?_) fun _ _ e => e) fun _ _ e => e
    · rcases List.mem_append.mp hp with hp | hp
      · exact N₁ p (List.mem_append_right _ hp)
      · rw [List.mem_singleton.mp hp]; exact ⟨hoI, hIL, hI₀⟩
    · have fin : (∃ h' tk m' nx, s₄ = { ({ s with heap := h₁, toks := tk₁ } : Shared) with heap := h', toks := tk } ∧ Fr h₀ env.locals h' m' ∧ News h₀ env.locals h' (nx ++ [(s.heap.objs.size, oI)]) ∧ (∀ p ∈ nx, p.1 ≠ s.heap.objs.size) ∧ J (i + 1) m' nx) →
          LoopStepU h₀ env.locals [s.heap.objs.size] own (J (i + 1)) { s with heap := h₁, toks := tk₁ } .next s₄ := by
        rintro ⟨h', tk, m', nx, e, F', N', hnI, hJ'⟩
        refine ⟨rfl, h', tk, m', nx, e, F', fun p hp => ?_, fun p hp hm => hnI p hp (List.mem_singleton.mp hm), hJ'⟩
        rcases List.mem_append.mp hp with hp | hp
        · have z := N₁ p (List.mem_append_left _ hp)
          refine ⟨?_, z.2⟩
          rcases List.mem_cons.mp (hfp p hp) with e1 | e1
          · have q := (N' (s.heap.objs.size, oI) (List.mem_append_right _ (.head _))).1
            rw [e1]
            have : p.2 = oI := by have := z.1; rw [e1, hoI] at this; exact (Option.some.inj this).symm
            rw [this]; exact q
          · have e2 : p.1 = l := List.mem_singleton.mp e1
            rcases hl with hl | hl
            · have := z.2.2; rw [e2, hl] at this; cases this
            · have q1 := (N₁ (l, lo) (List.mem_append_right _ (hl _ _ _ hJ))).1
              have q2 := (N' (l, lo) (List.mem_append_left _ (hl _ _ _ hJ'))).1
              have : p.2 = lo := by have := z.1; rw [e2, q1] at this; exact (Option.some.inj this).symm
              rw [this, e2]; exact q2
        · exact N' p (List.mem_append_left _ hp)
      cases f with
      | ret v => exact h₄
      | brk => exact h₄
      | next => exact fin h₄
      | cont => exact fin h₄
  · intro h' tk m' news' F' N' _ hJ
    have e : vs.toArray.size = vs.length := by simp
    rw [e] at hJ
    exact done m' news' h' tk hJ F' N'
end
end Mine
end

/-! _law_due. -/
section
open PySem PySem.W PyProof.Rows PySem.Calls
set_option Elab.async false
set_option maxRecDepth 100000
set_option maxHeartbeats 8000000
namespace Mine
theorem anewT5 : True := by
  w_top off
  trivial
local macro_rules | `(tactic| walk_at "exec For Tuple Name cons nil") => `(tactic| (k_here; (rename Fr _ _ _ _ => lF'); (with_unfolding_all refine' For_turns lF' ?_)))

local macro_rules | `(tactic| walk_at "setItem ref str") => `(tactic| (k_here; k_dflt (refine' kda_set (knd := PySem.strKind _ _) ?F ?N ?U ?d (strKind_is _ _ _ _) ?z ?_; (case F => k_asm); (case N => k_asm); (case U => k_updF); (case d => k_asm); (case z => (rw [sizeLine_eq]; omega)); k_whole); intro h' o' F' N' hd'; (try dsimp only at N'); (try k_sweep)))
section
variable {prog : Program} {w : World} {vs : List Vec} {dp df : Addr} {m₀ : Str → Option Value}
def DueJ (prog : Program) (w : World) (vs : List Vec) (dp df : Addr) (m₀ : Str → Option Value) (i : Nat) (m : Str → Option Value) (nw : List (Addr × Obj)) : Prop :=
  ∃ u1 u2 u3 t op oF kvF kvP, m = (fun z => if z = Str.ofString "octets" then u3 else if z = Str.ofString "value" then u2 else if z = Str.ofString "name" then u1 else if z = Str.ofString "at" then some (.int ((enc (vs.take i)).length : Int) t) else m₀ z) ∧ nw = [(dp, op), (df, oF)] ∧
    oF.IsDictOf (PySem.strKind prog w) kvF ∧ op.IsDictOf (PySem.strKind prog w) kvP ∧ Pair2 PB kvF (dueF (vs.take i)) ∧ Pair2 PI kvP (dueP (vs.take i))
theorem due_start {op oF : Obj} (h1 : oF.IsDictOf (PySem.strKind prog w) []) (h2 : op.IsDictOf (PySem.strKind prog w) []) {t : Tok} (hat : m₀ (Str.ofString "at") = some (.int 0 t)) : DueJ prog w vs dp df m₀ 0 m₀ [(dp, op), (df, oF)] := by
  refine ⟨m₀ (Str.ofString "name"), m₀ (Str.ofString "value"), m₀ (Str.ofString "octets"), t, op, oF, [], [], ?_, rfl, h1, h2, .nil, .nil⟩
  funext z
  by_cases e1 : z = Str.ofString "octets"
  · rw [if_pos e1, e1]
  by_cases e2 : z = Str.ofString "value"
  · rw [if_neg e1, if_pos e2, e2]
  by_cases e3 : z = Str.ofString "name"
  · rw [if_neg e1, if_neg e2, if_pos e3, e3]
  by_cases e4 : z = Str.ofString "at"
  · subst e4
    rw [if_neg e1, if_neg e2, if_neg e3, if_pos rfl, hat]; rfl
  · simp [e1, e2, e3, e4]
theorem take_next {i : Nat} (hi : i < vs.length) : vs.take (i + 1) = vs.take i ++ [vs[i]] := by
  rw [List.take_add_one, List.getElem?_eq_getElem hi]; rfl
theorem due_next {i : Nat} {m' : Str → Option Value} {op oF : Obj} {kvF kvP : List (Str × Value)} {b : Array UInt8} {t t2 t4 : Tok} (hi : i < vs.length)
    (hat : m' (Str.ofString "at") = some (.int (((enc (vs.take i)).length : Int) + ((enc1 vs[i]).length : Int)) t)) (hb : KBw.bInts b = vs[i].ks)
    (hsame : ∀ z, z ≠ Str.ofString "octets" → z ≠ Str.ofString "value" → z ≠ Str.ofString "name" → z ≠ Str.ofString "at" → m' z = m₀ z)
    (h1 : oF.IsDictOf (PySem.strKind prog w) (stored kvF (nameOf vs[i].j) (.bytes b t2))) (h2 : op.IsDictOf (PySem.strKind prog w) (stored kvP (nameOf vs[i].j) (.int ((enc (vs.take i)).length : Int) t4)))
    (pF : Pair2 PB kvF (dueF (vs.take i))) (pP : Pair2 PI kvP (dueP (vs.take i))) : DueJ prog w vs dp df m₀ (i + 1) m' [(dp, op), (df, oF)] := by
  refine ⟨m' (Str.ofString "name"), m' (Str.ofString "value"), m' (Str.ofString "octets"), t, op, oF, _, _, ?_, rfl, h1, h2, ?_, ?_⟩
  · funext z
    by_cases e1 : z = Str.ofString "octets"
    · rw [if_pos e1, e1]
    by_cases e2 : z = Str.ofString "value"
    · rw [if_neg e1, if_pos e2, e2]
    by_cases e3 : z = Str.ofString "name"
    · rw [if_neg e1, if_neg e2, if_pos e3, e3]
    by_cases e4 : z = Str.ofString "at"
    · rw [if_neg e1, if_neg e2, if_neg e3, if_pos e4, e4, hat, take_next hi, enc_app, List.length_append]
      simp [enc]
    · rw [if_neg e1, if_neg e2, if_neg e3, if_neg e4]
      exact hsame z e1 e2 e3 e4
  · rw [take_next hi, dueF_snoc]; exact pF.stored ⟨b, t2, rfl, hb⟩
  · rw [take_next hi, dueP_snoc]; exact pP.stored ⟨t4, rfl⟩
end
def DuePost (prog : Program) (w : World) (vs : List Vec) (h : Heap) (r : Value) (h' : Heap) : Prop :=
  ∃ t d1 d2 o1 o2 kvF kvP n, r = .ref t ∧ Fresh h h' [(t, ({ cls := .type "tuple", data := .seq #[.ref d1, .ref d2] n } : Obj)), (d2, o2), (d1, o1)] ∧ (d1 == sysModules) = false ∧ (d2 == sysModules) = false ∧
    o1.IsDictOf (PySem.strKind prog w) kvF ∧ o2.IsDictOf (PySem.strKind prog w) kvP ∧ Pair2 PB kvF (dueF vs) ∧ Pair2 PI kvP (dueP vs)
theorem due_tel (prog : Program) (w : World) (R : Addr) (vs : List Vec) : Tel prog w 129 [.ref R] 3 20 (fun h => RowsAt h R vs ∧ vs.length ≤ 100) (DuePost prog w vs) := by
  unfold Tel
  intro dp un gd outer A₀ base s p loose mean mg mb Q E B X T hdp hu hpre hret
  obtain ⟨⟨its, ⟨lo, hlo, hlc, n, hld⟩, hr⟩, hlen⟩ := hpre
  (refine wpAny_call ?_; refine' code_enter (K := hd.heap_39 _) ?k3 ?k5 ?k6 ?k7 ?k8 ?k9 ?kB ?_ ?c2 ?c3 ?c4 ?c5; (case k3 => assumption); (case k5 => assumption); (case k6 => k_is); (case k7 => k_is); (case k8 => (dsimp only [ATop]; omega)); (case k9 => first | exact BindsTo.of_eq rfl | exact binds_K (by assumption) rfl (by k_is) rfl rfl rfl); (case c5 => decide); (case kB => exact locs rfl); (case c2 => exact rfl); (case c3 => exact rfl); (case c4 => exact rfl); intro L' h' F' N'; (try dsimp only); (try k_fold))
  k_steps
  refine' turns_list (J := DueJ prog w vs _ _ _) rfl rfl rfl hlc hld (.inl hlo) (by k_asm) (by k_asm) (due_start (by assumption) (by assumption) (t := ?t) ?e) ?turn ?done
  case e => exact rfl
  case turn =>
    intro i v I oI m₁ news₁ h tk hv hJ hI F₁ N₁
    obtain ⟨u1, u2, u3, t, op, oF, kvF, kvP, rfl, rfl, hF, hP, pF, pP⟩ := hJ
    have hi : i < vs.length := by rw [← hr.length]; exact (List.getElem?_eq_some_iff.mp hv).1
    obtain ⟨a, o, e1, e2, e3⟩ := hr.get (List.getElem?_eq_getElem hi)
    rw [hv] at e1; cases e1
    obtain ⟨t1, b, t2, c, t3, n3, rfl, hb, hc, hj, hk⟩ := e3
    k_sweep
    simp only [List.cons_append, List.nil_append] at N₁
    have hT : IsTup h a #[.str (nameOf vs[i].j) t1, .bytes b t2, .bytes c t3] := ⟨_, F₁.keep _ _ e2, rfl, n3, rfl⟩
    have hIp := neN (hI _ (.head _))
    have hIf := neN (hI _ (.tail _ (.head _)))
    dsimp only at hIp hIf
    clear hI
    have hzF : kvF.length ≤ 100 := by have h1 := pF.length; have h2 := (due_len (vs.take i)).1; rw [List.length_take] at h2; omega
    have hzP : kvP.length ≤ 100 := by have h1 := pP.length; have h2 := (due_len (vs.take i)).2; rw [List.length_take] at h2; omega
    have hcl : (enc1 vs[i]).length ≤ 303 := by rw [enc1_len]; omega
    k_steps
    refine' ⟨_, _, _, [(_, _), (_, _)], rfl, (by k_asm), (by k_asm), ?off, due_next (t := ?tt) hi ?hat hb ?hs (by assumption) (by assumption) pF pP⟩
    case hat => exact rfl
    case off =>
      intro p hp
      simp only [List.mem_cons, List.not_mem_nil, or_false] at hp
      rcases hp with rfl | rfl <;> assumption
    case hs =>
      intro z e1 e2 e3 e4
      simp only [if_neg e1, if_neg e2, if_neg e3, if_neg e4]
  case done =>
    intro m₁ news₁ h tk hJ F₁ N₁
    obtain ⟨u1, u2, u3, t, op, oF, kvF, kvP, rfl, rfl, hF, hP, pF, pP⟩ := hJ
    k_sweep
    rw [hr.length, List.take_length] at pF pP
    k_steps
    exact hret _ _ _ (stays_fr (by assumption)) ⟨_, _, _, _, _, _, _, _, rfl, fresh_of (by assumption), by assumption, by assumption, hF, hP, pF, pP⟩
end Mine
end

/-! A comprehension, by an invariant. -/
section
open PySem PySem.W PyProof.Rows PySem.Calls PyProof.Rows.LCg
set_option Elab.async false
set_option maxRecDepth 100000
set_option maxHeartbeats 4000000
namespace Mine
theorem anewComp : True := by
  w_top off
  trivial
section
variable {prog : Program} {w : World} {A : Around} {E : Value → Shared → Prop} {s : Shared} {h₀ : Heap} {L : Addr} {m : Str → Option Value} {env : Env}

/-- the tests of a comprehension -/
abbrev testsOf (ifs : List PySem.Expr) (env : Env) : Sem Bool := forIn ifs true fun c r => if r = true then do let ok ← isTrue c env (eval c env); pure (ForInStep.yield ok) else pure (ForInStep.yield r)

theorem comp_loop {elt target iter : PySem.Expr} {ifs : List PySem.Expr} {scope : Scope} {pos : Pos} {it acc : Value} {env : Env} {R : Result → Shared → Prop} (Iv : Nat → Shared → Prop)
    (turn : ∀ n s, Iv n s → ∀ E' : Value → Shared → Prop, wpAny (model prog w) A (pyNext it) (fun r s₁ => match r with
      | none => R (.ok .next) s₁
      | some v => wpAny (model prog w) A (letOwnedTupleGo target it v) (fun _ s₁' => wpAny (model prog w) A (assign target env v) (fun _ s₂ => wpAny (model prog w) A (testsOf ifs env) (fun ok s₃ =>
          if ok = true then wpAny (model prog w) A (eval elt env) (fun x s₄ => wpAny (model prog w) A (call (.builtin "list.append") [acc, x]) (fun _ s₅ => ∃ m, m < n ∧ Iv m s₅) E' s₄) E' s₃
          else ∃ m, m < n ∧ Iv m s₃) E' s₂) E' s₁') E' s₁) E' s)
    (n : Nat) (s : Shared) (h : Iv n s) : codeAny (model prog w) A (.compLoop (.ListComp elt [⟨target, iter, ifs, 0⟩] scope pos) 0 it acc env) R s := by
  refine codeAny_loop rfl Iv (fun n s hI => ?_) n h
  show wpAny _ A ((compTurn (.ListComp elt [⟨target, iter, ifs, 0⟩] scope pos) 0 it acc env).onRaise (fun x => do noteFrame x env; theTreesLotGoes x)) _ _ s
  refine wpAny_noted ?_
  rw [compTurn_list]
  refine wpAny_bind (wpAny_standAt (wpAny_bind (wpAny_mono (turn n s hI _) (fun r s₁ h₁ => ?_) fun _ _ h' => h')))
  cases r with
  | none => exact wpAny_pure h₁
  | some v =>
    refine wpAny_bind (wpAny_mono h₁ (fun _ s₁' h₁' => ?_) fun _ _ h' => h')
    refine wpAny_bind (wpAny_mono h₁' (fun _ s₂ h₂ => wpAny_bind (wpAny_mono h₂ (fun ok s₃ h₃ => ?_) fun _ _ h' => h')) fun _ _ h' => h')
    cases ok with
    | false => exact wpAny_pure ⟨rfl, h₃⟩
    | true =>
      have h₃' := h₃
      simp only [if_true] at h₃'
      exact wpAny_bind (wpAny_bind (wpAny_mono h₃' (fun x s₄ h₄ => wpAny_bind (wpAny_mono h₄ (fun _ s₅ h₅ => wpAny_pure (wpAny_pure ⟨rfl, h₅⟩)) fun _ _ h' => h')) fun _ _ h' => h'))

def CEnd (h₀ : Heap) (L : Addr) (m : Str → Option Value) (s₁ : Shared) (I : Addr) (oI : Obj) (C D : Addr) (ys : List Value) (Iv : List (Addr × Obj) → Prop) (s₂ : Shared) : Prop :=
  ∃ h' tk oC m₂ nw, s₂ = { s₁ with heap := h', toks := tk } ∧ Fr h₀ L h' m ∧ NsObj oC m₂ ∧ News h₀ L h' (nw ++ [(D, lst ys), (C, oC), (I, oI)]) ∧ (∀ p ∈ nw, p.1 ≠ I ∧ p.1 ≠ C ∧ p.1 ≠ D) ∧ Iv nw

theorem comp_core {elt target iter : PySem.Expr} {ifs : List PySem.Expr} {scope : Scope} {cl : List (Str × Addr)} {pos : Pos} {s₂ : Shared} {I : Addr} {fp : List Addr} {n : Nat} {P : Nat → Value → Prop} {St : Nat → Heap → Prop} {news : List (Addr × Obj)}
    {RR : Value → Addr → Result → Shared → Prop} (Iv : Nat → List Value → List (Addr × Obj) → Prop)
    (W : Walks prog w A I fp [I] n P St) (hsz : n ≤ sizeLine) (hIo : ∀ i h, St i h → ∃ o, h.get? I = some o)
    (hlet : ∀ i (s : Shared) (Q : Unit → Shared → Prop) (E : Value → Shared → Prop) v, St i s.heap → Q () s → wpAny (model prog w) A (letOwnedTupleGo target (.ref I) v) Q E s)
    (hSt : ∀ i h h' o nw ys, St i h → h.get? I = some o → h'.get? I = some o → (∀ b o, h₀.get? b = some o → h'.get? b = some o) → News h₀ L h' nw → Iv i ys nw → St i h')
    (hcell : ∀ y ∈ scope.names, y.2 ≠ .cell) (hkind : scope.kind = .function) (hst : St 0 s₂.heap) (hfp : ∀ b ∈ fp, b < s₂.heap.objs.size)
    (F : Fr h₀ L s₂.heap m) (N : News h₀ L s₂.heap news) (hIL : L ≠ I) (hI₀ : h₀.get? I = none) (off : ∀ p ∈ news, p.1 ≠ I) (h0 : Iv 0 [] news)
    (turn : ∀ i v ys oI C oC D m₂ nw h tk (E' : Value → Shared → Prop), i < n → P i v → Iv i ys nw → NsObj oC m₂ → Fr h₀ L h m → News h₀ L h (nw ++ [(D, lst ys), (C, oC), (I, oI)]) → (∀ p ∈ nw, p.1 ≠ I ∧ p.1 ≠ C ∧ p.1 ≠ D) → (I ≠ C ∧ I ≠ D ∧ C ≠ D) →
      wpAny (model prog w) A (assign target (compEnvC scope cl C env) v) (fun _ s₃ => wpAny (model prog w) A (testsOf ifs (compEnvC scope cl C env)) (fun ok s₄ =>
        if ok = true then wpAny (model prog w) A (eval elt (compEnvC scope cl C env)) (fun y s₅ => CEnd h₀ L m { s₂ with heap := h, toks := tk } I oI C D ys (Iv (i + 1) (ys ++ [y])) s₅) E' s₄
        else CEnd h₀ L m { s₂ with heap := h, toks := tk } I oI C D ys (Iv (i + 1) ys) s₄) E' s₃) E' { s₂ with heap := h, toks := tk })
    (hRR : ∀ D C h tk m' ys nw, Fr h₀ L h m → News h₀ L h ((D, lst ys) :: nw) → (∀ p ∈ nw, p.1 ≠ D) → h.Ns C m' → h₀.get? C = none → h₀.get? D = none → C ≠ L → D ≠ L → C ≠ D → (∀ p ∈ nw, p.1 ≠ C) → Iv n ys nw → RR (.ref D) C (.ok .next) { s₂ with heap := h, toks := tk }) :
    wpAny (model prog w) A (newList []) (fun acc s₃ => wpAny (model prog w) A (newFunctionEnv scope env.globals cl [] env.qual none .none (some env)) (fun cenv s₄ =>
      codeAny (model prog w) A (.compStart (.ListComp elt [⟨target, iter, ifs, 0⟩] scope pos) 0 (.ref I) acc { cenv with scope := relabel scope env }) (RR acc cenv.locals) s₄) E s₃) E s₂ := by
  refine wpAny_newObj_type (wpAny_newFunctionEnv hcell (by intro y hy; simp at hy) (fun h₁ hns₁ hsb₁ => ?_) hkind)
  dsimp only at hns₁ hsb₁ ⊢
  generalize hH2 : s₂.heap.push { cls := .type "list", dict := none, data := .seq ([] : List Value).toArray } = H2 at hns₁ hsb₁ ⊢
  have hC : H2.objs.size = s₂.heap.objs.size + 1 := by rw [← hH2, Heap.size_push]
  obtain ⟨D, hDd⟩ : ∃ D : Nat, D = s₂.heap.objs.size := ⟨_, rfl⟩
  obtain ⟨C, hCd⟩ : ∃ C : Nat, C = H2.objs.size := ⟨_, rfl⟩
  rw [← hCd] at hns₁ hsb₁ hC
  rw [← hDd] at hC hfp
  rw [← hCd, ← hDd]
  have hDC : D ≠ C := by omega
  have hIf : I ∈ fp := W.sub I (List.mem_singleton.mpr rfl)
  have hIlt : @LT.lt Nat _ I D := hfp I hIf
  have hDf : D ∉ fp := fun hm => Nat.lt_irrefl _ (hfp _ hm)
  have hCf : C ∉ fp := fun hm => by have h1 : @LT.lt Nat _ C D := hfp _ hm; omega
  have ltD : ∀ {b : Nat} {o}, s₂.heap.get? b = some o → b < D := fun e => hDd ▸ Heap.lt_size e
  have old : ∀ b o, s₂.heap.get? b = some o → h₁.get? b = some o := fun b o e => hsb₁.extBut b o (by have h1 := ltD e; have q : @Ne Nat b C := (by omega); exact q) (Heap.get?_push_of_some _ (hH2 ▸ Heap.get?_push_of_some _ e))
  have hacc : h₁.get? D = some (lst []) := hsb₁.extBut _ _ hDC (Heap.get?_push_of_some _ (by rw [← hH2, hDd]; exact Heap.get?_push_size _ rfl))
  have hst₁ : St 0 h₁ := W.frame _ _ _ hst fun b _ o e => old b o e
  have fresh₀ : ∀ a : Nat, D ≤ a → h₀.get? a = none := fun a ha => by
    cases e : h₀.get? a with
    | none => rfl
    | some o' => have h1 := ltD (F.keep a o' e); omega
  have hD₀ : h₀.get? D = none := fresh₀ _ (Nat.le_refl _)
  have hC₀ : h₀.get? C = none := fresh₀ _ (by omega)
  have hLlt : @LT.lt Nat _ L D := hDd ▸ F.ns.lt
  have hDL : @Ne Nat D L := by omega
  have hCL : @Ne Nat C L := by omega
  have hIC : @Ne Nat I C := by omega
  have hID : @Ne Nat I D := by omega
  have loop : ∀ s₃ : Shared, s₃ = { s₂ with heap := h₁, toks := s₂.toks + ([] : List (Str × Value)).length } →
      codeAny (model prog w) A (.compLoop (.ListComp elt [⟨target, iter, ifs, 0⟩] scope pos) 0 (.ref I) (.ref D) (compEnvC scope cl C env)) (RR (.ref D) C) s₃ := by
    rintro s₃ rfl
    refine comp_loop (fun k s' => ∃ h' tk i ys m' nw, s' = { s₂ with heap := h', toks := tk } ∧ i ≤ n ∧ k = n + 1 - i ∧ ys.length ≤ i ∧ St i h' ∧ Fr h₀ L h' m ∧ h'.Ns C m' ∧ News h₀ L h' ((D, lst ys) :: nw) ∧ (∀ p ∈ nw, p.1 ≠ I ∧ p.1 ≠ C ∧ p.1 ≠ D) ∧ Iv i ys nw) ?_ (n + 1) _
      ⟨h₁, _, 0, [], _, news, rfl, Nat.zero_le _, rfl, Nat.le_refl _, hst₁, F.keeps old, hns₁, fun p hp => ?_, fun p hp => ?_, h0⟩
    · rintro k s' ⟨h', tk, i, ys, m', nw, rfl, hi, rfl, hyl, hst', F', hn', N', off', hI'⟩ E'
      by_cases hlt : i < n
      · refine W.item i _ _ _ hlt hst' fun v h₂ tk₂ hPv hst₂ hk₂ => ?_
        refine hlet _ _ _ _ _ hst₂ ?_
        obtain ⟨oI, heI⟩ := hIo _ _ hst₂
        have hn₂ : h₂.Ns C m' := hn'.at' fun o e => hk₂ _ o (by simpa using Ne.symm hIC) e
        obtain ⟨oC, heC, hoC⟩ := ns_obj hn₂
        have F₂ : Fr h₀ L h₂ m := fr_but F' hk₂ hIL hI₀
        have N₂ : News h₀ L h₂ ((D, lst ys) :: nw) := news_but N' hk₂ fun p hp => by
          rcases List.mem_cons.mp hp with rfl | hp
          · exact Ne.symm hID
          · exact (off' p hp).1
        have N₃ : News h₀ L h₂ (nw ++ [(D, lst ys), (C, oC), (I, oI)]) := fun p hp => by
          rcases List.mem_append.mp hp with hp | hp
          · exact N₂ p (.tail _ hp)
          · rcases List.mem_cons.mp hp with rfl | hp
            · exact N₂ _ (.head _)
            · rcases List.mem_cons.mp hp with rfl | hp
              · exact ⟨heC, hCL, hC₀⟩
              · rw [List.mem_singleton.mp hp]; exact ⟨heI, Ne.symm hIL, hI₀⟩
        have key : ∀ (ys' : List Value) s₄, CEnd h₀ L m { s₂ with heap := h₂, toks := tk₂ } I oI C D ys (Iv (i + 1) ys') s₄ → ∃ h₄ tk₄ oC₄ m₄ nw₄, s₄ = { s₂ with heap := h₄, toks := tk₄ } ∧ Fr h₀ L h₄ m ∧ h₄.get? C = some oC₄ ∧ NsObj oC₄ m₄ ∧ h₄.get? D = some (lst ys) ∧ News h₀ L h₄ nw₄ ∧ (∀ p ∈ nw₄, p.1 ≠ I ∧ p.1 ≠ C ∧ p.1 ≠ D) ∧ Iv (i + 1) ys' nw₄ ∧ St (i + 1) h₄ := by
          rintro ys' s₄ ⟨h₄, tk₄, oC₄, m₄, nw₄, rfl, F₄, hoC₄, N₄, off₄, hI₄⟩
          have zI := (N₄ (I, oI) (by simp)).1
          have zC := (N₄ (C, oC₄) (by simp)).1
          have zD := (N₄ (D, lst ys) (by simp)).1
          have N₄' : News h₀ L h₄ nw₄ := fun p hp => N₄ p (List.mem_append_left _ hp)
          exact ⟨h₄, tk₄, oC₄, m₄, nw₄, rfl, F₄, zC, hoC₄, zD, N₄', off₄, hI₄, hSt _ _ _ _ _ _ hst₂ heI zI F₄.keep N₄' hI₄⟩
        refine wpAny_mono (turn i v ys oI C oC D m' nw h₂ tk₂ E' hlt hPv hI' hoC F₂ N₃ off' ⟨hIC, hID, Ne.symm hDC⟩) (fun _ s₃ h₃ => wpAny_mono h₃ (fun ok s₄ h₄ => ?_) fun _ _ e => e) fun _ _ e => e
        cases ok with
        | false =>
          replace h₄ : CEnd h₀ L m { s₂ with heap := h₂, toks := tk₂ } I oI C D ys (Iv (i + 1) ys) s₄ := h₄
          obtain ⟨g₄, tk₄, oC₄, m₄, nw₄, rfl, F₄, zC, hoC₄, zD, N₄', off₄, hI₄, hst₄⟩ := key _ _ h₄
          refine ⟨n + 1 - (i + 1), by omega, g₄, tk₄, i + 1, ys, m₄, nw₄, rfl, hlt, rfl, by omega, hst₄, F₄, hoC₄.ns zC, fun p hp => ?_, off₄, hI₄⟩
          rcases List.mem_cons.mp hp with rfl | hp
          · exact ⟨zD, hDL, hD₀⟩
          · exact N₄' p hp
        | true =>
          simp only [if_true] at h₄ ⊢
          refine wpAny_mono h₄ (fun y s₅ h₅ => ?_) fun _ _ e => e
          obtain ⟨h₄, tk₄, oC₄, m₄, nw₄, rfl, F₄, zC, hoC₄, zD, N₄', off₄, hI₄, hst₄⟩ := key _ _ h₅
          have hsize : ys.toArray.size ≤ sizeLine := by rw [List.size_toArray]; omega
          refine append_at (hsz := hsize) zD fun h₅ hs₅ hD₅ => ?_
          refine ⟨n + 1 - (i + 1), by omega, h₅, tk₄, i + 1, ys ++ [y], m₄, nw₄, rfl, hlt, rfl, by rw [List.length_append, List.length_singleton]; omega, W.frame _ _ _ hst₄ fun b hb o e => hs₅.extBut b o (fun q => hDf (q ▸ hb)) e,
            F₄.change hs₅ hDL hD₀, (hoC₄.ns zC).sameBut hs₅ (Ne.symm hDC), fun p hp => ?_, off₄, hI₄⟩
          rcases List.mem_cons.mp hp with rfl | hp
          · exact ⟨hD₅.trans (congrArg some (lst_snoc ys y)), hDL, hD₀⟩
          · exact ⟨hs₅.extBut _ _ (off₄ p hp).2.2 (N₄' p hp).1, (N₄' p hp).2⟩
      · obtain rfl : i = n := Nat.le_antisymm hi (Nat.not_lt.mp hlt)
        refine W.done _ _ _ hst' fun h₂ tk₂ hk₂ => ?_
        refine hRR D C h₂ tk₂ m' ys nw (fr_but F' hk₂ hIL hI₀) (news_but N' hk₂ fun p hp => ?_) (fun p hp => (off' p hp).2.2) (hn'.at' fun o e => hk₂ _ o (by simpa using Ne.symm hIC) e) hC₀ hD₀ hCL hDL (Ne.symm hDC) (fun p hp => (off' p hp).2.1) hI'
        rcases List.mem_cons.mp hp with rfl | hp
        · exact Ne.symm hID
        · exact (off' p hp).1
    · rcases List.mem_cons.mp hp with rfl | hp
      · exact ⟨hacc, hDL, hD₀⟩
      · exact ⟨old _ _ (N p hp).1, (N p hp).2⟩
    · have h1 := ltD (N p hp).1
      have h2 : @Ne Nat p.1 C := by omega
      have h3 : @Ne Nat p.1 D := by omega
      exact ⟨off p hp, h2, h3⟩
  exact codeAny_compStart_list (loop _ rfl) (W.self 0 _ _ _ hst₁ (loop _ rfl))

def CompGo (prog : Program) (w : World) (A : Around) (env : Env) (elt target iter : PySem.Expr) (ifs : List PySem.Expr) (scope : Scope) (cl : List (Str × Addr)) (pos : Pos) (RR : Value → Addr → Result → Shared → Prop) (E : Value → Shared → Prop) (xv : Value) (s₁ : Shared) : Prop :=
  wpAny (model prog w) A (pyIter xv) (fun it s₂ => wpAny (model prog w) A (newList []) (fun acc s₃ => wpAny (model prog w) A (newFunctionEnv scope env.globals cl [] env.qual none .none (some env)) (fun cenv s₄ =>
      codeAny (model prog w) A (.compStart (.ListComp elt [⟨target, iter, ifs, 0⟩] scope pos) 0 it acc { cenv with scope := relabel scope env }) (RR acc cenv.locals) s₄) E s₃) E s₂) E s₁

theorem comp_eval {elt target iter : PySem.Expr} {ifs : List PySem.Expr} {scope : Scope} {cl : List (Str × Addr)} {pos : Pos} {Q : Value → Shared → Prop}
    (hclos : closureFor scope env = pure cl) (hkind : scope.kind = .function) (hnames : ∀ y ∈ scope.names, y.2 = .local → scope.names.lookup y.1 = some .local)
    (h : wpAny (model prog w) A (eval iter env) (CompGo prog w A env elt target iter ifs scope cl pos (compPost (model prog w) A E none Q) E) E s)
    (hs : ∀ x, foldedSetIterable iter env x = pure x := by intro _; rfl) :
    wpAny (model prog w) A (eval (.ListComp elt [⟨target, iter, ifs, 0⟩] scope pos) env) Q E s := by
  rw [eval_ListComp]
  exact wpAny_comprehension_free (use := none) rfl hs hclos hkind hnames (wpAny_mono h (fun xv s₁ h₁ => h₁) fun _ _ e => e)

theorem comp_assign {elt target iter : PySem.Expr} {ifs : List PySem.Expr} {scope : Scope} {cl : List (Str × Addr)} {pos spos py : Pos} {y : Str} {Q : Flow → Shared → Prop}
    (hsw : swapsWith (.ListComp elt [⟨target, iter, ifs, 0⟩] scope pos) (some (.Name y py)) spos.line env = pure true)
    (hclos : closureFor scope env = pure cl) (hkind : scope.kind = .function) (hnames : ∀ y ∈ scope.names, y.2 = .local → scope.names.lookup y.1 = some .local)
    (h : wpAny (model prog w) A (eval iter env) (CompGo prog w A env elt target iter ifs scope cl pos (compPost (model prog w) A E (some (assign (.Name y py) env)) (fun _ s' => Q .next s')) E) E s)
    (hs : ∀ x, foldedSetIterable iter env x = pure x := by intro _; rfl) :
    wpAny (model prog w) A (exec (.Assign [.Name y py] (.ListComp elt [⟨target, iter, ifs, 0⟩] scope pos) spos) env) Q E s := by
  rw [exec_Assign_Name_used _ _ _ _ hsw]
  refine wpAny_bind (wpAny_standAt (wpAny_bind ?_))
  show wpAny _ A (do let _ ← comprehension (.ListComp elt [⟨target, iter, ifs, 0⟩] scope pos) scope env _ (newList []) false (eval iter env) (some (assign (.Name y py) env))) _ _ s
  exact wpAny_bind (wpAny_mono (wpAny_comprehension_free (use := some (assign (.Name y py) env)) (Q := fun _ s' => Q .next s') rfl hs hclos hkind hnames
    (wpAny_mono h (fun xv s₁ h₁ => h₁) fun _ _ e => e)) (fun _ s' hq => wpAny_pure (wpAny_pure hq)) fun _ _ e => e)

/-- the list that the comprehension has made, and its frame's names -/
abbrev Made (h₀ : Heap) (L : Addr) (m : Str → Option Value) (ys : List Value) (nw : List (Addr × Obj)) (D C : Addr) (m' : Str → Option Value) (h : Heap) : Prop :=
  Fr h₀ L h m ∧ News h₀ L h ((D, lst ys) :: nw) ∧ (∀ p ∈ nw, p.1 ≠ D) ∧ h.Ns C m' ∧ h₀.get? C = none ∧ h₀.get? D = none ∧ C ≠ L ∧ D ≠ L ∧ C ≠ D ∧ (∀ p ∈ nw, p.1 ≠ C)

theorem compgo_list {elt target iter : PySem.Expr} {ifs : List PySem.Expr} {scope : Scope} {cl : List (Str × Addr)} {pos : Pos} {RR : Value → Addr → Result → Shared → Prop} {ax : Addr} {lo : Obj} {its : List Value} {k : Nat} {news : List (Addr × Obj)}
    (Iv : Nat → List Value → List (Addr × Obj) → Prop) (ht : plainTarget target = true) (hh : A.handled = none) (hlc : lo.cls = .type "list") (hld : lo.data = .seq its.toArray k) (hl : h₀.get? ax = some lo ∨ ∀ i ys n, Iv i ys n → (ax, lo) ∈ n)
    (hsz : its.length ≤ sizeLine) (hcell : ∀ y ∈ scope.names, y.2 ≠ .cell) (hkind : scope.kind = .function) (F : Fr h₀ L s.heap m) (N : News h₀ L s.heap news) (h0 : Iv 0 [] news)
    (turn : ∀ i v ys I oI C oC D m₂ nw h tk (E' : Value → Shared → Prop), its[i]? = some v → Iv i ys nw → NsObj oC m₂ → Fr h₀ L h m → News h₀ L h (nw ++ [(D, lst ys), (C, oC), (I, oI)]) → (∀ p ∈ nw, p.1 ≠ I ∧ p.1 ≠ C ∧ p.1 ≠ D) → (I ≠ C ∧ I ≠ D ∧ C ≠ D) →
      wpAny (model prog w) A (assign target (compEnvC scope cl C env) v) (fun _ s₃ => wpAny (model prog w) A (testsOf ifs (compEnvC scope cl C env)) (fun ok s₄ =>
        if ok = true then wpAny (model prog w) A (eval elt (compEnvC scope cl C env)) (fun y s₅ => CEnd h₀ L m { s with heap := h, toks := tk } I oI C D ys (Iv (i + 1) (ys ++ [y])) s₅) E' s₄
        else CEnd h₀ L m { s with heap := h, toks := tk } I oI C D ys (Iv (i + 1) ys) s₄) E' s₃) E' { s with heap := h, toks := tk })
    (hRR : ∀ D C h tk m' ys nw, Made h₀ L m ys nw D C m' h → Iv its.length ys nw → RR (.ref D) C (.ok .next) { s with heap := h, toks := tk }) :
    CompGo prog w A env elt target iter ifs scope cl pos RR E (.ref ax) s := by
  have hls : s.heap.get? ax = some lo := hl.elim (fun e => F.keep _ _ e) fun k => (N _ (k 0 [] news h0)).1
  have hL : s.heap.IsList ax its.toArray := ⟨lo, hls, hlc, k, hld⟩
  have hlt : ax < s.heap.objs.size := Heap.lt_size hls
  refine wpAny_pyIter_list hL ?_
  have up : ∀ b o, s.heap.get? b = some o → (s.heap.push { cls := .type "list_iterator", data := .fields #[.ref ax, .int 0 0] }).get? b = some o := fun b o e => Heap.get?_push_of_some _ e
  have en : its.toArray.size = its.length := by simp
  refine comp_core Iv (Walks.list hh s.heap.objs.size ax (Nat.ne_of_lt hlt) its.toArray) (by rw [en]; exact hsz) (fun i h st => by obtain ⟨o, e, _⟩ := st.1; exact ⟨o, e⟩) (fun i s' Q' E' v st hq => lets_list ht st.1 hq) ?_ hcell hkind
    ⟨⟨_, Heap.get?_push_size _ rfl, rfl, rfl⟩, ⟨lo, up _ _ hls, hlc, k, hld⟩⟩ (fun b hb => ?_) (F.keeps up) (N.grown up) (Nat.ne_of_lt F.ns.lt) (next_is_new F) (fun p hp => Nat.ne_of_lt (Heap.lt_size (N p hp).1)) h0 ?_ ?_
  · intro i h h' o nw ys st e e' kp N' hI
    obtain ⟨o', q, r⟩ := st.1
    rw [e] at q; cases q
    exact ⟨⟨o, e', r⟩, ⟨lo, hl.elim (fun z => kp _ _ z) (fun z => (N' _ (z _ _ _ hI)).1), hlc, k, hld⟩⟩
  · show b < (s.heap.push _).objs.size
    rw [Heap.size_push]
    rcases List.mem_cons.mp hb with rfl | hb
    · exact Nat.lt_succ_self _
    · rw [List.mem_singleton.mp hb]; exact Nat.lt_succ_of_lt hlt
  · intro i v ys oI C oC D m₂ nw h tk E' hi hP hI hC F' N' off ne
    exact turn i v ys _ oI C oC D m₂ nw h tk E' (by simpa using hP) hI hC F' N' off ne
  · intro D C h tk m' ys nw F' N' o1 hn hC₀ hD₀ hCL hDL hCD offC hI
    rw [en] at hI
    exact hRR D C h tk m' ys nw ⟨F', N', o1, hn, hC₀, hD₀, hCL, hDL, hCD, offC⟩ hI

theorem compgo_range {elt target iter : PySem.Expr} {ifs : List PySem.Expr} {scope : Scope} {cl : List (Str × Addr)} {pos : Pos} {RR : Value → Addr → Result → Shared → Prop} {r : Addr} {a b : Int} {t u v : Tok} {n : Nat} {news : List (Addr × Obj)}
    (Iv : Nat → List Value → List (Addr × Obj) → Prop) (hlet : ∀ I v, letOwnedTupleGo target (.ref I) v = pure ()) (hh : A.handled = none) (hr : IsRange s.heap r a b 1 t u v) (hsm : Builtin.Range.small a b 1 = true) (hn : Builtin.Range.rangeSize a b 1 = ((n : Nat) : Int))
    (hsz : n ≤ sizeLine) (hcell : ∀ y ∈ scope.names, y.2 ≠ .cell) (hkind : scope.kind = .function) (F : Fr h₀ L s.heap m) (N : News h₀ L s.heap news) (h0 : Iv 0 [] news)
    (turn : ∀ i ti ys I oI C oC D m₂ nw h tk (E' : Value → Shared → Prop), i < n → Iv i ys nw → NsObj oC m₂ → Fr h₀ L h m → News h₀ L h (nw ++ [(D, lst ys), (C, oC), (I, oI)]) → (∀ p ∈ nw, p.1 ≠ I ∧ p.1 ≠ C ∧ p.1 ≠ D) → (I ≠ C ∧ I ≠ D ∧ C ≠ D) →
      wpAny (model prog w) A (assign target (compEnvC scope cl C env) (.int (a + (i : Int)) ti)) (fun _ s₃ => wpAny (model prog w) A (testsOf ifs (compEnvC scope cl C env)) (fun ok s₄ =>
        if ok = true then wpAny (model prog w) A (eval elt (compEnvC scope cl C env)) (fun y s₅ => CEnd h₀ L m { s with heap := h, toks := tk } I oI C D ys (Iv (i + 1) (ys ++ [y])) s₅) E' s₄
        else CEnd h₀ L m { s with heap := h, toks := tk } I oI C D ys (Iv (i + 1) ys) s₄) E' s₃) E' { s with heap := h, toks := tk })
    (hRR : ∀ D C h tk m' ys nw, Made h₀ L m ys nw D C m' h → Iv n ys nw → RR (.ref D) C (.ok .next) { s with heap := h, toks := tk }) :
    CompGo prog w A env elt target iter ifs scope cl pos RR E (.ref r) s := by
  refine wpAny_pyIter_range hr hsm ?_
  refine comp_core Iv (range_walks hh a n) hsz (fun i h st => ⟨_, st⟩) (fun i s' Q' E' v st hq => wpAny_of_eq (hlet _ _) hq) ?_ hcell hkind (by show IsRangeIter _ _ _ _ _; rw [hn]; simpa using Heap.get?_push_size _ rfl) (fun b hb => ?_)
    (F.keeps fun _ _ e => Heap.get?_push_of_some _ e) (N.grown fun _ _ e => Heap.get?_push_of_some _ e) (Nat.ne_of_lt F.ns.lt) (next_is_new F) (fun p hp => Nat.ne_of_lt (Heap.lt_size (N p hp).1)) h0 ?_ ?_
  · intro i h h' o nw ys st e e' kp N' hI
    have st' : h.get? _ = some _ := st
    rw [e] at st'
    show h'.get? _ = some _
    rw [e', ← st']
  · rw [List.mem_singleton.mp hb]
    show s.heap.objs.size < (s.heap.push _).objs.size
    rw [Heap.size_push]; exact Nat.lt_succ_self _
  · rintro i v ys oI C oC D m₂ nw h tk E' hi ⟨ti, rfl⟩ hI hC F' N' off ne
    exact turn i ti ys _ oI C oC D m₂ nw h tk E' hi hI hC F' N' off ne
  · intro D C h tk m' ys nw F' N' o1 hn hC₀ hD₀ hCL hDL hCD offC hI
    exact hRR D C h tk m' ys nw ⟨F', N', o1, hn, hC₀, hD₀, hCL, hDL, hCD, offC⟩ hI

theorem made_eval {ys : List Value} {nw : List (Addr × Obj)} {D C : Addr} {m' : Str → Option Value} {Q : Value → Shared → Prop} (M : Made h₀ L m ys nw D C m' s.heap)
    (h : ∀ h', Fr h₀ L h' m → News h₀ L h' ((D, lst ys) :: nw) → (∀ p ∈ nw, p.1 ≠ D) → Q (.ref D) { s with heap := h' }) : compPost (model prog w) A E none Q (.ref D) C (.ok .next) s := by
  obtain ⟨F', N', o1, hn, hC₀, hD₀, hCL, hDL, hCD, offC⟩ := M
  refine ⟨m', hn, fun h'' hs'' => h h'' (F'.change hs'' hCL hC₀) (fun p hp => ?_) o1⟩
  refine ⟨hs''.extBut _ _ ?_ (N' p hp).1, (N' p hp).2⟩
  rcases List.mem_cons.mp hp with rfl | hp
  · exact Ne.symm hCD
  · exact offC p hp
theorem made_local {ys : List Value} {nw : List (Addr × Obj)} {D C : Addr} {m' : Str → Option Value} {y : Str} {py : Pos} {Q : Flow → Shared → Prop} (hLe : env.locals = L) (M : Made h₀ L m ys nw D C m' s.heap)
    (hy : env.kindOf y = some .local) (hp : (env.scope.kind == .class || (env.scope.kind == .module && env.locals != env.globals)) = false)
    (h : ∀ h' tk, Fr h₀ L h' (fun z => if z = y then some (.ref D) else m z) → News h₀ L h' ((D, lst ys) :: nw) → (∀ p ∈ nw, p.1 ≠ D) → Q .next { s with heap := h', toks := tk }) :
    compPost (model prog w) A E (some (assign (.Name y py) env)) (fun _ s' => Q .next s') (.ref D) C (.ok .next) s := by
  subst hLe
  obtain ⟨F', N', o1, hn, hC₀, hD₀, hCL, hDL, hCD, offC⟩ := M
  show wpAny _ A (assign (.Name y py) env (.ref D)) _ _ _
  refine wpAny_assign_Name (wpAny_storeName_local hy F'.ns (fun h₂ hn₂ hs₂ => ?_) hp)
  have hL₀ : h₀.get? env.locals = none := Heap.get?_none_of_le F'.above
  have F₂ : Fr h₀ env.locals h₂ (fun z => if z = y then some (.ref D) else m z) := ⟨hn₂, fun b o e => hs₂.extBut b o (fun q => by rw [q, hL₀] at e; cases e) (F'.keep b o e), F'.above⟩
  refine ⟨m', hn.sameBut hs₂ hCL, fun h'' hs'' => h h'' _ (F₂.change hs'' hCL hC₀) (fun p hp => ?_) o1⟩
  have z : h₂.get? p.1 = some p.2 := hs₂.extBut _ _ (N' p hp).2.1 (N' p hp).1
  refine ⟨hs''.extBut _ _ ?_ z, (N' p hp).2⟩
  rcases List.mem_cons.mp hp with rfl | hp
  · exact Ne.symm hCD
  · exact offC p hp
theorem made_cell {ys : List Value} {nw : List (Addr × Obj)} {g : Obj → List (Addr × Obj)} {D C c : Addr} {o : Obj} {v₀ : Option Value} {m' : Str → Option Value} {y : Str} {py : Pos} {Q : Flow → Shared → Prop} (M : Made h₀ L m ys nw D C m' s.heap)
    (hk : env.scope.kind = .function) (hy : env.kindOf y = some .cell) (hc : env.cells.lookup y = some c) (U : UpdF c o nw g) (hd : o.data = .cell v₀)
    (h : ∀ h' o' tk, Fr h₀ L h' m → News h₀ L h' ((D, lst ys) :: g o') → o'.data = .cell (some (.ref D)) → Q .next { s with heap := h', toks := tk }) :
    compPost (model prog w) A E (some (assign (.Name y py) env)) (fun _ s' => Q .next s') (.ref D) C (.ok .next) s := by
  obtain ⟨F', N', o1, hn, hC₀, hD₀, hCL, hDL, hCD, offC⟩ := M
  obtain ⟨pre, post, rfl, hg, h1, h2⟩ := U.split
  have hm := N' (c, o) (.tail _ (List.mem_append_right _ (.head _)))
  have hcC : c ≠ C := offC (c, o) (List.mem_append_right _ (.head _))
  have hcD : c ≠ D := o1 (c, o) (List.mem_append_right _ (.head _))
  show wpAny _ A (assign (.Name y py) env (.ref D)) _ _ _
  refine wpAny_assign_Name (wpAny_storeName_cell hk hy hc ⟨o, hm.1, hd⟩ fun h₂ hv hs₂ => ?_)
  obtain ⟨o', ho', hd'⟩ := hv
  have F₂ : Fr h₀ L h₂ m := F'.change hs₂ hm.2.1 hm.2.2
  have N₂ : News h₀ L h₂ (pre ++ (c, o') :: post) := News.setIn (h := s.heap) (o := o) (fun p hp => N' p (.tail _ hp)) h1 h2 hs₂ ho'
  refine ⟨m', hn.sameBut hs₂ (Ne.symm hcC), fun h'' hs'' => h h'' o' _ (F₂.change hs'' hCL hC₀) (fun p hp => ?_) hd'⟩
  rw [hg] at hp
  rcases List.mem_cons.mp hp with rfl | hp
  · exact ⟨hs''.extBut _ _ (Ne.symm hCD) (hs₂.extBut _ _ (Ne.symm hcD) (N' _ (.head _)).1), (N' _ (.head _)).2⟩
  · refine ⟨hs''.extBut _ _ ?_ (N₂ p hp).1, (N₂ p hp).2⟩
    rcases List.mem_append.mp hp with q | q
    · exact offC p (List.mem_append_left _ q)
    · rcases List.mem_cons.mp q with rfl | q
      · exact hcC
      · exact offC p (List.mem_append_right _ (.tail _ q))
end
end Mine
end

/-! A comprehension's own names. -/
section
open PySem PySem.W PyProof.Rows PySem.Calls PyProof.Rows.LCg
set_option Elab.async false
set_option maxRecDepth 100000
set_option maxHeartbeats 2000000
namespace Mine
theorem anewCompSt : True := by
  w_top off
  trivial
section
variable {M : Model} {A : Around} {E : Value → Shared → Prop} {s : Shared} {h₀ : Heap} {L C : Addr} {m m₂ : Str → Option Value} {news : List (Addr × Obj)} {g : Obj → List (Addr × Obj)} {oC : Obj} {scope : Scope} {cl : List (Str × Addr)} {env : Env} {x : Str} {v : Value} {Q : Unit → Shared → Prop}
theorem comp_store (F : Fr h₀ L s.heap m) (N : News h₀ L s.heap news) (U : UpdF C oC news g) (hC : NsObj oC m₂)
    (h : ∀ h' oC', Fr h₀ L h' m → News h₀ L h' (g oC') → NsObj oC' (fun y => if y = x then some v else m₂ y) → Q () { s with heap := h', toks := s.toks + 1 })
    (hl : (compEnvC scope cl C env).kindOf x = some .local := by rfl) (hp : ((compEnvC scope cl C env).scope.kind == .class || ((compEnvC scope cl C env).scope.kind == .module && (compEnvC scope cl C env).locals != (compEnvC scope cl C env).globals)) = false := by rfl) :
    wpAny M A (storeName (compEnvC scope cl C env) x v) Q E s := by
  obtain ⟨pre, post, rfl, hg, h1, h2⟩ := U.split
  have hm := N (C, oC) (List.mem_append_right _ (.head _))
  refine wpAny_storeName_local hl (hC.ns hm.1) (fun h₂ hn₂ hs₂ => ?_) hp
  obtain ⟨o', ho', hd'⟩ := ns_obj hn₂
  refine h h₂ o' (F.change hs₂ hm.2.1 hm.2.2) ?_ hd'
  rw [hg]
  exact News.setIn (h := s.heap) (o := oC) N h1 h2 hs₂ ho'
end
end Mine
namespace Mine
theorem news_in {h₀ h : Heap} {L : Addr} {nw l : List (Addr × Obj)} (N : News h₀ L h (nw ++ l)) : News h₀ L h (l ++ nw) := fun p hp => N p (List.mem_append.mpr (List.mem_append.mp hp).symm)
theorem cend_of {h₀ : Heap} {L : Addr} {m : Str → Option Value} {s₁ : Shared} {I C D : Addr} {oI oC : Obj} {ys : List Value} {Iv : List (Addr × Obj) → Prop} {h' : Heap} {tk : Nat} {m₂ : Str → Option Value} {nw : List (Addr × Obj)} (F : Fr h₀ L h' m) (hC : NsObj oC m₂) (N : News h₀ L h' ((D, lst ys) :: (C, oC) :: (I, oI) :: nw)) (off : ∀ p ∈ nw, p.1 ≠ I ∧ p.1 ≠ C ∧ p.1 ≠ D) (hI : Iv nw) :
    CEnd h₀ L m s₁ I oI C D ys Iv { s₁ with heap := h', toks := tk } := ⟨h', tk, oC, m₂, nw, rfl, F, hC, news_in (nw := [(D, lst ys), (C, oC), (I, oI)]) N, off, hI⟩
end Mine
namespace Mine
theorem allLt_mem {d : Addr} {l : List (Addr × Obj)} (h : AllLt d l) : ∀ p ∈ l, p.1 ≠ d := by
  induction l with
  | nil => intro p hp; cases hp
  | cons q r ih =>
    intro p hp
    obtain ⟨h1, h2⟩ := h
    rcases List.mem_cons.mp hp with rfl | hp
    · exact Nat.ne_of_lt h1
    · exact ih h2 p hp
theorem off_cons {a : Addr} {o : Obj} {news tn : List (Addr × Obj)} (h1 : ∀ z ∈ tn, z.1 ≠ a) (h2 : ∀ q ∈ news, ∀ z ∈ tn, z.1 ≠ q.1) : ∀ q ∈ (a, o) :: news, ∀ z ∈ tn, z.1 ≠ q.1 := fun q hq z hz => by
  rcases List.mem_cons.mp hq with rfl | hq
  · exact h1 z hz
  · exact h2 q hq z hz
theorem off_nil {tn : List (Addr × Obj)} : ∀ q ∈ ([] : List (Addr × Obj)), ∀ z ∈ tn, z.1 ≠ q.1 := fun _ hq => nomatch hq
end Mine
end

/-! Entering a def where the code table of parse may have turned. -/
section
open PySem PySem.W PyProof.Rows PySem.Calls
set_option Elab.async false
set_option maxRecDepth 100000
set_option maxHeartbeats 8000000
namespace Mine
theorem anewEnter : True := by
  w_top off
  trivial
abbrev hid (h : Heap) (tn : List (Addr × Obj)) : Heap := hideAll h (tn.map (·.1))
theorem hid_stays {h : Heap} {tn : List (Addr × Obj)} : (hid h tn).StaysIn h := fun _ _ e => of_hideAll _ e
theorem hid_get {h : Heap} {tn : List (Addr × Obj)} {b : Addr} {o : Obj} (e : h.get? b = some o) (hb : ∀ p ∈ tn, p.1 ≠ b) : (hid h tn).get? b = some o :=
  hideAll_get _ e fun q => by obtain ⟨p, hp, e⟩ := List.mem_map.mp q; exact hb p hp e
section
variable {prog : Program} {w : World} {A : Around} {s : Shared} {K : Frag} {base : Heap} {outer : List Env} {p : Program} {loose : List Str} {mean : ExcName → Option Value} {mg mb : Str → Option Value} {tn : List (Addr × Obj)}
theorem code_enterT {R : Result → Shared → Prop} {name qual : Str} {params : Arguments} {body : List Stmt} {scope : Scope} {dV kV doc pm cdv ct oc : Value} {an od : Option Addr} {osl : Array (Option Value)} {f : Addr} {args : Args} {binds : List (Str × Value)}
    (NT : ∀ q ∈ tn, s.heap.get? q.1 = some q.2) (X : K.In (hid s.heap tn)) (T : Top p loose mean mg mb (hid s.heap tn))
    (ho : K.lookup f = some ⟨oc, od, .func (fnOf name qual params body scope dV kV doc pm an cdv ct), osl⟩) (hcd : codeIn K cdv qual = true) (hroom : A.depth < recursionLimit)
    (hbind : BindsTo s (fnOf name qual params body scope dV kV doc pm an cdv ct) args binds) (hloc : ∀ y ∈ binds, scope.names.lookup y.1 = some .local)
    (h : ∀ L' h₁, Fr (hid s.heap tn) L' h₁ (fun y => binds.reverse.lookup y) → News (hid s.heap tn) L' h₁ tn →
      wpAny (model prog w) (A.deeper (envX qual scope L' f cdv [])) (execs body (envX qual scope L' f cdv []))
        (fun fl s' => R (.ok (.ret (match fl with | .ret v => v | _ => .none))) s')
        (fun e s' => wpAny (model prog w) (A.deeper (envX qual scope L' f cdv [])) (leaving (envX qual scope L' f cdv []) e) (fun _ s'' => R (.error e) s'') (fun e' s'' => R (.error e') s'') s')
        { s with heap := h₁, toks := s.toks + binds.length })
    (hco : scope.isCoroutine = false) (hgen : scope.isGenerator = false) (hk : scope.kind = .function)
    (hcell : ∀ x ∈ scope.names, x.2 ≠ .cell) : codeAny (model prog w) A (.call (.ref f) args) R s := by
  have X' : K.In s.heap := X.keeps hid_stays
  refine codeAny_call_def (fd := fnOf name qual params body scope dV kV doc pm an cdv ct) (body := body) (binds := binds) hroom (X' _ _ ho) rfl (T.nolimit.keeps hid_stays) (codeRec_of X' hcd) rfl hbind hcell hloc (fun h₁ hns hk₁ => ?_) hco hgen hk
  exact h s.heap.objs.size h₁ ⟨hns, fun b o e => hk₁ b o (hid_stays _ _ e), Nat.le_of_eq (hideAll_size _ _)⟩
    fun q hq => ⟨hk₁ _ _ (NT q hq), Nat.ne_of_lt (Heap.lt_size (NT q hq)), hideAll_none _ (List.mem_map_of_mem hq)⟩

theorem code_enterC {R : Result → Shared → Prop} {name qual : Str} {params : Arguments} {body : List Stmt} {scope : Scope} {dV kV doc pm cdv ct oc : Value} {an od : Option Addr} {osl : Array (Option Value)} {f : Addr} {args : Args} {binds : List (Str × Value)}
    (NT : ∀ q ∈ tn, s.heap.get? q.1 = some q.2) (X : K.In (hid s.heap tn)) (T : Top p loose mean mg mb (hid s.heap tn))
    (ho : K.lookup f = some ⟨oc, od, .func (fnOf name qual params body scope dV kV doc pm an cdv ct), osl⟩) (hcd : codeIn K cdv qual = true) (hroom : A.depth < recursionLimit)
    (hbind : BindsTo s (fnOf name qual params body scope dV kV doc pm an cdv ct) args binds) (hkind : (binds.all fun y => scope.names.lookup y.1 == some .local || scope.names.lookup y.1 == some .cell) = true)
    (hnd : ((cellsFrom 0 scope.names []).map (·.1)).Nodup)
    (h : ∀ L' h₁ tk cells, Fr (hid s.heap tn) L' h₁ (bindL (envOfC qual scope L' f cdv).kindOf binds fun _ => none) → News (hid s.heap tn) L' h₁ (cells ++ tn) →
      CellsAre (bindC (envOfC qual scope L' f cdv).kindOf binds fun _ => none) (cellsFrom (L' + 1) scope.names []) cells → (∀ q ∈ tn, q.1 < L') →
      wpAny (model prog w) (A.deeper (envOfC qual scope L' f cdv)) (execs body (envOfC qual scope L' f cdv))
        (fun fl s' => R (.ok (.ret (match fl with | .ret v => v | _ => .none))) s')
        (fun e s' => wpAny (model prog w) (A.deeper (envOfC qual scope L' f cdv)) (leaving (envOfC qual scope L' f cdv) e) (fun _ s'' => R (.error e) s'') (fun e' s'' => R (.error e') s'') s')
        { s with heap := h₁, toks := tk })
    (hco : scope.isCoroutine = false) (hgen : scope.isGenerator = false) (hk : scope.kind = .function) : codeAny (model prog w) A (.call (.ref f) args) R s := by
  have X' : K.In s.heap := X.keeps hid_stays
  have hlim : s.heap.NoLimit := T.nolimit.keeps hid_stays
  refine codeAny_call_function (fd := fnOf name qual params body scope dV kV doc pm an cdv ct) hroom (X' _ _ ho) rfl hco hgen rfl (codeRec_of X' hcd) (hbind _ _ _ _ ?_)
  refine wpAny_newFunctionEnv_cells hk (kindsX hkind _) fun env' he s' x => ?_
  subst he
  refine ⟨hlim.keeps x.toInCall.keep, codeAny_func ?_⟩
  obtain ⟨h₁, tk, rfl, _⟩ := x.done
  have hk₁ := x.toInCall.keep
  obtain ⟨cells, NC, Y⟩ := Cl.news (h₀ := s.heap) (Nat.le_refl _) fun n c hm => ⟨x.cell n c (lookup_of_mem_nodup (cellsFrom_names scope.names 0 (s.heap.objs.size + 1) [] [] rfl ▸ hnd) hm), x.above n c hm⟩
  refine h s.heap.objs.size h₁ tk cells ⟨x.toInCall.ns, fun b o e => hk₁ b o (hid_stays _ _ e), Nat.le_of_eq (hideAll_size _ _)⟩ (fun q hq => ?_) Y (fun q hq => Heap.lt_size (NT q hq))
  rcases List.mem_append.mp hq with hq | hq
  · refine ⟨(NC q hq).1, (NC q hq).2.1, ?_⟩
    cases z : (hid s.heap tn).get? q.1 with
    | none => rfl
    | some o => have := hid_stays _ _ z; rw [(NC q hq).2.2] at this; cases this
  · exact ⟨hk₁ _ _ (NT q hq), Nat.ne_of_lt (Heap.lt_size (NT q hq)), hideAll_none _ (List.mem_map_of_mem hq)⟩
end
end Mine
namespace Mine
def TnOk (pos : Pos) (qual : Str) (tn : List (Addr × Obj)) : Prop :=
  tn = [(65, tabObj #[])] ∨ ∃ c' oc vs t, tn = [(65, tabObj #[rawInt pos.line, rawInt pos.col, .ref c']), (c', oc)] ∧ oc.data = .fields vs ∧ vs[1]? = some (.str qual t)
def TnHas (c' : Addr) (qual : Str) (tn : List (Addr × Obj)) : Prop := ∃ oc vs t, (c', oc) ∈ tn ∧ oc.data = .fields vs ∧ vs[1]? = some (.str qual t)
theorem TnHas.code {h₀ h : Heap} {L c' : Addr} {qual : Str} {tn news : List (Addr × Obj)} (x : TnHas c' qual tn) (N : News h₀ L h news) (sub : ∀ q ∈ tn, q ∈ news) : h.CodeRec (.ref c') qual := by
  obtain ⟨oc, vs, t, hm, hd, hv⟩ := x
  exact codeRec_news N (sub _ hm) hd hv
section
variable {M : Model} {A : Around} {E : Value → Shared → Prop} {s : Shared} {h₀ : Heap} {L a c : Addr} {m mg mb : Str → Option Value} {cn : Str} {cs : Scope} {ccd : Value} {cl : List (Str × Addr)} {news tn : List (Addr × Obj)}
  {p : Program} {loose : List Str} {mean : ExcName → Option Value} {name qual : Str} {params : Arguments} {body : List Stmt} {scope : Scope} {pos : Pos} {firstLine : Nat} {clos : List (Str × Addr)}
theorem makeFunction_kw (hk : params.kwonlyargs.length = 1) (env : Env) : makeFunction name qual params (.stmts body) scope env [] [none] [] pos firstLine = makeFunction name qual params (.stmts body) scope env [] [] [] pos firstLine := by
  rw [makeFunction_eq, makeFunction_eq]
  obtain ⟨k, hk'⟩ : ∃ k, params.kwonlyargs = [k] := by
    cases hp : params.kwonlyargs with
    | nil => rw [hp] at hk; simp at hk
    | cons x r => cases r with
      | nil => exact ⟨x, rfl⟩
      | cons y r => rw [hp] at hk; simp at hk
  rw [hk']
  rfl
theorem nest_tn {Q : Value → Shared → Prop} (F : Fr h₀ L s.heap m) (N : News h₀ L s.heap (news ++ tn)) (T : Top p loose mean mg mb h₀) (C : CodeHd h₀ c 65) (hcd : ccd = .ref c) (htn : TnOk pos qual tn)
    (off : ∀ q ∈ news, ∀ z ∈ tn, z.1 ≠ q.1) (hcl : closureFor scope (envX cn cs L a ccd cl) = pure clos)
    (h : ∀ f c' ctv doc h' tk tn', TnOk pos qual tn' → TnHas c' qual tn' → Fr h₀ L h' m → News h₀ L h' ((f, fnMade name qual params body scope clos doc ((mg "__name__").getD .none) c' ctv) :: (news ++ tn')) →
      (∀ q ∈ news, q.1 < f) → (∀ q ∈ tn', q.1 < f) → (∀ q ∈ news, ∀ z ∈ tn', z.1 ≠ q.1) → Q (.ref f) { s with heap := h', toks := tk }) :
    wpAny M A (makeFunction name qual params (.stmts body) scope (envX cn cs L a ccd cl) [] [] [] pos firstLine) Q E s := by
  rcases htn with rfl | ⟨c', oc, vs, t, rfl, hd, hv⟩
  · have U : UpdF 65 (tabObj #[]) (news ++ [(65, tabObj #[])]) (fun o => news ++ [(65, o)]) := by
      have : ∀ l : List (Addr × Obj), (∀ q ∈ l, ∀ z ∈ [((65 : Addr), tabObj #[])], z.1 ≠ q.1) → UpdF 65 (tabObj #[]) (l ++ [(65, tabObj #[])]) (fun o => l ++ [(65, o)]) := by
        intro l
        induction l with
        | nil => intro _; exact .head (fun _ hp => nomatch hp)
        | cons x r ih => intro ho; exact .tail (fun e => ho x (.head _) _ (.head _) e.symm) (ih fun q hq => ho q (.tail _ hq))
      exact this news off
    refine nest_K F N T C hcd U (by first | trivial | exact .nil | simp [TriplesOk]) rfl hcl fun f c' oc vs t ctv doc h' tk F' N' hd hv l1 l2 => ?_
    refine h f c' ctv doc h' tk [(65, tabObj #[rawInt pos.line, rawInt pos.col, .ref c']), (c', oc)] (.inr ⟨c', oc, vs, t, rfl, hd, hv⟩) ⟨oc, vs, t, .tail _ (.head _), hd, hv⟩ F' (fun q hq => ?_) (fun q hq => Nat.lt_trans (l1 q (List.mem_append_left _ hq)) l2) (fun q hq => ?_) (fun q hq z hz => ?_)
    · apply N'
      rcases List.mem_cons.mp hq with rfl | hq
      · exact .head _
      · rcases List.mem_append.mp hq with hq | hq
        · exact .tail _ (.tail _ (List.mem_append_left _ hq))
        · rcases List.mem_cons.mp hq with rfl | hq
          · exact .tail _ (.tail _ (List.mem_append_right _ (.head _)))
          · rw [List.mem_singleton.mp hq]; exact .tail _ (.head _)
    · rcases List.mem_cons.mp hq with rfl | hq
      · exact Nat.lt_trans (l1 (65, tabObj #[]) (List.mem_append_right _ (.head _))) l2
      · rw [List.mem_singleton.mp hq]; exact l2
    · rcases List.mem_cons.mp hz with rfl | hz
      · exact off q hq (65, tabObj #[]) (.head _)
      · rw [List.mem_singleton.mp hz]; exact Nat.ne_of_gt (l1 q (List.mem_append_left _ hq))
  · refine nestHit_K (c' := c') (ps := #[rawInt pos.line, rawInt pos.col, .ref c']) F N T C hcd (List.mem_append_right _ (.head _)) ?_ ?_ hcl fun f ctv doc h' tk F' N' l1 => ?_
    · first | trivial | simp [TriplesOk, rawInt]
    · simp [codeAmong, rawInt]
    · exact h f c' ctv doc h' tk _ (.inr ⟨c', oc, vs, t, rfl, hd, hv⟩) ⟨oc, vs, t, .tail _ (.head _), hd, hv⟩ F' N' (fun q hq => l1 q (List.mem_append_left _ hq)) (fun q hq => l1 q (List.mem_append_right _ hq)) off
theorem nestDef_kw {Q : Flow → Shared → Prop} {env : Env} (hd0 : params.defaults = []) (hk0 : params.kw_defaults = [none]) (hk1 : params.kwonlyargs.length = 1) (ha : annTrees params none env = [])
    (h : wpAny M A (makeFunction name (qualnameIn env name name) params (.stmts body) scope env [] [] [] pos pos.line) (fun v s' => wpAny M A (storeName env name v) (fun _ s'' => Q .next s'') E s') E s) :
    wpAny M A (exec (.FunctionDef name params body [] none [] scope none name pos) env) Q E s := by
  rw [exec_def]
  refine wpAny_bind (wpAny_standAt (wpAny_bind (wpAny_holding ?_)))
  rw [defaultsOf_eq, hd0, hk0, ha]
  refine wpAny_bind (wpAny_pure ?_)
  refine wpAny_bind (wpAny_holding ?_)
  show wpAny M A (do let x ← (pure none : Sem (Option Value)); let r ← evalAllOpt []; pure (x :: r)) _ _ _
  refine wpAny_bind (wpAny_pure (wpAny_bind (wpAny_pure (wpAny_pure ?_))))
  refine wpAny_holding (wpAny_bind (wpAny_pure ?_))
  rw [makeFunction_kw hk1]
  exact wpAny_mono h (fun v s' h' => wpAny_bind (wpAny_standAt (wpAny_bind (wpAny_bindName (wpAny_mono h' (fun _ _ h'' => wpAny_pure h'') fun _ _ x => x))))) fun _ _ x => x
end
end Mine
namespace Mine
section
variable {M : Model} {A : Around} {E : Value → Shared → Prop} {s : Shared} {env : Env} {pos : Pos} {first : List Value} {Q : Value → Shared → Prop} {q : Addr}
theorem callWith_FKW {e : Expr} {rest : List Expr} {kws : List Keyword} (_X : FnAt q s.heap) (hall : (backToKw pos (keywordEach kws env)).all (·.1.isSome) = true)
    (h : wpAny M A (spliced (backTo pos (starEach (e :: rest) env))) (fun vs s₁ => wpAny M A (evalAll ((backToKw pos (keywordEach kws env)).map (·.2)))
      (fun ks s₂ => FnAt q s₂.heap ∧ wpAny M A (call (.ref q) (first ++ vs) (((backToKw pos (keywordEach kws env)).filterMap (·.1)).zip ks)) Q E s₂) E s₁) E s)
    (hplain : ((backTo pos (starEach (e :: rest) env)).any (·.1) || (backToKw pos (keywordEach kws env)).any (·.1.isNone)) = false := by rfl) (he : starEach (e :: rest) env = (false, eval e env) :: starEach rest env := by rfl) :
    wpAny M A (callWith pos (.ref q) first (backTo pos (starEach (e :: rest) env)) (backToKw pos (keywordEach kws env))) Q E s :=
  callWith_of hplain keeps_F (evalArgs_kw2 hall h he)
end
end Mine
namespace Mine
section
variable {M : Model} {A : Around} {E : Value → Shared → Prop} {s : Shared} {env : Env} {pos : Pos} {first : List Value} {Q : Value → Shared → Prop} {q : Addr}
theorem callWith_MKW {K : Frag} {h₀ : Heap} {L g : Addr} {self : Value} {news : List (Addr × Obj)} {e : Expr} {rest : List Expr} {kws : List Keyword} (_X : K.In h₀) (_N : News h₀ L s.heap news) (_q : (q, methodObj (.ref g) self) ∈ news) (hf : fnIn K g = true) (hall : (backToKw pos (keywordEach kws env)).all (·.1.isSome) = true)
    (h : wpAny M A (spliced (backTo pos (starEach (e :: rest) env))) (fun vs s₁ => wpAny M A (evalAll ((backToKw pos (keywordEach kws env)).map (·.2)))
      (fun ks s₂ => MethP K q g self s₂.heap ∧ wpAny M A (call (.ref q) (first ++ vs) (((backToKw pos (keywordEach kws env)).filterMap (·.1)).zip ks)) Q E s₂) E s₁) E s)
    (hplain : ((backTo pos (starEach (e :: rest) env)).any (·.1) || (backToKw pos (keywordEach kws env)).any (·.1.isNone)) = false := by rfl) (he : starEach (e :: rest) env = (false, eval e env) :: starEach rest env := by rfl) :
    wpAny M A (callWith pos (.ref q) first (backTo pos (starEach (e :: rest) env)) (backToKw pos (keywordEach kws env))) Q E s :=
  callWith_of hplain (keeps_M hf) (evalArgs_kw2 hall h he)
end
end Mine
end

/-! Octets read at a place; the while of _pars. -/
section
open PySem PySem.W PyProof.Rows PySem.Calls
set_option Elab.async false
set_option maxRecDepth 100000
set_option maxHeartbeats 8000000
namespace Mine
theorem anewOctets : True := by
  w_top off
  trivial
def Halt (P : Prop) : Prop := P
theorem halt {P : Prop} (h : Halt P) : P := h
theorem Halt.go {P : Prop} (h : P) : Halt P := h
/-- what stands at a place: a kind, a length, and what is behind -/
def AtP (ks : List Int) (p : Nat) (kd hi lo : Int) (body : List Int) : Prop := ∃ A, A.length = p ∧ ks = A ++ (kd :: hi :: lo :: body)
section
variable {ks body : List Int} {p : Nat} {kd hi lo : Int}
theorem AtP.item (x : AtP ks p kd hi lo body) : ks.getD ((p : Int)).toNat 0 = kd := by
  obtain ⟨A, rfl, rfl⟩ := x; simp
theorem AtP.len (x : AtP ks p kd hi lo body) : ks.length = p + 3 + body.length := by
  obtain ⟨A, rfl, rfl⟩ := x; simp; omega
theorem cut_eq (l : List Int) (a b : Nat) : (l.drop (min a l.length)).take (min b l.length - min a l.length) = (l.drop a).take (b - a) := by
  by_cases h : a ≤ l.length
  · rw [Nat.min_eq_left h]
    by_cases h2 : b ≤ l.length
    · rw [Nat.min_eq_left h2]
    · rw [Nat.min_eq_right (by omega), List.take_of_length_le (by simp), List.take_of_length_le (by simp; omega)]
  · rw [Nat.min_eq_right (a := a) (by omega), List.drop_of_length_le (Nat.le_refl _), List.drop_of_length_le (l := l) (by omega)]; simp
theorem cut_eqI (l : List Int) {a b : Int} (h0 : 0 ≤ a) (h1 : 0 ≤ b) : (l.drop (clipAt l.length a)).take (clipAt l.length b - clipAt l.length a) = (l.drop a.toNat).take (b.toNat - a.toNat) := by
  obtain ⟨a, rfl⟩ := Int.eq_ofNat_of_zero_le h0
  obtain ⟨b, rfl⟩ := Int.eq_ofNat_of_zero_le h1
  have e1 : clipAt l.length (a : Int) = min a l.length := clipAt_nat _ _
  have e2 : clipAt l.length (b : Int) = min b l.length := clipAt_nat _ _
  rw [e1, e2, cut_eq]; rfl
theorem drop_over (A : List Int) (r : List Int) (k : Nat) : (A ++ r).drop (A.length + k) = r.drop k := by
  rw [List.drop_append, List.drop_of_length_le (by omega)]; simp
theorem AtP.two (x : AtP ks p kd hi lo body) : (ks.drop ((p : Int) + 1).toNat).take (((p : Int) + 3).toNat - ((p : Int) + 1).toNat) = [hi, lo] := by
  obtain ⟨A, rfl, rfl⟩ := x
  rw [show ((A.length : Int) + 3).toNat = A.length + 3 by omega, show ((A.length : Int) + 1).toNat = A.length + 1 by omega, show A.length + 3 - (A.length + 1) = 2 by omega, drop_over]
  simp
theorem AtP.val (x : AtP ks p kd hi lo body) {n : Int} (hn : 0 ≤ n) : (ks.drop ((p : Int) + 3).toNat).take (((p : Int) + 3 + n).toNat - ((p : Int) + 3).toNat) = body.take n.toNat := by
  obtain ⟨A, rfl, rfl⟩ := x
  rw [show ((A.length : Int) + 3 + n).toNat = A.length + 3 + n.toNat by omega, show ((A.length : Int) + 3).toNat = A.length + 3 by omega, show A.length + 3 + n.toNat - (A.length + 3) = n.toNat by omega, drop_over]
  simp
end
section
variable {prog : Program} {w : World} {A : Around} {E : Value → Shared → Prop} {s : Shared} {value slice : PySem.Expr} {b : Array UInt8} {t : Tok} {h₀ : Heap} {L : Addr} {m : PySem.Str → Option Value} {news : List (Addr × Obj)} {Q : Value → Shared → Prop} {ks body : List Int} {p : Nat} {kd hi lo : Int}
theorem item_at {ui : Tok} (hk : KBw.bInts b = ks) (x : AtP ks p kd hi lo body) (hfit : ks.length ≤ 100000)
    (h : ∀ t' k, Q (.int kd t') { s with toks := k })
    (hs : subscripted slice false (.bytes b t) (.int p ui) = operate [.bytes b t, .int p ui] (getItem (.bytes b t) (.int p ui)) := by with_unfolding_all rfl)
    (ht : ∀ r, letTemporaryGo value (.bytes b t) r = pure () := by intro _; with_unfolding_all rfl) : wpAny (model prog w) A (subscriptTail value slice (.bytes b t) (.int p ui)) Q E s :=
  KBw.item_K hk (by omega) (by omega) (by have := x.len; omega) (fun t' k _ _ => by rw [x.item]; exact h t' k) hs ht
theorem slice_at {l u : Value} {want : List Int} {lo hi : Int} (hF : Fr h₀ L s.heap m) (hN : News h₀ L s.heap news) (hk : KBw.bInts b = ks) (hl : IsPart l (some lo)) (hu : IsPart u (some hi)) (h0 : 0 ≤ lo) (h1 : 0 ≤ hi) (hz : ks.length ≤ 100000)
    (hw : (ks.drop lo.toNat).take (hi.toNat - lo.toNat) = want)
    (h : ∀ h' b' t' k, Fr h₀ L h' m → News h₀ L h' news → KBw.bInts b' = want → Q (.bytes b' t') { s with heap := h', toks := k })
    (hs : subscripted slice false (.bytes b t) (.ref s.heap.objs.size) = operate [.ref s.heap.objs.size, .bytes b t] (getItem (.bytes b t) (.ref s.heap.objs.size)) := by with_unfolding_all rfl)
    (ht : ∀ r, letTemporaryGo value (.bytes b t) r = pure () := by intro _; with_unfolding_all rfl) :
    wpAny (model prog w) A (subscriptTail value slice (.bytes b t) (.ref s.heap.objs.size)) Q E { s with heap := s.heap.push { cls := .type "slice", data := .fields #[l, u, .none] } } :=
  KBc.slice_K hF hN hk hl hu (by omega) (fun h' t' k F N e => h h' _ t' k F N (by rw [e]; show (ks.drop (clipAt ks.length lo)).take (clipAt ks.length hi - clipAt ks.length lo) = want; rw [cut_eqI ks h0 h1, hw])) hs ht
end
end Mine
namespace Mine
theorem at_full {vs : List Vec} {cut : List Int} {j : Nat} (hj : j < vs.length) :
    AtP (enc vs ++ cut) (enc (vs.take j)).length (kindOf vs[j].j) ((vs[j].ks.length : Int) / 256) ((vs[j].ks.length : Int) % 256) (vs[j].ks ++ (enc (vs.drop (j + 1)) ++ cut)) := by
  refine ⟨enc (vs.take j), rfl, ?_⟩
  conv => lhs; rw [show vs = vs.take j ++ (vs[j] :: vs.drop (j + 1)) by rw [← List.drop_eq_getElem_cons hj]; exact (List.take_append_drop j vs).symm]
  rw [enc_app, enc_cons]
  simp [enc1]
theorem at_cut {vs : List Vec} {v : Vec} {r : List Int} : AtP (enc vs ++ (kindOf v.j :: (v.ks.length : Int) / 256 :: (v.ks.length : Int) % 256 :: r)) (enc vs).length (kindOf v.j) ((v.ks.length : Int) / 256) ((v.ks.length : Int) % 256) r :=
  ⟨enc vs, rfl, rfl⟩
theorem enc_take_le (vs : List Vec) (j : Nat) : (enc (vs.take j)).length ≤ (enc vs).length := by
  have h : enc vs = enc (vs.take j) ++ enc (vs.drop j) := by rw [← enc_app, List.take_append_drop]
  rw [h, List.length_append]; omega
theorem enc_take_next {vs : List Vec} {j : Nat} (hj : j < vs.length) : (enc (vs.take (j + 1))).length = (enc (vs.take j)).length + 3 + vs[j].ks.length := by
  have h : vs.take (j + 1) = vs.take j ++ [vs[j]] := by rw [List.take_add_one, List.getElem?_eq_getElem hj]; rfl
  rw [h, enc_app, List.length_append, enc_cons, enc_nil, List.append_nil, enc1_len]; omega
section
variable {prog : Program} {w : World} {vs : List Vec} {dp df : Addr} {m₀ : Str → Option Value} {pre suf : List (Addr × Obj)}
def ParsJ (prog : Program) (w : World) (vs : List Vec) (dp df : Addr) (m₀ : Str → Option Value) (st : Bool) (hd tl : List (Addr × Obj)) (n : Nat) (m : Str → Option Value) (nw : List (Addr × Obj)) : Prop :=
  ∃ j u1 u2 u3 u4 t op oF kvF kvP, j ≤ vs.length ∧ n = vs.length - j ∧
    m = (fun z => if z = Str.ofString "i" then some (.int ((enc (vs.take j)).length : Int) t) else if z = Str.ofString "typ_name" then u4 else if z = Str.ofString "val" then u3 else if z = Str.ofString "len_" then u2 else if z = Str.ofString "typ" then u1 else m₀ z) ∧ nw = hd ++ (dp, op) :: (df, oF) :: tl ∧
    oF.IsDictOf (PySem.strKind prog w) kvF ∧ op.IsDictOf (PySem.strKind prog w) kvP ∧ Pair2 PB kvF (dueF (vs.take j)) ∧ Pair2 PI kvP (dueP (vs.take j)) ∧ (st = true → ∀ v ∈ vs.take j, v.j < 6)
theorem pars_start {st : Bool} {op oF : Obj} {m : Str → Option Value} (h1 : oF.IsDictOf (PySem.strKind prog w) []) (h2 : op.IsDictOf (PySem.strKind prog w) []) {t : Tok} (hat : m (Str.ofString "i") = some (.int 0 t))
    (hsame : ∀ z, z ≠ Str.ofString "i" → m z = m₀ z) {hd tl : List (Addr × Obj)} : ParsJ prog w vs dp df m₀ st hd tl vs.length m (hd ++ (dp, op) :: (df, oF) :: tl) := by
  refine ⟨0, m₀ (Str.ofString "typ"), m₀ (Str.ofString "len_"), m₀ (Str.ofString "val"), m₀ (Str.ofString "typ_name"), t, op, oF, [], [], Nat.zero_le _, rfl, ?_, rfl, h1, h2, .nil, .nil, fun _ v hv => by simp at hv⟩
  funext z
  by_cases e0 : z = Str.ofString "i"
  · rw [if_pos e0, e0, hat]; rfl
  rw [if_neg e0, hsame z e0]
  by_cases e1 : z = Str.ofString "typ_name"
  · rw [if_pos e1, e1]
  by_cases e2 : z = Str.ofString "val"
  · rw [if_neg e1, if_pos e2, e2]
  by_cases e3 : z = Str.ofString "len_"
  · rw [if_neg e1, if_neg e2, if_pos e3, e3]
  by_cases e4 : z = Str.ofString "typ"
  · rw [if_neg e1, if_neg e2, if_neg e3, if_pos e4, e4]
  · rw [if_neg e1, if_neg e2, if_neg e3, if_neg e4]
theorem pars_next {st : Bool} {j : Nat} {m' : Str → Option Value} {op oF : Obj} {kvF kvP : List (Str × Value)} {b : Array UInt8} {t t2 t4 : Tok} {nm : Str} {hd tl : List (Addr × Obj)} (hi : j < vs.length) {n : Nat} (hn : n = vs.length - (j + 1)) (hnm : nm = nameOf vs[j].j)
    (hat : m' (Str.ofString "i") = some (.int (((enc (vs.take j)).length : Int) + (3 + (vs[j].ks.length : Int))) t)) (hb : KBw.bInts b = vs[j].ks)
    (hsame : ∀ z, z ≠ Str.ofString "i" → z ≠ Str.ofString "typ_name" → z ≠ Str.ofString "val" → z ≠ Str.ofString "len_" → z ≠ Str.ofString "typ" → m' z = m₀ z)
    (h1 : oF.IsDictOf (PySem.strKind prog w) (stored kvF nm (.bytes b t2))) (h2 : op.IsDictOf (PySem.strKind prog w) (stored kvP nm (.int (0 + ((enc (vs.take j)).length : Int)) t4)))
    (pF : Pair2 PB kvF (dueF (vs.take j))) (pP : Pair2 PI kvP (dueP (vs.take j))) (hst : st = true → ∀ v ∈ vs.take j, v.j < 6) (hlast : st = true → vs[j].j < 6) : ParsJ prog w vs dp df m₀ st hd tl n m' (hd ++ (dp, op) :: (df, oF) :: tl) := by
  subst hnm
  rw [Int.zero_add] at h2
  have htk : vs.take (j + 1) = vs.take j ++ [vs[j]] := by rw [List.take_add_one, List.getElem?_eq_getElem hi]; rfl
  refine ⟨j + 1, m' (Str.ofString "typ"), m' (Str.ofString "len_"), m' (Str.ofString "val"), m' (Str.ofString "typ_name"), t, op, oF, _, _, hi, hn, ?_, rfl, h1, h2, ?_, ?_, fun q v hv => ?_⟩
  · funext z
    by_cases e0 : z = Str.ofString "i"
    · rw [if_pos e0, e0, hat, enc_take_next hi]
      congr 2
      omega
    by_cases e1 : z = Str.ofString "typ_name"
    · rw [if_neg e0, if_pos e1, e1]
    by_cases e2 : z = Str.ofString "val"
    · rw [if_neg e0, if_neg e1, if_pos e2, e2]
    by_cases e3 : z = Str.ofString "len_"
    · rw [if_neg e0, if_neg e1, if_neg e2, if_pos e3, e3]
    by_cases e4 : z = Str.ofString "typ"
    · rw [if_neg e0, if_neg e1, if_neg e2, if_neg e3, if_pos e4, e4]
    · rw [if_neg e0, if_neg e1, if_neg e2, if_neg e3, if_neg e4]
      exact hsame z e0 e1 e2 e3 e4
  · rw [htk, dueF_snoc]; exact pF.stored ⟨b, t2, rfl, hb⟩
  · rw [htk, dueP_snoc]; exact pP.stored ⟨t4, rfl⟩
  · rw [htk] at hv
    rcases List.mem_append.mp hv with hv | hv
    · exact hst q v hv
    · rw [List.mem_singleton.mp hv]; exact hlast q
end
end Mine
namespace Mine
def cutOf : Option (Vec × List Int) → List Int
  | none => []
  | some (v, r) => kindOf v.j :: (v.ks.length : Int) / 256 :: (v.ks.length : Int) % 256 :: r
def VsOk (vs : List Vec) : Prop := vs.length ≤ 20 ∧ ∀ v ∈ vs, v.j < 8 ∧ v.ks.length ≤ 300
def CsOk (st : Bool) (cs : Option (Vec × List Int)) : Prop := ∀ v r, cs = some (v, r) → v.j < 8 ∧ v.ks.length ≤ 300 ∧ r.length < v.ks.length ∧ st = false
theorem enc_le (vs : List Vec) (h : ∀ v ∈ vs, v.ks.length ≤ 300) : (enc vs).length ≤ 303 * vs.length := by
  induction vs with
  | nil => simp [enc]
  | cons v r ih =>
    rw [enc_cons, List.length_append, enc1_len, List.length_cons]
    have := h v (.head _)
    have := ih fun x hx => h x (.tail _ hx)
    omega
theorem in_len {vs : List Vec} {cs : Option (Vec × List Int)} {st : Bool} (h : VsOk vs) (c : CsOk st cs) : (enc vs ++ cutOf cs).length ≤ 10000 := by
  have h1 := enc_le vs fun v hv => (h.2 v hv).2
  have h2 := h.1
  rw [List.length_append]
  cases cs with
  | none => simp [cutOf]; omega
  | some q =>
    obtain ⟨v, r⟩ := q
    obtain ⟨_, h3, h4, _⟩ := c v r rfl
    simp [cutOf]; omega
end Mine
namespace Mine
theorem AtP.val' {ks body want : List Int} {p : Nat} {kd hi lo n : Int} (x : AtP ks p kd hi lo body) (hn : 0 ≤ n) (hv : body.take n.toNat = want) : (ks.drop ((p : Int) + 3).toNat).take (((p : Int) + 3 + n).toNat - ((p : Int) + 3).toNat) = want := (x.val hn).trans hv
section
variable {prog : Program} {w : World} {A : Around} {E : Value → Shared → Prop} {s : Shared} {h₀ : Heap} {L : Addr} {news : List (Addr × Obj)} {Q : Value → Shared → Prop}
theorem from_two {x : Addr} {b : Array UInt8} {t u : Tok} {hi lo n : Int} (N : News h₀ L s.heap news) (hm : (x, KFB.bound) ∈ news) (hb : KBw.bInts b = [hi, lo]) (hn : hi * 256 + lo = n)
    (h : ∀ t' k, Q (.int n t') { s with toks := k }) : wpAny (model prog w) A (call (.ref x) [.bytes b t, .str (PySem.Str.ofString "big") u]) Q E s :=
  KFB.call_big N hm hb (by simp) fun t' k => by
    have e : KFB.value [hi, lo] = n := by simp only [KFB.value, List.foldl_cons, List.foldl_nil]; omega
    rw [e]; exact h t' k
end
end Mine
namespace Mine
section
variable {M : Model} {A : Around} {E : Value → Shared → Prop} {s : Shared} {h₀ : Heap} {L a : Addr} {m : Str → Option Value} {cn : Str} {cs : Scope} {ccd : Value} {cl : List (Str × Addr)}
theorem ldnX {x : Str} {v : Value} {Q : Value → Shared → Prop} (F : Fr h₀ L s.heap m) (hv : m x = some v) (h : Q v s)
    (hk : cs.kind = .function := by rfl) (hl : (envX cn cs L a ccd cl).kindOf x = some .local := by rfl) : wpAny M A (loadName (envX cn cs L a ccd cl) x) Q E s := wpAny_loadName_local hk hl F.ns hv h
end
end Mine
namespace Mine
theorem news_tl {h₀ h : Heap} {L : Addr} {q : Addr × Obj} {l : List (Addr × Obj)} (N : News h₀ L h (q :: l)) : News h₀ L h l := fun p hp => N p (.tail _ hp)
end Mine
end

/-! The class's table of names. -/
section
open PySem PySem.W PyProof.Rows PySem.Calls
set_option Elab.async false
set_option maxRecDepth 100000
set_option maxHeartbeats 8000000
namespace Mine
theorem anewPP2 : True := by
  w_top off
  trivial
def PP2 : List (Int × PyData) := [(1, .str (Str.ofString "ALPN")), (2, .str (Str.ofString "AUTHORITY")), (3, .str (Str.ofString "CRC32C")), (4, .str (Str.ofString "NOOP")), (5, .str (Str.ofString "UNIQUE_ID")), (32, .str (Str.ofString "SSL")), (33, .str (Str.ofString "SSL_VERSION")), (34, .str (Str.ofString "SSL_CN")), (35, .str (Str.ofString "SSL_CIPHER")), (36, .str (Str.ofString "SSL_SIG_ALG")), (37, .str (Str.ofString "SSL_KEY_ALG")), (48, .str (Str.ofString "NETNS"))]
theorem pp2_in {w : World} {h : Heap} (X : (hd.heap_39 w.params).In h) : KTD.Keyed h 48 PP2 := kt_keyed_in X (by kernel_rfl)
section
variable {prog : Program} {w : World} {A : Around} {E : Value → Shared → Prop} {s : Shared} {h₀ : Heap} {L : Addr} {m : Str → Option Value}
theorem pp2_method {pl : Sem Bool} {Q : Value × List Value → Shared → Prop} (F : Fr h₀ L s.heap m) (X : (hd.heap_39 w.params).In h₀) (h : Q (.builtin "dict.get", [.ref 48]) s) : wpAny (model prog w) A (getMethod (.ref 48) "get" pl) Q E s :=
  KTD.getMethod_keyed (pp2_in X) F.keep h
theorem pp2_get {Q : Value → Shared → Prop} {j : Nat} {t : Tok} (hj : j < 8) (F : Fr h₀ L s.heap m) (X : (hd.heap_39 w.params).In h₀) (h1 : ∀ t', j < 6 → Q (.str (nameOf j) t') { s with toks := s.toks + 1 }) (h2 : ∀ _ : Tok, 6 ≤ j → Q .none { s with toks := s.toks + 1 }) :
    wpAny (model prog w) A (call (.builtin "dict.get") [.ref 48, .int (kindOf j) t]) Q E s := by
  refine KTD.get1_keyed (pp2_in X) F.keep ?_
  rcases j with _|_|_|_|_|_|_|_|j
  iterate 6 (exact fun t => h1 t (by omega))
  iterate 2 (exact h2 t (by omega))
  omega
end
end Mine
namespace Mine
def hexOf (j : Nat) : Str := ([Str.ofString "01", Str.ofString "02", Str.ofString "04", Str.ofString "05", Str.ofString "24", Str.ofString "30", Str.ofString "E0", Str.ofString "06"] : List Str).getD j Str.empty
section
variable {prog : Program} {w : World} {A : Around} {E : Value → Shared → Prop} {s : Shared}
theorem hex_field {Q : Value → Shared → Prop} {j : Nat} {t : Tok} (hj : j < 8) (h : ∀ t' k, Q (.str (hexOf j) t') { s with toks := k }) : wpAny (model prog w) A (formatField (.int (kindOf j) t) (Str.ofString "02X")) Q E s := by
  rcases j with _|_|_|_|_|_|_|_|j
  · show wpAny (model prog w) A (formatField (.int 1 t) (Str.ofString "02X")) Q E s
    refine' KXf.field_int ?kxfs ?kxfa ?kxfb ?kxfc h
    case kxfs => kxf_eq
    case kxfa => decide +kernel
    case kxfb => decide +kernel
    case kxfc => k_dflt kxf_run_i
  · show wpAny (model prog w) A (formatField (.int 2 t) (Str.ofString "02X")) Q E s
    refine' KXf.field_int ?kxfs ?kxfa ?kxfb ?kxfc h
    case kxfs => kxf_eq
    case kxfa => decide +kernel
    case kxfb => decide +kernel
    case kxfc => k_dflt kxf_run_i
  · show wpAny (model prog w) A (formatField (.int 4 t) (Str.ofString "02X")) Q E s
    refine' KXf.field_int ?kxfs ?kxfa ?kxfb ?kxfc h
    case kxfs => kxf_eq
    case kxfa => decide +kernel
    case kxfb => decide +kernel
    case kxfc => k_dflt kxf_run_i
  · show wpAny (model prog w) A (formatField (.int 5 t) (Str.ofString "02X")) Q E s
    refine' KXf.field_int ?kxfs ?kxfa ?kxfb ?kxfc h
    case kxfs => kxf_eq
    case kxfa => decide +kernel
    case kxfb => decide +kernel
    case kxfc => k_dflt kxf_run_i
  · show wpAny (model prog w) A (formatField (.int 36 t) (Str.ofString "02X")) Q E s
    refine' KXf.field_int ?kxfs ?kxfa ?kxfb ?kxfc h
    case kxfs => kxf_eq
    case kxfa => decide +kernel
    case kxfb => decide +kernel
    case kxfc => k_dflt kxf_run_i
  · show wpAny (model prog w) A (formatField (.int 48 t) (Str.ofString "02X")) Q E s
    refine' KXf.field_int ?kxfs ?kxfa ?kxfb ?kxfc h
    case kxfs => kxf_eq
    case kxfa => decide +kernel
    case kxfb => decide +kernel
    case kxfc => k_dflt kxf_run_i
  · show wpAny (model prog w) A (formatField (.int 224 t) (Str.ofString "02X")) Q E s
    refine' KXf.field_int ?kxfs ?kxfa ?kxfb ?kxfc h
    case kxfs => kxf_eq
    case kxfa => decide +kernel
    case kxfb => decide +kernel
    case kxfc => k_dflt kxf_run_i
  · show wpAny (model prog w) A (formatField (.int 6 t) (Str.ofString "02X")) Q E s
    refine' KXf.field_int ?kxfs ?kxfa ?kxfb ?kxfc h
    case kxfs => kxf_eq
    case kxfa => decide +kernel
    case kxfb => decide +kernel
    case kxfc => k_dflt kxf_run_i
  · omega
end
end Mine
namespace Mine
theorem name_ssl {j : Nat} (hj : j < 8) : (nameOf j == Str.ofString "SSL") = false := by
  have h : ∀ i : Fin 8, (nameOf i.val == Str.ofString "SSL") = false := by decide +kernel
  exact h ⟨j, hj⟩
theorem name_hex {j : Nat} (hj : j < 8) (h6 : 6 ≤ j) : Str.empty ++ Str.ofString "x" ++ hexOf j = nameOf j := by
  have h : ∀ i : Fin 8, 6 ≤ i.val → Str.empty ++ Str.ofString "x" ++ hexOf i.val = nameOf i.val := by decide +kernel
  exact h ⟨j, hj⟩ h6
theorem name_short {j : Nat} : (nameOf j).length ≤ 20 := by
  rcases j with _|_|_|_|_|_|_|_|j
  iterate 8 decide +kernel
  show (Str.empty).length ≤ 20
  decide +kernel
theorem hex_short {j : Nat} : (hexOf j).length ≤ 20 := by
  rcases j with _|_|_|_|_|_|_|_|j
  iterate 8 decide +kernel
  show (Str.empty).length ≤ 20
  decide +kernel
section
variable {prog : Program} {w : World} {A : Around} {E : Value → Shared → Prop} {s : Shared}
theorem eq_ssl {Q : Value → Shared → Prop} {j : Nat} {t u : Tok} (hj : j < 8) (h : Q (.bool false) s) : wpAny (model prog w) A (compareOp .Eq (.str (nameOf j) t) (.str (Str.ofString "SSL") u)) Q E s := by
  refine eq_str ?_
  have e := name_ssl hj
  first | (rw [e]; exact h) | (simp only [beq_eq_false_iff_ne, ne_eq] at e; simp only [e, decide_false]; exact h)
end
end Mine
namespace Mine
theorem hex_size {a : Str} {j : Nat} (h : a.length ≤ 100) : (a ++ hexOf j).length ≤ sizeLine := by
  rw [PySem.Str.length_append, sizeLine_eq]; have := hex_short (j := j); omega
theorem hex_size2 {a b : Str} {j : Nat} (h : a.length ≤ 100) (h2 : b.length ≤ 100) : (a ++ hexOf j ++ b).length ≤ sizeLine := by
  rw [PySem.Str.length_append, PySem.Str.length_append, sizeLine_eq]; have := hex_short (j := j); omega
section
variable {M : Model} {A : Around} {E : Value → Shared → Prop} {s : Shared} {env : Env}
theorem join_hex {Q : Value → Shared → Prop} {j : Nat} (hj : j < 8) (h6 : 6 ≤ j) (h : Q (.str (nameOf j) s.toks) { s with toks := s.toks + 1 }) : wpAny M A (joinParts (Str.empty ++ Str.ofString "x" ++ hexOf j) (evalEach [] env)) Q E s := by
  show wpAny M A (joinParts (Str.empty ++ Str.ofString "x" ++ hexOf j) []) Q E s
  exact joinParts_nil (by rw [name_hex hj h6]; exact h) (hex_size (by decide +kernel))
theorem join_hex2 {Q : Value → Shared → Prop} {j : Nat} {a b : Str} (h1 : a.length ≤ 100) (h2 : b.length ≤ 100) (h : ∀ y t' k, Q (.str y t') { s with toks := k }) : wpAny M A (joinParts (a ++ hexOf j ++ b) (evalEach [] env)) Q E s := by
  show wpAny M A (joinParts (a ++ hexOf j ++ b) []) Q E s
  exact joinParts_nil (h _ _ _) (hex_size2 h1 h2)
end
end Mine
namespace Mine
def nm12 (i : Nat) : Str := ([Str.ofString "ALPN", Str.ofString "AUTHORITY", Str.ofString "CRC32C", Str.ofString "NOOP", Str.ofString "UNIQUE_ID", Str.ofString "SSL", Str.ofString "SSL_VERSION", Str.ofString "SSL_CN", Str.ofString "SSL_CIPHER", Str.ofString "SSL_SIG_ALG", Str.ofString "SSL_KEY_ALG", Str.ofString "NETNS"] : List Str).getD i Str.empty
def kd12 (i : Nat) : Int := ([1, 2, 3, 4, 5, 32, 33, 34, 35, 36, 37, 48] : List Int).getD i 0
theorem pp2_at {i : Nat} (hi : i < 12) : (PP2.map fun p => (PyData.int p.1, p.2))[i]? = some (.int (kd12 i), .str (nm12 i)) := by
  rcases i with _|_|_|_|_|_|_|_|_|_|_|_|i
  iterate 12 rfl
  omega
theorem nm_hit {i j : Nat} (hi : i < 12) (hj : j < 8) (e : nameOf j = nm12 i) : j < 6 ∧ kindOf j = kd12 i := by
  have h : ∀ i : Fin 12, ∀ j : Fin 8, nameOf j.val = nm12 i.val → j.val < 6 ∧ kindOf j.val = kd12 i.val := by decide +kernel
  exact h ⟨i, hi⟩ ⟨j, hj⟩ e
theorem nm_has {j : Nat} (hj : j < 6) : ∃ i, i < 12 ∧ nameOf j = nm12 i := by
  have h : ∀ j : Fin 6, ∃ i : Fin 12, nameOf j.val = nm12 i.val := by decide +kernel
  obtain ⟨i, h⟩ := h ⟨j, hj⟩
  exact ⟨i.val, i.isLt, h⟩
end Mine
end

/-! raise of an own class below KeyError. -/
section
open PySem PySem.W PyProof.Rows PySem.Calls
set_option Elab.async false
set_option maxRecDepth 100000
set_option maxHeartbeats 8000000
namespace Mine
theorem anewExc : True := by
  w_top off
  trivial
/-- what is asked of the base whose «__new__» is handed down -/
structure BaseF (B initId : String) (bm : List Value) : Prop where
  mroIs : mroOf (.type B) = pure bm
  hasB : bm.contains (.type B) = true
  hasBase : bm.contains (.type "BaseException") = true
  noAttr : bm.contains (.type "AttributeError") = false
  noName : bm.contains (.type "NameError") = false
  init : Slot B "__init__" initId
  initEntry : entryFor table initId = some Builtin.«BaseException.__init__»
  initSplit : splitId initId = some (B, "__init__")
  initKind : builtinKind initId = some .slot
  initRow : Manifest.signature? initId = some ⟨.positional, "*", B, .self, [⟨"args", .varPos, false⟩]⟩
  noStar : (B != "*") = true
abbrev keyBm : List Value := [.type "KeyError", .type "LookupError", .type "Exception", .type "BaseException", .type "object"]
theorem baseF_KeyError : BaseF "KeyError" "KeyError.__init__" keyBm where
  mroIs := by rw [mroOf_type]; kernel_rfl
  hasB := by decide +kernel
  hasBase := by decide +kernel
  noAttr := by decide +kernel
  noName := by decide +kernel
  init := excClass_KeyError.init
  initEntry := excClass_KeyError.initEntry
  initSplit := excClass_KeyError.initSplit
  initKind := excClass_KeyError.initKind
  initRow := excClass_KeyError.initSig
  noStar := by decide +kernel
section
variable {prog : Program} {w : World} {A : Around} {E : Value → Shared → Prop} {R : Result → Shared → Prop} {h : Heap} {g : Array GenState} {d : Drawn} {t : Nat} {os : OsState}
variable {nm q : Str} {C N : Addr} {bs bm bmB : List Value} {hdct : Bool} {sn : List Str} {sub : List Value} {ab : Bool} {col : Option Bool} {dd : Option Addr} {k0 k1 k2 k3 k5 : Option Value} {B Bn newId initId inN : String} {bmN : List Value}
theorem new_down (Fn : ExcBaseFacts Bn newId inN bmN) (hBn : bmB.contains (.type Bn) = true) (F : BaseF B initId bmB) (T : OwnTail h bmB bm) {rest : List Value} (hC : h.get? C = some (excClassObj nm q C N bs bm hdct sn sub ab col dd k0 k1 k2 k3 k5 newId))
    (hq : R (.ok (.ret (.ref (h.objs.size + 1)))) ⟨(h.push { cls := .type "tuple", data := .seq rest.toArray }).push
      { cls := .ref C, data := .fields #[.ref h.objs.size, .none, .none, .none, .bool false, .none] }, g, d, t, os⟩) (hrest : rest.length ≤ sizeLine) :
    codeAny (model prog w) A (.builtin newId ⟨.ref C :: rest, []⟩) R ⟨h, g, d, t, os⟩ := by
  have hends := Fn.ends
  have hcB : (Value.ref C :: bm).contains (.type Bn) = true := by rw [List.contains_cons, T.hasType hBn, Bool.or_true]
  have hcA : (Value.ref C :: bm).contains (.type "AttributeError") = false := by rw [List.contains_cons, T.hasType F.noAttr]; rfl
  have hcN : (Value.ref C :: bm).contains (.type "NameError") = false := by rw [List.contains_cons, T.hasType F.noName]; rfl
  refine codeAny_builtinAt Fn.entry ?_
  unfold Builtin.«BaseException.__new__»
  refine PySem.wpAt_bind ?_
  show PySem.wpAt _ _ _ (stack >>= _) _ _ _
  refine PySem.wpAt_bind (PySem.wpAt_stack fun p below => PySem.wpAt_of_wpAny ?_)
  wp_walk
  refine PySem.wpAt_of_wpAny ?_
  rw [Fn.owner]
  repeat (first | with_reducible refine wpAny_madeHere_exc Fn.canon hC ?_ | with_reducible refine wpAny_loadPart_at hC ?_ | (with_reducible refine wpAny_isSubtype_exc hC ?_; first | rw [hcB] | rw [hcA] | rw [hcN]) | wp_step)
  show R _ _
  rw [Heap.size_push]
  exact hq
theorem init_down (F : BaseF B initId bmB) (T : OwnTail h bmB bm) {M : Model} {e : Addr} {oe : Obj} {rest : List Value} {Q : Unit → Shared → Prop}
    (hC : h.get? C = some (excClassObj nm q C N bs bm hdct sn sub ab col dd k0 k1 k2 k3 k5 newId)) (he : h.get? e = some oe) (hcls : oe.cls = .ref C) (hq : Q () ⟨h, g, d, t, os⟩) :
    wpAny M A (checkBuiltinCall initId ⟨.ref e :: rest, []⟩) Q E ⟨h, g, d, t, os⟩ := by
  have hcB : (Value.ref C :: bm).contains (.type B) = true := by rw [List.contains_cons, T.hasType F.hasB, Bool.or_true]
  have hshort := F.noStar
  simp only [checkBuiltinCall, F.initKind, F.initSplit, F.initRow]
  repeat (first | (with_reducible refine wpAny_loadPart_at he ?_; rw [hcls]) | with_reducible refine wpAny_loadPart_at hC ?_ | (with_reducible refine wpAny_isSubtype_exc hC ?_; rw [hcB]) | wp_step)
  refine wpAny_onRaise ?_
  rw [show ∀ (a b : String) (n : Nat), Bind.check ⟨.positional, "*", B, .self, [⟨"args", .varPos, false⟩]⟩ a b n (List.map (fun x => x.fst) ({ pos := Value.ref e :: rest } : Args).kw) = pure () from
    fun a b n => check_star_args _ _ _ _ _ _]
  exact wpAny_pure hq
theorem make_down (Fn : ExcBaseFacts Bn newId inN bmN) (hBn : bmB.contains (.type Bn) = true) (F : BaseF B initId bmB) (T : OwnTail h bmB bm) {mN : Str → Option Value} {rest : List Value} {Q : Fin → Shared → Prop}
    (hC : h.get? C = some (excClassObj nm q C N bs bm hdct sn sub ab col dd k0 k1 k2 k3 k5 newId)) (hn : h.Ns N mN) (hni : mN "__init__" = none)
    (hq : ∀ h' e, Heap.MadeExcOf h h' e (.ref C) rest → Q (.done (.ret (.ref e))) ⟨h', g, d, t, os⟩) (hrest : rest.length ≤ sizeLine) :
    wpAny (model prog w) A (Builtin.«type.__call__» ⟨.ref C :: rest, []⟩) Q E ⟨h, g, d, t, os⟩ := by
  repeat (first | with_reducible refine wpAny_loadPart_at hC ?_ | with_reducible refine wpAny_madeBy_exc hC ?_ | wp_step)
  refine codeAny_call_builtin_code (Code.quiet_builtin _ Fn.quiet) (wpAny_check_new_subU Fn hBn T hC ?_)
  refine new_down Fn hBn F T hC ?_ hrest
  show wpAny _ _ _ _ _ _
  have hC₁ := Heap.get?_push_of_some { cls := .ref C, data := .fields #[.ref h.objs.size, .none, .none, .none, .bool false, .none] }
    (Heap.get?_push_of_some { cls := .type "tuple", data := .seq rest.toArray } hC)
  have hn₁ : ((h.push { cls := .type "tuple", data := .seq rest.toArray }).push { cls := .ref C, data := .fields #[.ref h.objs.size, .none, .none, .none, .bool false, .none] }).Ns N mN :=
    let ⟨o, es, ep, e, r⟩ := hn; ⟨o, es, ep, Heap.get?_push_of_some _ (Heap.get?_push_of_some _ e), r⟩
  have hget : ((h.push { cls := .type "tuple", data := .seq rest.toArray }).push
      { cls := .ref C, data := .fields #[.ref h.objs.size, .none, .none, .none, .bool false, .none] }).get? (h.objs.size + 1) = some
      { cls := .ref C, data := .fields #[.ref h.objs.size, .none, .none, .none, .bool false, .none] } := by heap_get
  have hcC : (Value.ref C :: bm).contains (.ref C) = true := by simp
  have T₁ := T.keeps (h' := (h.push { cls := .type "tuple", data := .seq rest.toArray }).push { cls := .ref C, data := .fields #[.ref h.objs.size, .none, .none, .none, .bool false, .none] })
    fun b o e => Heap.get?_push_of_some _ (Heap.get?_push_of_some _ e)
  unfold isInstance
  repeat (first | with_reducible refine wpAny_loadPart_at hget ?_ | (with_reducible refine wpAny_isSubtype_exc hC₁ ?_; rw [hcC]) | wp_step)
  show wpAny _ _ (typeLookup (.ref C) _) _ _ _
  refine wpAny_typeLookup_tail hC₁ hn₁ T₁ F.mroIs F.init.lookup ?_
  rw [hni]
  refine wpAny_holding (wpAny_bind (wpAny_of_eq (F.init.bind _) ?_))
  refine wpAny_bind (wpAny_call (codeAny_call_builtin F.init.plain F.initEntry (init_down F T₁ hC₁ hget rfl ?_)))
  wp_walk
  refine hq _ _ ⟨fun b o hb => ?_, Heap.get?_none_of_le (Nat.le_succ _), h.objs.size + 2, ?_, Heap.get?_none_of_le (by omega), ?_⟩
  · rw [Heap.get?_update_other _ _ (Nat.ne_of_gt (Nat.lt_succ_of_lt (Heap.lt_size hb)))]
    exact Heap.get?_push_of_some _ (Heap.get?_push_of_some _ (Heap.get?_push_of_some _ hb))
  · rw [Heap.get?_update_self _ (Heap.get?_push_of_some _ hget) rfl]
    simp only [Heap.size_push]
    rfl
  · rw [Heap.get?_update_other _ _ (show h.objs.size + 1 ≠ h.objs.size + 2 by omega)]
    exact Heap.get?_push_at (by simp only [Heap.size_push]) rfl
theorem call_down (Fn : ExcBaseFacts Bn newId inN bmN) (hBn : bmB.contains (.type Bn) = true) (F : BaseF B initId bmB) (T : OwnTail h bmB bm) {mN : Str → Option Value} {rest : List Value} {Q : Value → Shared → Prop}
    (hC : h.get? C = some (excClassObj nm q C N bs bm hdct sn sub ab col dd k0 k1 k2 k3 k5 newId)) (hn : h.Ns N mN) (hni : mN "__init__" = none)
    (hq : ∀ h' e, Heap.MadeExcOf h h' e (.ref C) rest → Q (.ref e) ⟨h', g, d, t, os⟩) (hrest : rest.length ≤ sizeLine) :
    wpAny (model prog w) A (call (.ref C) rest) Q E ⟨h, g, d, t, os⟩ := by
  have f1 := tc_lookup
  have f2 := tc_bind (.ref C)
  have hT : (⟨h, g, d, t, os⟩ : Shared).TypeIs (.ref C) "type" := ⟨_, hC, rfl⟩
  refine wpAny_call (codeAny_of_tree ?_)
  show wpAny _ _ (callAny (.ref C) _) _ _ _
  repeat (any_goals (first | assumption | with_reducible refine wpAny_loadPart_at hC ?_ | wp_step))
  refine ⟨rfl, ?_⟩
  exact codeAny_call_builtin_at (Code.quiet_builtin _ (by decide +kernel)) entry_typeCall (wpAny_check_type_call_sub hC (make_down (hrest := hrest) Fn hBn F T hC hn hni fun h' e hm => hq h' e hm))
end
end Mine
namespace Mine
section
variable {prog : Program} {w : World} {A : Around} {E : Value → Shared → Prop} {s : Shared} {env : Env} {h₀ : Heap} {L : Addr} {m mg : Str → Option Value}
variable {B Bn newId initId inN : String} {bm bmN : List Value} {x : Str} {C : Addr} {np cpos pos : Pos} {Q : Flow → Shared → Prop}
theorem ld_top {Q : Value → Shared → Prop} (F : Fr h₀ L s.heap m) (hg : h₀.Ns mainGlobals mg) (e : mg x = some (.ref C)) (h : Q (.ref C) s)
    (hk : env.scope.kind = .function := by rfl) (hx : env.kindOf x = some .globalImplicit := by rfl) (hG : env.globals = mainGlobals := by rfl) (hd : (x == ("__debug__" : Str)) = false := by decide) :
    wpAny (model prog w) A (eval (.Name x np) env) Q E s := by
  refine Calls.Name_function_global hk hx (Calls.loadGlobal_global (env := env) ?_ e h) hd
  rw [hG]; exact hg.keeps F.keep
/-- raise C(e₀), in any frame, where the class hands down another's «__new__» -/
theorem raise_down {e₀ : Expr} (F : Fr h₀ L s.heap m) (hg : h₀.Ns mainGlobals mg) (O : OwnCls x C bm newId mg h₀) (Fn : ExcBaseFacts Bn newId inN bmN) (hBn : bm.contains (.type Bn) = true) (FB : BaseF B initId bm) (hh : A.handled = none)
    (hname : ∀ Q : Value → Shared → Prop, Q (.ref C) s → wpAny (model prog w) A (eval (.Name x np) env) Q E s)
    (h : wpAny (model prog w) A (eval e₀ env) (fun v s₂ => (∀ b o, h₀.get? b = some o → s₂.heap.get? b = some o) ∧
      ∀ h' e, Heap.MadeExcOf s₂.heap h' e (.ref C) [v] → E (.ref e) { s₂ with heap := h' }) E s)
    (he : starEach [e₀] env = [(false, eval e₀ env)] := by rfl) :
    wpAny (model prog w) A (exec (.Raise (some (.Call (.Name x np) [e₀] [] cpos)) none pos) env) Q E s := by
  obtain ⟨tl, N, nm, q, bs, hdct, sn, sub, ab, col, dd, k0, k1, k2, k3, k5, mN, hC, hN, hni, T⟩ := O.obj
  rw [arm_exec_Raise]
  simp only [evalOpt, Option.map]
  refine wpAny_bind (wpAny_standAt (wpAny_raiseStmt_made_sub (C := C) (nm := nm) (q := q) (N := N) (bs := bs) (bm := tl) (hdct := hdct) (sn := sn) (sub := sub) (ab := ab) (col := col) (dd := dd) (k0 := k0) (k1 := k1) (k2 := k2) (k3 := k3) (k5 := k5) (newId := newId) (T.hasType FB.hasBase) hh (wpAny_bind (wpAny_mono (wpAny_Call_ofName (hname _ ?_)) (fun v s₃ h₃ => wpAny_bind (wpAny_standAt (wpAny_pure h₃))) fun _ _ x => x))))
  unfold callWith
  rw [he]
  refine wpAny_bind (wpAny_holding (wpAny_mono (Calls.evalArgs_plain (Calls.spliced_cons (wpAny_mono h (fun v s₂ h₂ => Calls.spliced_nil ?_) fun _ _ x => x))) (fun a s₂ h₂ => h₂) fun _ _ x => x))
  refine wpAny_bind (wpAny_standAt ?_)
  obtain ⟨hkeep, h₂⟩ := h₂
  obtain ⟨hp, g, d, tk, os⟩ := s₂
  refine wpAny_bind (wpAny_keeperOf_exc (hkeep _ _ hC) ?_)
  refine wpAny_bind (call_down (hrest := by rw [sizeLine_eq]; simp) Fn hBn FB (T.keeps hkeep) (hkeep _ _ hC) (hN.keeps hkeep) hni fun h' e hm => wpAny_bind (wpAny_holding (wpAny_point (wpAny_pure ?_))))
  obtain ⟨t, ht, _, _⟩ := hm.there
  exact ⟨e, t, rfl, hm.keeps _ _ (hkeep _ _ hC), ht, h₂ h' e hm⟩
/-- raise C(e₀), in any frame -/
theorem raise_plain {e₀ : Expr} (F : Fr h₀ L s.heap m) (hg : h₀.Ns mainGlobals mg) (O : OwnCls x C bm newId mg h₀) (FB : ExcBaseFacts B newId initId bm) (hh : A.handled = none)
    (hname : ∀ Q : Value → Shared → Prop, Q (.ref C) s → wpAny (model prog w) A (eval (.Name x np) env) Q E s)
    (h : wpAny (model prog w) A (eval e₀ env) (fun v s₂ => (∀ b o, h₀.get? b = some o → s₂.heap.get? b = some o) ∧
      ∀ h' e, Heap.MadeExcOf s₂.heap h' e (.ref C) [v] → E (.ref e) { s₂ with heap := h' }) E s)
    (he : starEach [e₀] env = [(false, eval e₀ env)] := by rfl) :
    wpAny (model prog w) A (exec (.Raise (some (.Call (.Name x np) [e₀] [] cpos)) none pos) env) Q E s := by
  obtain ⟨tl, N, nm, q, bs, hdct, sn, sub, ab, col, dd, k0, k1, k2, k3, k5, mN, hC, hN, hni, T⟩ := O.obj
  refine wpAny_Raise_call_subT (C := C) (nm := nm) (q := q) (N := N) (bs := bs) (bm := tl) (hdct := hdct) (sn := sn) (sub := sub) (ab := ab) (col := col) (dd := dd) (k0 := k0) (k1 := k1) (k2 := k2) (k3 := k3) (k5 := k5)
    FB (mN := mN) (T.hasType FB.hasBase) hh (by rw [he]; rfl) hni (hname _ ⟨rfl, ?_⟩)
  rw [he]
  exact Calls.evalArgs_plain (Calls.spliced_cons (wpAny_mono h (fun v s₂ h₂ => Calls.spliced_nil ⟨rfl, by rw [sizeLine_eq]; simp, h₂.1 _ _ hC, hN.keeps h₂.1, T.keeps h₂.1, h₂.2⟩) fun _ _ y => y))
end
end Mine
end

/-! Exceptions in flight through open frames. -/
section
open PySem PySem.W PyProof.Rows PySem.Calls
set_option Elab.async false
set_option maxRecDepth 100000
set_option maxHeartbeats 8000000
namespace Mine
theorem anewFly : True := by
  w_top off
  trivial
section
variable {M : Model} {A : Around} {E : Value → Shared → Prop} {s : Shared} {B : Heap} {env : Env} {outer : List Env} {L e : Addr} {cls a0 : Value}
theorem setFlight_own (hf : env.frame = some L) (hfl : Heap.FlyingW B (env :: outer) e cls a0 s.heap) {Q : Unit → Shared → Prop}
    (h : ∀ h', Heap.HeldW B (env :: outer) e cls a0 L h' → s.heap.UpToSlots h' → Q () { s with heap := h' }) : wpAny M A (setFlight (.ref e) env.frame) Q E s := by
  rw [hf]
  exact setFlight_onW hfl h
theorem pass_on {α : Type} {what : String} (hf : env.frame = some L) (hfl : Heap.FlyingW B (env :: outer) e cls a0 s.heap) {Q : α → Shared → Prop}
    (h : ∀ h', Heap.HeldW B (env :: outer) e cls a0 L h' → s.heap.UpToSlots h' → E (.ref e) { s with heap := h' }) : wpAny M A (PySem.passOn what (.ref e) env) Q E s := by
  have hfl' := hfl
  obtain ⟨hkb, hen, hl, oe, vs, T, oT, ts, he, hcls, hd, h1, _⟩ := hfl
  unfold PySem.passOn
  refine wpAny_bind (wpAny_field he hd h1 ?_)
  rw [if_neg (show ¬ ((Value.ref T == Value.none) = true) from by simp)]
  exact wpAny_bind (setFlight_own hf hfl' fun h' H u => wpAny_throw (h h' H u))
theorem raise_bare {pos : Pos} (hh : A.handled = some (.ref e)) (hf : env.frame = some L) (hfl : Heap.FlyingW B (env :: outer) e cls a0 s.heap) {Q : Flow → Shared → Prop}
    (h : ∀ h', Heap.HeldW B (env :: outer) e cls a0 L h' → s.heap.UpToSlots h' → E (.ref e) { s with heap := h' }) : wpAny M A (exec (.Raise none none pos) env) Q E s := by
  have hfl' := hfl
  obtain ⟨hkb, hen, hl, oe, vs, T, oT, ts, he, hcls, hd, h1, _⟩ := hfl
  rw [arm_exec_Raise]
  refine wpAny_bind (wpAny_standAt ?_)
  simp only [evalOpt, Option.map]
  unfold raiseStmt
  refine wpAny_bind (wpAny_handled ?_)
  rw [hh]
  refine wpAny_bind (wpAny_rule ?_)
  refine wpAny_bind (wpAny_field he hd h1 ?_)
  rw [if_neg (show ¬ ((Value.ref T == Value.none) = true) from by simp)]
  exact wpAny_bind (setFlight_own hf hfl' fun h' H u => wpAny_throw (h h' H u))
theorem leaves_held {Q : Unit → Shared → Prop} (hf : env.frame = some L) (hh : Heap.HeldW B (env :: outer) e cls a0 L s.heap)
    (hQ : ∀ h', Heap.FlyingW B outer e cls a0 h' → s.heap.UpToSlots h' → Q () { s with heap := h' }) : wpAny M A (leaving env (.ref e)) Q E s := by
  unfold leaving
  refine wpAny_bind (wpAny_noteFrame_againW hf hh.2.2.2 ?_)
  refine wpAny_landsW hh fun h' hfl u => ?_
  obtain ⟨k1, k2, ⟨_, _, k3⟩, k4⟩ := hfl
  exact hQ h' ⟨k1, k2, k3, k4⟩ u
theorem comes_to {hs : List ExceptHandler} {Q : Flow → Shared → Prop} (hfr : A.frames = some (env :: outer)) (hf : env.frame = some L) (hfl : Heap.FlyingW B (env :: outer) e cls a0 s.heap)
    (k : ∀ h₅, Heap.FlyingW B (env :: outer) e cls a0 h₅ → s.heap.UpToSlots h₅ → wpAny M A (handleBy (.ref e) env hs) Q E { s with heap := h₅ }) :
    wpAny M A (noteFrame (.ref e) env) (fun _ s₂ => wpAny M A (setFlight (.ref e) none) (fun _ s₃ => wpAny M A (handleBy (.ref e) env hs) Q E s₃) E s₂) E s :=
  wpAny_looks_onW hfr hf hfl fun _ H₄ u₄ => wpAny_landsW H₄ fun h₅ F₅ u₅ => k h₅ F₅ (u₄.trans u₅)
end
end Mine
namespace Mine
section
variable {M : Model} {A : Around} {E : Value → Shared → Prop} {g : Array GenState} {d : Drawn} {t : Nat} {os : OsState} {h : Heap}
variable {nm q : Str} {C N : Addr} {bs bm : List Value} {hdct : Bool} {sn : List Str} {sub : List Value} {ab : Bool} {col : Option Bool} {dd : Option Addr} {k0 k1 k2 k3 k5 : Option Value} {newId : String}
variable {nm' q' : Str} {D N' : Addr} {bs' bm' : List Value} {hdct' : Bool} {sn' : List Str} {sub' : List Value} {ab' : Bool} {col' : Option Bool} {dd' : Option Addr} {k0' k1' k2' k3' k5' : Option Value} {newId' : String}
theorem match_other {e : Addr} {oe : Obj} {Q : Bool → Shared → Prop}
    (hC : h.get? C = some (excClassObj nm q C N bs bm hdct sn sub ab col dd k0 k1 k2 k3 k5 newId)) (hD : h.get? D = some (excClassObj nm' q' D N' bs' bm' hdct' sn' sub' ab' col' dd' k0' k1' k2' k3' k5' newId'))
    (he : h.get? e = some oe) (hcls : oe.cls = .ref C) (hbase : bm'.contains (.type "BaseException") = true) (hno : (Value.ref C :: bm).contains (.ref D) = false)
    (hq : Q false ⟨h, g, d, t, os⟩) : wpAny M A (excMatches (.ref e) (.ref D)) Q E ⟨h, g, d, t, os⟩ := by
  have hDB : (Value.ref D :: bm').contains (.type "BaseException") = true := by rw [List.contains_cons, hbase, Bool.or_true]
  have f := tc_notTuple
  unfold excMatches
  repeat (first | (with_reducible refine wpAny_loadPart_at he ?_; rw [hcls]) | with_reducible refine wpAny_loadPart_at hD ?_ | (with_reducible refine wpAny_isSubtype_exc hD ?_; rw [hDB]) | (with_reducible refine wpAny_isSubtype_exc hC ?_; rw [hno]) | wp_step)
  exact hq
end
end Mine

namespace Mine
section
variable {prog : Program} {w : World} {A : Around} {E : Value → Shared → Prop} {s : Shared} {B : Heap} {env : Env} {outer : List Env} {L e C D : Addr} {a0 : Value} {K : Frag} {mg : Str → Option Value}
  {x : Str} {np pos : Pos} {b₀ : Stmt} {suite : List Stmt} {rest : List ExceptHandler} {Q : Flow → Shared → Prop}
theorem ld_glob {A : Around} {E : Value → Shared → Prop} {Q : Value → Shared → Prop} {s : Shared} (hg : s.heap.Ns mainGlobals mg) (e : mg x = some (.ref C)) (h : Q (.ref C) s)
    (hk : env.scope.kind = .function := by rfl) (hx : env.kindOf x = some .globalImplicit := by rfl) (hG : env.globals = mainGlobals := by rfl) (hd : (x == ("__debug__" : Str)) = false := by decide) :
    wpAny (model prog w) A (eval (.Name x np) env) Q E s := by
  refine Calls.Name_function_global hk hx (Calls.loadGlobal_global (env := env) ?_ e h) hd
  rw [hG]; exact hg
theorem clause_hit (hfl : Heap.FlyingW B (env :: outer) e (.ref C) a0 s.heap) (XB : K.In B) (q : ktsIn K C "BaseException" = true) (hN : B.Ns mainGlobals mg) (hm : mg x = some (.ref C))
    (k : ∀ h', Heap.FlyingW B (env :: outer) e (.ref C) a0 h' → s.heap.UpToSlots h' → wpAny (model prog w) (A.mark (some (.ref e))) (execs (b₀ :: suite) env) Q E { s with heap := h' })
    (hE : PassesOwnAt (model prog w) (A.mark (some (.ref e))) A env E)
    (hk : env.scope.kind = .function := by rfl) (hx : env.kindOf x = some .globalImplicit := by rfl) (hG : env.globals = mainGlobals := by rfl) (hd : (x == ("__debug__" : Str)) = false := by decide) :
    wpAny (model prog w) A (handleBy (.ref e) env (.ExceptHandler (some (.Name x np)) none (b₀ :: suite) pos :: rest)) Q E s := by
  have hfl' := hfl
  obtain ⟨ob, hob, hobc⟩ := hfl.there
  obtain ⟨nm, q', N, bs, bm, hdct, sn, sub, ab, col, dd, k0, k1, k2, k3, k5, newId, hC, hbase, hbT⟩ := kts_cls XB q
  refine wpAny_handleBy_cons (codeAny_handlers_test (ld_glob (hN.keeps hfl.1) hm ?_ hk hx hG hd)) (by intro q; cases q)
  refine wpAny_excMatches_sub_self (hfl.1 _ _ hC) hob hobc hbase (codeAny_handlers_suite ?_)
  exact lands_againW hfl' fun h₆ hfl₆ u => wpAny_passesOwnAt hE (k h₆ hfl₆ u)
def mroFree (K : Frag) (C D : Addr) : Bool := match K.lookup C with
  | some ⟨_, _, .cls cd, _⟩ => !cd.mro.contains (.ref D)
  | _ => true
theorem clause_miss (hfl : Heap.FlyingW B (env :: outer) e (.ref C) a0 s.heap) (XB : K.In B) (q : ktsIn K C "BaseException" = true) (qD : ktsIn K D "BaseException" = true)
    (hno : mroFree K C D = true) (hN : B.Ns mainGlobals mg) (hm : mg x = some (.ref D))
    (k : wpAny (model prog w) A (handleBy (.ref e) env rest) Q E s)
    (hk : env.scope.kind = .function := by rfl) (hx : env.kindOf x = some .globalImplicit := by rfl) (hG : env.globals = mainGlobals := by rfl) (hd : (x == ("__debug__" : Str)) = false := by decide) :
    wpAny (model prog w) A (handleBy (.ref e) env (.ExceptHandler (some (.Name x np)) none (b₀ :: suite) pos :: rest)) Q E s := by
  obtain ⟨ob, hob, hobc⟩ := hfl.there
  obtain ⟨nm, q', N, bs, bm, hdct, sn, sub, ab, col, dd, k0, k1, k2, k3, k5, newId, hC, hbase, hbT⟩ := kts_cls XB q
  obtain ⟨nm', q'', N', bs', bm', hdct', sn', sub', ab', col', dd', k0', k1', k2', k3', k5', newId', hD, hbase', hbT'⟩ := kts_cls XB qD
  refine wpAny_handleBy_cons (codeAny_handlers_test (ld_glob (hN.keeps hfl.1) hm ?_ hk hx hG hd)) (by intro q; cases q)
  refine match_other (hfl.1 _ _ hC) (hfl.1 _ _ hD) hob hobc hbase' ?_ k
  have hl : ∃ o, K.lookup C = some o := by
    unfold ktsIn at q
    split at q
    · rename_i ho; exact ⟨_, ho⟩
    · cases q
  obtain ⟨o, ho⟩ := hl
  have := XB _ _ ho
  rw [hC] at this
  cases this
  unfold mroFree at hno
  rw [ho] at hno
  simpa using hno
theorem no_clause (hf : env.frame = some L) (hfl : Heap.FlyingW B (env :: outer) e (.ref C) a0 s.heap)
    (h : ∀ h', Heap.HeldW B (env :: outer) e (.ref C) a0 L h' → s.heap.UpToSlots h' → E (.ref e) { s with heap := h' }) : wpAny (model prog w) A (handleBy (.ref e) env []) Q E s :=
  wpAny_handleBy_nil (pass_on hf hfl h)
end
end Mine
namespace Mine
abbrev hideB (h : Heap) (l : List Env) : Heap := hideAll h (l.filterMap (·.frame))
theorem mem_frames {env : Env} {outer : List Env} {L b : Addr} (hf : env.frame = some L) : b ∈ (env :: outer).filterMap (·.frame) ↔ b = L ∨ b ∈ outer.filterMap (·.frame) := by
  rw [List.filterMap_cons, hf]; simp
section
variable {M : Model} {A A₀ : Around} {E : Value → Shared → Prop} {s : Shared} {base g g' h : Heap} {env env₂ : Env} {outer : List Env} {L L2 e : Addr} {cls : Value} {m m2 : Str → Option Value} {led : List (Addr × Obj)} {vs : List Value}
theorem fly_off {Q : Unit → Shared → Prop} (hfr : A.frames = some (env₂ :: env :: outer)) (hf2 : env₂.frame = some L2) (hk2 : env₂.scope.kind = .function) (hf : env.frame = some L) (hk : env.scope.kind = .function)
    (K : Below A₀ base outer g) (F : Fr g L g' m) (F2 : Fr g' L2 h m2) (hx : Heap.MadeExcOf h s.heap e cls vs)
    (hQ : ∀ h' a0, Heap.FlyingW (hideB h (env₂ :: env :: outer)) (env :: outer) e cls a0 h' → h.UpToSlots h' → Q () { s with heap := h' }) : wpAny M A (leaving env₂ (.ref e)) Q E s := by
  have K1 := pushX (env := env) K F hf hk
  have K2 := pushX (env := env₂) K1 F2 hf2 hk2
  have hin : ∀ env' ∈ (env₂ :: env :: outer), ∀ b, env'.frame = some b → b ∈ (env₂ :: env :: outer).filterMap (·.frame) := fun env' he b hb => List.mem_filterMap.mpr ⟨env', he, hb⟩
  exact wpAny_leaves_madeW hfr hf2 (fun b o q => of_hideAll _ q) (funFrames_hide K2.frames hin) hx fun h' t x1 _ _ x4 => hQ h' (.ref t) x1 ((Heap.UpToSlots.of_keeps hx.keeps).trans x4)
theorem land_on (hf2 : env₂.frame = some L2) (hf : env.frame = some L) (K : Below A₀ base outer g) (F : Fr g L g' m) (F2 : Fr g' L2 h m2) (N2 : News g' L2 h led) {h₅ : Heap}
    (hB : (hideB h (env₂ :: env :: outer)).StaysIn h₅) (hsm : h.UpToSlots h₅) :
    ∃ g₅, KtsTurn (outer.filterMap (·.frame)) g g₅ ∧ Fr g₅ L h₅ m ∧ Below A₀ base outer g₅ ∧ News g₅ L h₅ led := by
  have hBG : ∀ b o, g'.get? b = some o → b ∉ (envOf Str.empty default L 0 .none :: outer).filterMap (·.frame) → (hideB h (env₂ :: env :: outer)).get? b = some o := fun b o e nm => hideAll_get _ (F2.keep b o e) fun hm => by
    rcases (mem_frames hf2).mp hm with z | z
    · rw [z, kts_self F2] at e; cases e
    · rcases (mem_frames hf).mp z with z | z
      · exact nm ((mem_frames (env := envOf Str.empty default L 0 .none) rfl).mpr (.inl z))
      · exact nm ((mem_frames (env := envOf Str.empty default L 0 .none) rfl).mpr (.inr z))
  obtain ⟨g₅, T, F₅, K₅⟩ := kts_ground (name := Str.empty) (scope := default) (a := 0) (cd := .none) K F hBG hB ((Heap.UpToSlots.of_keeps F2.keep).trans hsm)
  refine ⟨g₅, T, F₅, K₅, fun q hq => ?_⟩
  have hqL : q.1 ≠ L := fun z => by
    obtain ⟨o, es, ep, ho, _⟩ := F.ns
    have := (N2 q hq).2.2; rw [z, ho] at this; cases this
  refine ⟨hB _ _ (hideAll_get _ (N2 q hq).1 fun hm => ?_), hqL, T.none_ _ (kts_none F.keep (N2 q hq).2.2)⟩
  rcases (mem_frames hf2).mp hm with z | z
  · exact (N2 q hq).2.1 z
  · rcases (mem_frames hf).mp z with z | z
    · exact hqL z
    · obtain ⟨_, o, ho, _⟩ := K.frames.mem z
      have := (N2 q hq).2.2; rw [F.keep _ _ ho] at this; cases this
end
end Mine
namespace Mine
abbrev parsPos : Pos := ⟨21, 8, 49, 29⟩
abbrev parsQual : Str := Str.ofString "ProxyTLV.parse.<locals>._pars"
def ParsePost (prog : Program) (w : World) (vs : List Vec) (g : Heap) (tn' : List (Addr × Obj)) (r : Value) (h' : Heap) : Prop :=
  ∃ t d1 d2 o1 o2 kvF kvP n, r = .ref t ∧ TnOk parsPos parsQual tn' ∧ (∀ p ∈ [(t, ({ cls := .type "tuple", data := .seq #[.ref d1, .ref d2] n } : Obj)), (d2, o2), (d1, o1)] ++ tn', h'.get? p.1 = some p.2 ∧ g.get? p.1 = none) ∧
    (∀ z ∈ tn', z.1 ≠ t ∧ z.1 ≠ d1 ∧ z.1 ≠ d2) ∧ (d1 == sysModules) = false ∧ (d2 == sysModules) = false ∧ o1.IsDictOf (PySem.strKind prog w) kvF ∧ o2.IsDictOf (PySem.strKind prog w) kvP ∧ Pair2 PB kvF (dueF vs) ∧ Pair2 PI kvP (dueP vs)
def FlyPost (g : Heap) (outer : List Env) (C e : Addr) (h' : Heap) : Prop :=
  ∃ B a0 tn', Heap.FlyingW B outer e (.ref C) a0 h' ∧ g.UpToSlots h' ∧ (∀ b o, g.get? b = some o → b ∉ outer.filterMap (·.frame) → B.get? b = some o) ∧ TnOk parsPos parsQual tn' ∧ ∀ q ∈ tn', B.get? q.1 = some q.2 ∧ g.get? q.1 = none

section
variable {A₀ : Around} {base g g' h : Heap} {env env₂ : Env} {outer : List Env} {L L2 e C : Addr} {m m2 : Str → Option Value} {led tn' : List (Addr × Obj)} {a0 : Value}
theorem base_in (hf2 : env₂.frame = some L2) (hk2 : env₂.scope.kind = .function) (hf : env.frame = some L) (hk : env.scope.kind = .function) (K : Below A₀ base outer g) (F : Fr g L g' m) (F2 : Fr g' L2 h m2) :
    base.StaysIn (hideB h (env₂ :: env :: outer)) := by
  have K2 := pushX (env := env₂) (pushX (env := env) K F hf hk) F2 hf2 hk2
  exact fun b o q => hideAll_get _ (K2.stays b o q) fun hm => by
    rw [(K2.frames.mem hm).1] at q; cases q
theorem fly_post (hf2 : env₂.frame = some L2) (hf : env.frame = some L) (K : Below A₀ base outer g) (F : Fr g L g' m) (F2 : Fr g' L2 h m2) (N2 : News g' L2 h led) (htn : TnOk parsPos parsQual tn') (hsub : ∀ q ∈ tn', q ∈ led) {h' : Heap}
    (hfl : Heap.FlyingW (hideB h (env₂ :: env :: outer)) outer e (.ref C) a0 h') (hsm : h.UpToSlots h') : FlyPost g outer C e h' := by
  refine ⟨_, a0, tn', hfl, ((Heap.UpToSlots.of_keeps F.keep).trans (Heap.UpToSlots.of_keeps F2.keep)).trans hsm, fun b o e nm => ?_, htn, fun q hq => ⟨?_, kts_none F.keep (N2 q (hsub q hq)).2.2⟩⟩
  · refine hideAll_get _ (F2.keep b o (F.keep b o e)) fun hm => ?_
    rcases (mem_frames hf2).mp hm with z | z
    · have := F.keep b o e; rw [z, kts_self F2] at this; cases this
    · rcases (mem_frames hf).mp z with z | z
      · rw [z, kts_self F] at e; cases e
      · exact nm z
  · refine hideAll_get _ (N2 q (hsub q hq)).1 fun hm => ?_
    rcases (mem_frames hf2).mp hm with z | z
    · exact (N2 q (hsub q hq)).2.1 z
    · rcases (mem_frames hf).mp z with z | z
      · obtain ⟨o, es, ep, ho, _⟩ := F.ns
        have := (N2 q (hsub q hq)).2.2; rw [z, ho] at this; cases this
      · obtain ⟨_, o, ho, _⟩ := K.frames.mem z
        have := (N2 q (hsub q hq)).2.2; rw [F.keep _ _ ho] at this; cases this
end
end Mine
namespace Mine
structure Root (w : World) (p : Program) (loose : List Str) (mean : ExcName → Option Value) (mg mb : Str → Option Value) (base : Heap) : Prop where
  x : (hd.heap_39 w.params).In base
  t : Top p loose mean mg mb base
end Mine
namespace Mine
section
variable {A₀ : Around} {base g g' h h6 : Heap} {env env₂ : Env} {outer l : List Env} {L L2 e : Addr} {m m2 : Str → Option Value} {cls a0 : Value}
theorem base_in' (_hfl : Heap.FlyingW (hideB h (env₂ :: env :: outer)) l e cls a0 h6) (hf2 : env₂.frame = some L2) (hk2 : env₂.scope.kind = .function) (hf : env.frame = some L) (hk : env.scope.kind = .function) (K : Below A₀ base outer g) (F : Fr g L g' m) (F2 : Fr g' L2 h m2) :
    base.StaysIn (hideB h (env₂ :: env :: outer)) := base_in hf2 hk2 hf hk K F F2
end
end Mine
namespace Mine
section
variable {prog : Program} {w : World} {vs : List Vec} {g h₁ h' : Heap} {L t d1 d2 : Addr} {o1 o2 : Obj} {q0 : Addr × Obj} {n : Nat} {rest l0 tn' : List (Addr × Obj)} {kvF kvP : List (Str × Value)}
theorem post_of (N : News g L h' ((t, ({ cls := .type "tuple", data := .seq #[.ref d1, .ref d2] n } : Obj)) :: q0 :: (d2, o2) :: (d1, o1) :: rest)) (hsub : ∀ q ∈ tn', q ∈ rest) (htn : TnOk parsPos parsQual tn') (hz0 : ∀ z ∈ tn', @LT.lt Nat _ z.1 t)
    (e1 : ∀ z ∈ tn', z.1 ≠ d2) (e2 : ∀ z ∈ tn', z.1 ≠ d1) (lo1 : (d1 == sysModules) = false) (lo2 : (d2 == sysModules) = false)
    (hF : o1.IsDictOf (PySem.strKind prog w) kvF) (hP : o2.IsDictOf (PySem.strKind prog w) kvP) (pF : Pair2 PB kvF (dueF vs)) (pP : Pair2 PI kvP (dueP vs)) : ParsePost prog w vs g tn' (.ref t) h' := by
  refine ⟨t, d1, d2, o1, o2, kvF, kvP, n, rfl, htn, fun p hp => ?_, fun z hz => ⟨?_, e2 z hz, e1 z hz⟩, lo1, lo2, hF, hP, pF, pP⟩
  · have hm : p ∈ (t, ({ cls := .type "tuple", data := .seq #[.ref d1, .ref d2] n } : Obj)) :: q0 :: (d2, o2) :: (d1, o1) :: rest := by
      rcases List.mem_append.mp hp with hp | hp
      · simp only [List.mem_cons, List.not_mem_nil, or_false] at hp ⊢
        rcases hp with rfl | rfl | rfl <;> simp
      · exact .tail _ (.tail _ (.tail _ (.tail _ (hsub p hp))))
    exact ⟨(N p hm).1, (N p hm).2.2⟩
  · exact Nat.ne_of_lt (hz0 z hz)
theorem post_turn {fs : List Addr} {g₅ : Heap} {r : Value} (T : KtsTurn fs g g₅) (x : ParsePost prog w vs g₅ tn' r h') : ParsePost prog w vs g tn' r h' := by
  obtain ⟨t, d1, d2, o1, o2, kvF, kvP, n, h1, h2, h3, h4⟩ := x
  refine ⟨t, d1, d2, o1, o2, kvF, kvP, n, h1, h2, fun p hp => ⟨(h3 p hp).1, ?_⟩, h4⟩
  cases q : g.get? p.1 with
  | none => rfl
  | some o => obtain ⟨sl, e⟩ := T.up q; rw [(h3 p hp).2] at e; cases e
end
end Mine
namespace Mine
section
variable {A₀ : Around} {base g g' h h6 : Heap} {env env₂ : Env} {outer l : List Env} {L L2 e C : Addr} {m m2 : Str → Option Value} {led tn' : List (Addr × Obj)} {a0 a1 cls : Value}
theorem fly_post' (_h0 : Heap.FlyingW (hideB h (env₂ :: env :: outer)) l e cls a1 h6) (hf2 : env₂.frame = some L2) (hf : env.frame = some L) (K : Below A₀ base outer g) (F : Fr g L g' m) (F2 : Fr g' L2 h m2) (N2 : News g' L2 h led) (htn : TnOk parsPos parsQual tn') (hsub : ∀ q ∈ tn', q ∈ led) {h' : Heap}
    (hfl : Heap.FlyingW (hideB h (env₂ :: env :: outer)) outer e (.ref C) a0 h') (hsm : h.UpToSlots h') : FlyPost g outer C e h' := fly_post hf2 hf K F F2 N2 htn hsub hfl hsm
end
end Mine
namespace Mine
theorem news_tl2 {h₀ h : Heap} {L : Addr} {q q' : Addr × Obj} {l : List (Addr × Obj)} (N : News h₀ L h (q :: q' :: l)) : News h₀ L h (q :: l) := fun p hp => by
  rcases List.mem_cons.mp hp with rfl | hp
  · exact N _ (.head _)
  · exact N p (.tail _ (.tail _ hp))
end Mine
namespace Mine
theorem news_lt {g h₁ : Heap} {L : Addr} {l0 tn' : List (Addr × Obj)} (N0 : News g L h₁ l0) (hs0 : ∀ q ∈ tn', q ∈ l0) : ∀ z ∈ tn', @LT.lt Nat _ z.1 h₁.objs.size := fun z hz => Heap.lt_size (N0 z (hs0 z hz)).1
end Mine
namespace Mine
theorem lt_of_ok {pos : Pos} {qual : Str} {g h₁ : Heap} {L : Addr} {l0 tn' : List (Addr × Obj)} (_ : TnOk pos qual tn') (N0 : News g L h₁ l0) (hs0 : ∀ q ∈ tn', q ∈ l0) : ∀ z ∈ tn', @LT.lt Nat _ z.1 h₁.objs.size := news_lt N0 hs0
end Mine
end

/-! ProxyTLV.parse, all outcomes. -/
section
open PySem PySem.W PyProof.Rows PySem.Calls
set_option Elab.async false
set_option maxRecDepth 100000
set_option maxHeartbeats 1000000
namespace Mine
theorem anewT6 : True := by
  w_top off
  trivial
theorem tn_ne {tn : List (Addr × Obj)} {L a : Addr} (h : ∀ q ∈ tn, q.1 < L) (hl : @LE.le Nat _ L a) : ∀ q ∈ tn, q.1 ≠ a := fun q hq => Nat.ne_of_lt (Nat.lt_of_lt_of_le (h q hq) hl)
local macro_rules | `(tactic| k_all) => `(tactic| assumption)
local macro_rules | `(tactic| k_all) => `(tactic| exact tn_ne (by assumption) (by omega))
local macro_rules | `(tactic| walk_at "exec FunctionDef") => `(tactic| (k_here; k_dflt (refine' nestDef_kw ?d0 ?k0 ?k1 ?a0 ?_; (case d0 => exact rfl); (case k0 => exact rfl); (case k1 => exact rfl); (case a0 => exact rfl)); k_dflt (refine' nest_tn (news := [_, _, _, _, _, _, _, _]) ?F ?N ?T ?C ?cd ?t ?o ?cl ?_; (case F => k_asm); (case N => k_asm); (case T => k_asm); (case cd => exact rfl); (case C => exact codeHd_of_K (by assumption) (by kernel_rfl)); (case t => assumption); (case o => repeat (first | exact List.forall_mem_nil _ | refine List.forall_mem_cons.mpr ⟨tn_ne (by assumption) (by omega), ?_⟩)); (case cl => exact rfl); k_whole); intro f' c' ct' dc' h' tk' tn' tnO' tnH' F' N' l1 l2 l3; (have e1 := l3 _ (.head _)); (have e2 := l3 _ (.tail _ (.head _))); (have e3 := l3 _ (.tail _ (.tail _ (.tail _ (.tail _ (.head _)))))); clear l3; (replace l1 := allLt_of l1); (simp only [AllLt, and_true] at l1); (try dsimp only at e1 e2 e3); (try simp only [List.cons_append, List.nil_append] at N')))
local macro_rules | `(tactic| walk_at "exec Try") => `(tactic| (k_here; refine wpAny_Try_except ?_))
local macro_rules | `(tactic| walk_at "callWith ref") => `(tactic| (k_here; k_dflt (refine' callWith_FKW ?k1 ?k2 ?_; (case k1 => exact FnAt.of (by k_asm) (by k_mem)); (case k2 => exact rfl); k_whole)))
local macro_rules | `(tactic| walk_at "And") => `(tactic| (k_dflt (refine ⟨FnAt.of (by k_asm) (by k_mem), ?_⟩); try dsimp only [List.nil_append, List.cons_append]))
local macro_rules | `(tactic| walk_at "loadName") => `(tactic| (k_here; k_dflt (refine' ldnX ?F ?v ?_ ?a ?b; (case a => rfl); (case b => rfl); (case F => k_asm); (case v => rfl); k_whole)))
local macro_rules | `(tactic| walk_at "exec Raise some none") => `(tactic| (k_here; refine halt ?_))
local macro_rules | `(tactic| walk_at "exec While Compare") => `(tactic| (k_here; refine halt ?_))
local macro_rules | `(tactic| walk_at "subscriptTail") => `(tactic| (k_here; (with_reducible show wpAny _ _ (subscriptTail _ _ (Value.bytes _ _) (Value.int _ _)) _ _ _); (refine' item_at ?k1 ?k2 ?k3 ?_; (case k1 => assumption); (case k2 => assumption); (case k3 => omega)); intro _ _))
local macro_rules | `(tactic| walk_at "subscriptTail") => `(tactic| (k_here; (with_reducible show wpAny _ _ (subscriptTail _ (Expr.Slice _ _ none _) (Value.bytes _ _) (Value.ref _)) _ _ _); (refine' slice_at (s := ⟨_, _, _, _, _⟩) ?kF ?kN ?k1 ?k2 ?k3 ?k4 ?k5 ?k6 ?k7 ?_; (case kF => k_asm); (case kN => k_asm); (case k1 => assumption); (case k2 => constructor); (case k3 => constructor); (case k4 => omega); (case k5 => omega); (case k6 => omega); (case k7 => first | exact AtP.two (by assumption) | exact AtP.val' (by assumption) (by omega) (by assumption))); intro h8 b8 t8 k8 F8 N8 i8))
local macro_rules | `(tactic| walk_at "call ref") => `(tactic| (k_here; (with_reducible show wpAny _ _ (call (Value.ref _) [Value.bytes _ _, Value.str _ _]) _ _ _); k_dflt (refine' from_two ?kN ?kM ?k1 ?k2 ?_; (case kN => k_asm); (case kM => k_mem); (case k1 => assumption); (case k2 => assumption)); intro _ _))
local macro_rules | `(tactic| walk_at "eval Attribute Name") => `(tactic| (k_here; (with_reducible show wpAny _ _ (eval (Expr.Attribute _ (PySem.Str.ofString "PP2_TYPENAME") _) _) _ _ _); refine Attribute_Name_ ?_; k_dflt (refine' nameX_F ?N ?c ?m ?d ?_ ?a ?b; (case N => k_asm); (case c => rfl); (case a => rfl); (case b => rfl); (case m => k_mem); (case d => assumption)); k_dflt (refine' cls_val ?k1 ?k2 ?k3 ?k4 ?k5 ?k6 ?_; (case k1 => k_asm); (case k2 => k_asm); (case k3 => k_is); (case k4 => k_is); (case k5 => k_is); (case k6 => k_handed)); k_whole; (try dsimp only)))
local macro_rules | `(tactic| walk_at "getMethod ref") => `(tactic| (k_here; (with_reducible show wpAny _ _ (getMethod (Value.ref 48) _ _) _ _ _); k_dflt (refine' pp2_method ?k1 ?k2 ?_; (case k1 => k_asm); (case k2 => k_asm))))
local macro_rules | `(tactic| walk_at "call builtin:dict.get") => `(tactic| (k_here; (with_reducible show wpAny _ _ (call (Value.builtin "dict.get") [Value.ref 48, Value.int (kindOf _) _]) _ _ _); k_dflt (refine' pp2_get ?k0 ?k1 ?k2 ?_ ?_; (case k0 => omega); (case k1 => k_asm); (case k2 => k_asm)); all_goals (intro t9 hj9; try dsimp only)))
local macro_rules | `(tactic| walk_at "formatField int") => `(tactic| (k_here; (with_reducible show wpAny _ _ (formatField (Value.int (kindOf _) _) _) _ _ _); k_dflt (refine' hex_field ?k0 ?_; (case k0 => omega)); intro _ _; (try dsimp only)))
local macro_rules | `(tactic| walk_at "eval Name") => `(tactic| (k_here; k_dflt (refine' nameX_F ?N ?c ?m ?d ?_ ?a ?b; (case b => rfl); (case a => rfl); (case c => rfl); (case N => k_asm); (case m => k_mem); (case d => assumption); k_whole)))
local macro_rules | `(tactic| walk_at "setItem ref str") => `(tactic| (k_here; k_dflt (refine' kda_set (knd := PySem.strKind _ _) ?F ?N ?U ?d (strKind_is _ _ _ _) ?z ?_; (case F => k_asm); (case N => k_asm); (case U => k_updF); (case d => k_asm); (case z => (rw [sizeLine_eq]; omega)); k_whole); intro h' o' F' N' hd'; (try dsimp only at N'); (try k_sweep)))
local macro_rules | `(tactic| walk_at "And") => `(tactic| ((with_reducible show PySem.Str.length (_ ++ hexOf _) ≤ _ ∧ _); k_dflt (refine And.intro (hex_size (by decide +kernel)) ?_)))
local macro_rules | `(tactic| walk_at "And") => `(tactic| ((with_reducible show PySem.Str.length (_ ++ hexOf _ ++ _) ≤ _ ∧ _); k_dflt (refine And.intro (hex_size2 (by decide +kernel) (by decide +kernel)) ?_)))
local macro_rules | `(tactic| walk_at "joinParts") => `(tactic| (k_here; (first | (with_reducible show wpAny _ _ (joinParts (_ ++ hexOf _) (evalEach [] _)) _ _ _); k_dflt (refine' join_hex ?k1 ?k2 ?_; (case k1 => omega); (case k2 => omega)); (try dsimp only) | (with_reducible show wpAny _ _ (joinParts (_ ++ hexOf _ ++ _) (evalEach [] _)) _ _ _); k_dflt (refine' join_hex2 ?k1 ?k2 ?_; (case k1 => decide +kernel); (case k2 => decide +kernel)); intro y9 _ _; (try dsimp only))))
local macro_rules | `(tactic| walk_at "compareOp Eq str str") => `(tactic| (k_here; (with_reducible show wpAny _ _ (compareOp CmpOp.Eq (Value.str (nameOf _) _) _) _ _ _); k_dflt (refine' eq_ssl ?k0 ?_; (case k0 => omega))))
theorem parse_tel {prog : Program} {w : World} {dp un : Nat} {gd : Option (List Code)} {outer : List Env} {A₀ : Around} {base : Heap} {s : Shared} {p : Program} {loose : List Str} {mean : ExcName → Option Value} {mg mb : Str → Option Value} {tn : List (Addr × Obj)} {R : Result → Shared → Prop}
   {args : Args} {b : Array UInt8} {t : Tok} {po st : Bool} {vs : List Vec} {cs : Option (Vec × List Int)}
   (htn : TnOk ⟨21, 8, 49, 29⟩ (Str.ofString "ProxyTLV.parse.<locals>._pars") tn) (NT : ∀ q ∈ tn, s.heap.get? q.1 = some q.2) (X : (hd.heap_39 w.params).In (hid s.heap tn)) (T : Top p loose mean mg mb (hid s.heap tn)) (B : Below (ATop dp un gd outer) base outer (hid s.heap tn))
   (hdp : dp + 5 < recursionLimit) (hun : un + 60 < cLine) (X₀ : Root w p loose mean mg mb base) (hbind : ∀ fd : FuncData, (∃ oc od osl, (hd.heap_39 w.params).lookup 70 = some ⟨oc, od, .func fd, osl⟩) → BindsTo s fd args [(Str.ofString "cls", .ref 97), (Str.ofString "data", .bytes b t), (Str.ofString "partial_ok", .bool po), (Str.ofString "strict", .bool st)]) (hb : KBw.bInts b = enc vs ++ cutOf cs) (hvs : VsOk vs) (hcs : CsOk st cs)
   (hret : ∀ g₅ r h' tk' tn', (cs = none ∨ po = true) → (st = true → ∀ v ∈ vs, v.j < 6) → KtsTurn (outer.filterMap (·.frame)) (hid s.heap tn) g₅ → (cs = none → g₅ = hid s.heap tn) → g₅.StaysIn h' → ParsePost prog w vs (hid s.heap tn) tn' r h' → R (.ok (.ret r)) { s with heap := h', toks := tk' })
   (hunk : ∀ e h' tk', st = true → (∃ v ∈ vs, 6 ≤ v.j) → FlyPost (hid s.heap tn) outer 37 e h' → R (.error (.ref e)) { s with heap := h', toks := tk' })
   (hmal : ∀ e h' tk', cs ≠ none → po = false → FlyPost (hid s.heap tn) outer 24 e h' → R (.error (.ref e)) { s with heap := h', toks := tk' }) :
   codeAny (model prog w) (ATop dp un gd outer) (.call (.ref 70) args) R s := by
  refine' code_enterC (K := hd.heap_39 _) NT X T ?k6 ?k7 ?k8 ?k9 ?kB ?kD ?_ ?c2 ?c3 ?c4
  case k6 => k_is
  case k7 => k_is
  case k8 => dsimp only [ATop]; omega
  case k9 => exact hbind _ ⟨_, _, _, by k_is⟩
  case kB => exact rfl
  case kD => decide +kernel
  case c2 => exact rfl
  case c3 => exact rfl
  case c4 => exact rfl
  clear hbind
  intro L' h' tk' cells' F' N' Y' l1
  obtain ⟨o1', o2', o3', o4', o5', o6', hE', d1', d2', d3', d4', d5', d6'⟩ := kc_six Y'
  subst hE'
  replace d1' : o1'.data = .cell none := d1'
  replace d2' : o2'.data = .cell none := d2'
  replace d3' : o3'.data = .cell none := d3'
  replace d4' : o4'.data = .cell (some (.bool st)) := d4'
  replace d5' : o5'.data = .cell (some (.bool po)) := d5'
  replace d6' : o6'.data = .cell (some (.ref 97)) := d6'
  clear Y'
  (try simp only [List.cons_append, List.nil_append] at N')
  (try dsimp only)
  all_goals try k_fold
  k_steps
  refine wpAny_call ?_
  refine' code_nest ?k1 ?k2 ?k3 ?k4 ?k5 ?kA ?kF ?kK ?k6 ?k7 ?k8 ?k9 ?kB ?_ ?c2 ?c3 ?c4 ?c5
  case kA => exact rfl
  case kF => exact rfl
  case kK => exact rfl
  case k1 => k_asm
  case k2 => k_asm
  case k3 => k_asm
  case k4 => k_asm
  case k5 => k_asm
  case k6 => k_mem
  case k7 => refine TnHas.code (by assumption) (by k_asm) ?_; intro q hq; repeat (first | exact hq | refine List.Mem.tail _ ?_)
  case k8 => dsimp only [ATop, Around.deeper]; omega
  case k9 => exact BindsTo.of_eq rfl
  case c5 => decide
  case kB => exact locs rfl
  case c2 => exact rfl
  case c3 => exact rfl
  case c4 => exact rfl
  intro g' L2' h2' FG' F2' N2' B2' X2' T2'
  (try dsimp only)
  try k_fold
  k_steps
  refine Halt.go ?_
  refine' While_inv2 (ParsJ prog w vs ?dp ?df ?m0 st [?fo] ?tl) ?F ?N (pars_start (oF := ?oF) (op := ?op) (t := ?t0) ?hF ?hP ?at0 ?same0) ?turn ?hE
  case F => k_asm
  case N => k_asm
  case hF => assumption
  case hP => assumption
  case hE => passes_own
  case at0 => exact rfl
  case same0 => intro z hz; exact if_neg hz
  case turn =>
    intro n m₁ news₁ h₁ tk₁ F₁ N₁ hJ
    obtain ⟨j, u1, u2, u3, u4, t5, op, oF, kvF, kvP, hj, rfl, rfl, rfl, hF, hP, pF, pP, hst⟩ := hJ
    (try simp only [List.cons_append, List.nil_append] at N₁)
    k_sweep
    have hsz := in_len hvs hcs
    have hsz2 := enc_take_le vs j
    rcases Nat.lt_or_ge j vs.length with hlt | hge
    · have x := at_full (cut := cutOf cs) hlt
      have hv := hvs.2 _ (List.getElem_mem hlt)
      have hval : (vs[j].ks ++ (enc (vs.drop (j + 1)) ++ cutOf cs)).take ((vs[j].ks.length : Int)).toNat = vs[j].ks := by simp
      have hfb : ((vs[j].ks.length : Int) / 256) * 256 + ((vs[j].ks.length : Int) % 256) = (vs[j].ks.length : Int) := by omega
      obtain ⟨ks, hks⟩ : ∃ ks, ks = enc vs ++ cutOf cs := ⟨_, rfl⟩
      rw [← hks] at hb x hsz
      have hxl := x.len
      rw [List.length_append] at hxl
      obtain ⟨v, hvj⟩ : ∃ v, v = vs[j] := ⟨_, rfl⟩
      rw [← hvj] at x hv hval hfb hxl
      have hzF : kvF.length ≤ 100 := by have h1 := pF.length; have h2 := (due_len (vs.take j)).1; rw [List.length_take] at h2; have := hvs.1; omega
      have hzP : kvP.length ≤ 100 := by have h1 := pP.length; have h2 := (due_len (vs.take j)).2; rw [List.length_take] at h2; have := hvs.1; omega
      generalize hp : (enc (List.take j vs)).length = p at F₁ x hxl hsz2
      k_steps
      · subst hvj hp
        (with_reducible rename News g' _ _ _ => N9)
        refine' ⟨_, _, _, _ :: (_, _) :: (_, _) :: _, vs.length - (j + 1), rfl, (by k_asm), news_tl N9, (by omega), pars_next hlt (hd := [_]) rfl rfl (t := ?tt) ?hat ?hbb ?hs (by assumption) (by assumption) pF pP hst fun _ => by assumption⟩
        case hat => exact rfl
        case hbb => assumption
        case hs =>
          intro z e0 e1 e2 e3 e4
          simp only [if_neg e0, if_neg e1, if_neg e2, if_neg e3, if_neg e4]
      · refine Halt.go ?_
        refine' raise_down ?F ?g ?O PySem.F.excBase_LookupError ?hB baseF_KeyError ?hh ?hn ?_ ?he
        case F => k_asm
        case g => exact T2'.g
        case O => exact own_of_in X2' (topRead_of T2') (by k_is) (by k_exc)
        case hB => decide
        case hh => rfl
        case hn => intro Q9 hQ9; exact ld_top (by k_asm) T2'.g (mg_of X2' T2'.g (by k_is)) hQ9
        case he => rfl
        k_steps
        refine fly_off rfl rfl rfl rfl rfl B FG' (by k_asm) (by assumption) fun h6 a6 hfl6 u6 => ?_
        try dsimp only
        have XB := X₀.x.keeps (base_in' hfl6 rfl rfl rfl rfl B FG' (by k_asm))
        refine comes_to rfl rfl hfl6 fun h7 hfl7 u7 => ?_
        refine clause_miss (D := 24) hfl7 XB (by kernel_rfl) (by kernel_rfl) (by kernel_rfl) (X₀.t.g.keeps (base_in' hfl6 rfl rfl rfl rfl B FG' (by k_asm))) (mg_of X2' T2'.g (by k_is)) ?_
        refine no_clause rfl hfl7 fun h8 H8 u8 => ?_
        refine leaves_held rfl H8 fun h9 hfl9 u9 => ?_
        (with_reducible rename News g' _ _ _ => N9)
        refine hunk _ _ _ (by assumption) ⟨vs[j], List.getElem_mem hlt, by rw [← hvj]; assumption⟩ (fly_post (L := L') (L2 := L2') rfl rfl B FG' (by k_asm) N9 (tn' := ?tnn) (by assumption) ?sub hfl9 (u6.trans (u7.trans (u8.trans u9))))
        intro q hq; repeat (first | exact hq | refine List.Mem.tail _ ?_)
      · subst hvj hp
        (with_reducible rename News g' _ _ _ => N9)
        refine' ⟨_, _, _, _ :: (_, _) :: (_, _) :: _, vs.length - (j + 1), rfl, (by k_asm), news_tl N9, (by omega), pars_next hlt (hd := [_]) rfl rfl (t := ?tt3) ?hat3 ?hbb3 ?hs3 (by assumption) (by assumption) pF pP hst fun q9 => absurd (q9.symm.trans (by assumption : st = false)) (by decide)⟩
        case hat3 => exact rfl
        case hbb3 => assumption
        case hs3 =>
          intro z e0 e1 e2 e3 e4
          simp only [if_neg e0, if_neg e1, if_neg e2, if_neg e3, if_neg e4]
    · have hje : j = vs.length := Nat.le_antisymm hj hge
      subst hje
      clear hj hge hsz2
      rw [List.take_length] at F₁ pF pP hst
      rcases cs with _ | ⟨v, r⟩
      · simp only [cutOf, List.append_nil] at hb hsz
        k_steps
        try dsimp only
        (with_reducible rename News (hid s.heap tn) _ _ _ => N9)
        refine hret _ _ _ _ _ (.inl rfl) hst .refl (fun _ => rfl) (stays_fr (by assumption)) (post_of N9 (tn' := ?tn9) ?s1 (by assumption) (news_lt N₁ ?s2) (by assumption) (by assumption) (by assumption) (by assumption) hF hP pF pP)
        case s1 => intro q hq; repeat (first | exact hq | refine List.Mem.tail _ ?_)
        case s2 => intro q hq; repeat (first | exact hq | refine List.Mem.tail _ ?_)
      · obtain ⟨hv8, hv300, hrv, rfl⟩ := hcs v r rfl
        have x := at_cut (vs := vs) (v := v) (r := r)
        have hval : r.take ((v.ks.length : Int)).toNat = r := List.take_of_length_le (by omega)
        have hfb : ((v.ks.length : Int) / 256) * 256 + ((v.ks.length : Int) % 256) = (v.ks.length : Int) := by omega
        simp only [cutOf] at hb hsz
        obtain ⟨ks, hks⟩ : ∃ ks, ks = enc vs ++ (kindOf v.j :: (v.ks.length : Int) / 256 :: (v.ks.length : Int) % 256 :: r) := ⟨_, rfl⟩
        rw [← hks] at hb x hsz
        have hxl := x.len
        generalize hp : (enc vs).length = p at F₁ x hxl
        k_steps
        refine Halt.go ?_
        refine' raise_plain ?F5 ?g5 ?O5 PySem.F.excBase_RuntimeError ?hh5 ?hn5 ?_ ?he5
        case F5 => k_asm
        case g5 => exact T2'.g
        case O5 => exact own_of_in X2' (topRead_of T2') (by k_is) (by k_exc)
        case hh5 => rfl
        case hn5 => intro Q9 hQ9; exact ld_top (by k_asm) T2'.g (mg_of X2' T2'.g (by k_is)) hQ9
        case he5 => rfl
        k_steps
        refine fly_off rfl rfl rfl rfl rfl B FG' (by k_asm) (by assumption) fun h6 a6 hfl6 u6 => ?_
        try dsimp only
        have XB := X₀.x.keeps (base_in' hfl6 rfl rfl rfl rfl B FG' (by k_asm))
        refine comes_to rfl rfl hfl6 fun h7 hfl7 u7 => ?_
        refine clause_hit hfl7 XB (by kernel_rfl) (X₀.t.g.keeps (base_in' hfl6 rfl rfl rfl rfl B FG' (by k_asm))) (mg_of X2' T2'.g (by k_is)) (fun h8 hfl8 u8 => ?_) (by passes_own)
        (with_reducible rename News g' _ _ _ => N9)
        (with_reducible rename Fr g' _ _ _ => F9)
        obtain ⟨g5, K5, F5, B5, N5⟩ := land_on rfl rfl B FG' F9 N9 hfl8.1 (u6.trans (u7.trans u8))
        have X5 := X₀.x.keeps B5.stays
        have T5 := X₀.t.keeps B5.stays
        (with_reducible rename TnOk _ _ _ => tnO9)
        have tnO8 : TnOk parsPos parsQual _ := tnO9
        have hm9 := fun h9 tk9 hfl9 (u9 : h8.UpToSlots h9) (hpo : po = false) => hmal _ h9 tk9 (by simp) hpo (fly_post' (a0 := a6) hfl6 rfl rfl B FG' F9 N9 tnO9 (by intro q hq; repeat (first | exact hq | refine List.Mem.tail _ ?_)) hfl9 (u6.trans (u7.trans (u8.trans u9))))
        have hz8 := lt_of_ok tnO8 N5 (by intro q hq; repeat (first | exact hq | refine List.Mem.tail _ ?_))
        try dsimp only
        k_steps
        · try dsimp only
          (with_reducible rename News g5 _ _ _ => N10)
          refine hret g5 _ _ _ _ (.inr (by assumption)) hst K5 (fun q => nomatch q) (stays_fr (by assumption)) (post_turn K5 (post_of (news_tl2 N10) (tn' := _) ?s3 tnO8 hz8 (by assumption) (by assumption) (by assumption) (by assumption) hF hP pF pP))
          case s3 => intro q hq; repeat (first | exact hq | refine List.Mem.tail _ ?_)
        · refine raise_bare rfl rfl hfl8 fun h9 H9 u9 => ?_
          refine leaves_held rfl H9 fun h10 hfl10 u10 => ?_
          exact hm9 _ _ hfl10 (u9.trans u10) (by assumption)
end Mine
end

/-! A call that turns the code table alone. -/
section
open PySem PySem.W PyProof.Rows PySem.Calls
set_option Elab.async false
set_option maxRecDepth 100000
set_option maxHeartbeats 8000000
namespace Mine
theorem anewT7 : True := by
  w_top off
  trivial
section
variable {w : World} {s : Shared} {b : Array UInt8} {t : Tok}
theorem look_fn {K : Frag} {a : Addr} {oc oc' : Value} {od od' : Option Addr} {fd fd' : FuncData} {osl osl' : Array (Option Value)} (h1 : K.lookup a = some ⟨oc, od, .func fd, osl⟩) (h2 : K.lookup a = some ⟨oc', od', .func fd', osl'⟩) {P : FuncData → Prop} (p : P fd) : P fd' := by
  rw [h1] at h2; cases h2; exact p
abbrev parseBinds (b : Array UInt8) (t : Tok) (po st : Bool) : List (Str × Value) := [(Str.ofString "cls", .ref 97), (Str.ofString "data", .bytes b t), (Str.ofString "partial_ok", .bool po), (Str.ofString "strict", .bool st)]
theorem parse_binds1 (X : (hd.heap_39 w.params).In s.heap) (fd : FuncData) (h : ∃ oc od osl, (hd.heap_39 w.params).lookup 70 = some ⟨oc, od, .func fd, osl⟩) : BindsTo s fd ⟨[.ref 97, .bytes b t], []⟩ (parseBinds b t true false) := by
  obtain ⟨oc, od, osl, h⟩ := h
  refine' look_fn ?e h (P := fun fd => BindsTo s fd _ _) ?_
  case e => k_is
  exact binds_K X rfl (by k_is) rfl rfl rfl
theorem parse_binds2 {po : Bool} (X : (hd.heap_39 w.params).In s.heap) (fd : FuncData) (h : ∃ oc od osl, (hd.heap_39 w.params).lookup 70 = some ⟨oc, od, .func fd, osl⟩) : BindsTo s fd ⟨[.ref 97, .bytes b t, .bool po], []⟩ (parseBinds b t po false) := by
  obtain ⟨oc, od, osl, h⟩ := h
  refine' look_fn ?e h (P := fun fd => BindsTo s fd _ _) ?_
  case e => k_is
  exact binds_K X rfl (by k_is) rfl rfl rfl
theorem parse_binds3 {po st : Bool} (X : (hd.heap_39 w.params).In s.heap) (fd : FuncData) (h : ∃ oc od osl, (hd.heap_39 w.params).lookup 70 = some ⟨oc, od, .func fd, osl⟩) : BindsTo s fd ⟨[.ref 97, .bytes b t, .bool po, .bool st], []⟩ (parseBinds b t po st) := by
  obtain ⟨oc, od, osl, h⟩ := h
  refine' look_fn ?e h (P := fun fd => BindsTo s fd _ _) ?_
  case e => k_is
  exact binds_K X rfl (by k_is) rfl rfl rfl
theorem parse_bindsK {po st : Bool} (X : (hd.heap_39 w.params).In s.heap) (fd : FuncData) (h : ∃ oc od osl, (hd.heap_39 w.params).lookup 70 = some ⟨oc, od, .func fd, osl⟩) : BindsTo s fd ⟨[.ref 97, .bytes b t], [(Str.ofString "partial_ok", .bool po), (Str.ofString "strict", .bool st)]⟩ (parseBinds b t po st) := by
  obtain ⟨oc, od, osl, h⟩ := h
  refine' look_fn ?e h (P := fun fd => BindsTo s fd _ _) ?_
  case e => k_is
  exact binds_K X rfl (by k_is) rfl rfl rfl
end
/-- a call that turns the cells of tn alone, and does not raise -/
def TelN (prog : Program) (w : World) (f : Addr) (args : List Value) (kw : List (Str × Value)) (d u : Nat) (Pre : Heap → Prop) (Post : Heap → List (Addr × Obj) → Value → Heap → Prop) : Prop :=
  ∀ (dp un : Nat) (gd : Option (List Code)) (outer : List Env) (A₀ : Around) (base : Heap) (s : Shared) (p : Program) (loose : List Str) (mean : ExcName → Option Value) (mg mb : Str → Option Value) (R : Result → Shared → Prop) (tn : List (Addr × Obj)),
    TnOk parsPos parsQual tn → (∀ q ∈ tn, s.heap.get? q.1 = some q.2) → Below A₀ base outer (hid s.heap tn) → (hd.heap_39 w.params).In (hid s.heap tn) → Top p loose mean mg mb (hid s.heap tn) → Root w p loose mean mg mb base → dp + d < recursionLimit → un + u < cLine → Pre (hid s.heap tn) →
    (∀ r h' tk' tn', (hid s.heap tn).StaysIn h' → TnOk parsPos parsQual tn' → (∀ q ∈ tn', h'.get? q.1 = some q.2 ∧ (hid s.heap tn).get? q.1 = none) → Post (hid s.heap tn) tn' r h' → R (.ok (.ret r)) { s with heap := h', toks := tk' }) →
    codeAny (model prog w) (ATop dp un gd outer) (.call (.ref f) ⟨args, kw⟩) R s
theorem parse_N {args : List Value} {kw : List (Str × Value)} {prog : Program} {w : World} {b : Array UInt8} {t : Tok} {po : Bool} {vs : List Vec} (hbind : ∀ (s : Shared), (hd.heap_39 w.params).In s.heap → ∀ fd : FuncData, (∃ oc od osl, (hd.heap_39 w.params).lookup 70 = some ⟨oc, od, .func fd, osl⟩) → BindsTo s fd ⟨args, kw⟩ (parseBinds b t po false))
    (hb : KBw.bInts b = enc vs) (hvs : VsOk vs) : TelN prog w 70 args kw 5 60 (fun _ => True) (ParsePost prog w vs) := by
  intro dp un gd outer A₀ base s p loose mean mg mb R tn htn NT B X T X₀ hdp hun _ hret
  refine parse_tel (cs := none) (st := false) (A₀ := A₀) htn NT X T ⟨rfl, B.stays, B.frames⟩ hdp hun X₀ (hbind s (X.keeps hid_stays)) (by rw [hb]; simp [cutOf]) hvs (fun v r e => nomatch e) ?_ (fun _ _ _ q => nomatch q) (fun _ _ _ q => absurd rfl q)
  intro g₅ r h' tk' tn' _ _ _ hg st po
  cases hg rfl
  have po' := po
  obtain ⟨_, _, _, _, _, _, _, _, _, h2, h3, _⟩ := po'
  exact hret r h' tk' tn' st h2 (fun q hq => h3 q (List.mem_append_right _ hq)) po
section
variable {prog : Program} {w : World} {A₀ : Around} {s : Shared} {h₀ base : Heap} {outer : List Env} {p : Program} {loose : List Str} {mean : ExcName → Option Value} {mg mb : Str → Option Value}
/-- such a call, seen from the caller's frame: what is of the caller's ledger stays, but for tn -/
theorem TelN.use {f : Addr} {args : List Value} {kw : List (Str × Value)} {d u : Nat} {Pre : Heap → Prop} {Post : Heap → List (Addr × Obj) → Value → Heap → Prop} {L : Addr} {m : Str → Option Value} {A : Around} {env : Env} {dp un : Nat} {gd : Option (List Code)} {news tn : List (Addr × Obj)} {R : Result → Shared → Prop}
    (C : TelN prog w f args kw d u Pre Post) (hA : A = ATop dp un gd (env :: outer)) (hf : env.frame = some L) (hk : env.scope.kind = .function)
    (B : Below A₀ base outer h₀) (F : Fr h₀ L s.heap m) (X : (hd.heap_39 w.params).In h₀) (N : News h₀ L s.heap (news ++ tn)) (T : Top p loose mean mg mb h₀) (X₀ : Root w p loose mean mg mb base)
    (htn : TnOk parsPos parsQual tn) (off : ∀ q ∈ news, ∀ z ∈ tn, z.1 ≠ q.1) (hd : dp + d < recursionLimit) (hu : un + u < cLine) (pre : ∀ g, Fr h₀ L g m → News h₀ L g news → Pre g)
    (ret : ∀ g r h' tk' tn', Fr h₀ L g m → News h₀ L g news → g.StaysIn h' → Fr h₀ L h' m → (∀ tl, (∀ q ∈ tl, h'.get? q.1 = some q.2 ∧ g.get? q.1 = none) → News h₀ L h' (tl ++ news ++ tn') ∧ ∀ q ∈ tl ++ tn', ∀ z ∈ news, q.1 ≠ z.1) → TnOk parsPos parsQual tn' → Post g tn' r h' → R (.ok (.ret r)) { s with heap := h', toks := tk' }) :
    codeAny (model prog w) A (.call (.ref f) ⟨args, kw⟩) R s := by
  subst hA
  have Nt : News h₀ L s.heap tn := fun q hq => N q (List.mem_append_right _ hq)
  obtain ⟨FG, BG, st, _⟩ := groundX (R := fun _ _ => True) (A := ATop dp un gd (env :: outer)) (env := env) B F Nt rfl hf hk
  have NG : News h₀ L (hid s.heap tn) news := fun q hq => ⟨hid_get (N q (List.mem_append_left _ hq)).1 (fun z hz => off q hq z hz), (N q (List.mem_append_left _ hq)).2⟩
  refine C dp un gd (env :: outer) (ATop dp un gd (env :: outer)) base s p loose mean mg mb R tn htn (fun q hq => (Nt q hq).1) BG (X.keeps st) (T.keeps st) X₀ hd hu (pre _ FG NG) fun r h' tk' tn' sh htn' hN' po => ?_
  have away : ∀ q : Addr × Obj, (hid s.heap tn).get? q.1 = none → q.1 ≠ L ∧ h₀.get? q.1 = none := fun q hq => by
    refine ⟨fun e => ?_, ?_⟩
    · obtain ⟨o, es, ep, ho, _⟩ := FG.ns
      rw [e, ho] at hq; cases hq
    · cases z : h₀.get? q.1 with
      | none => rfl
      | some o => rw [st _ _ z] at hq; cases hq
  refine ret _ r h' tk' tn' FG NG sh (fr_stays FG sh) (fun tl htl => ⟨fun q hq => ?_, fun q hq z hz e => ?_⟩) htn' po
  · rcases List.mem_append.mp hq with hq | hq
    · rcases List.mem_append.mp hq with hq | hq
      · exact ⟨(htl q hq).1, away q (htl q hq).2⟩
      · exact news_stays NG sh q hq
    · exact ⟨(hN' q hq).1, away q (hN' q hq).2⟩
  · have hz' := (NG z hz).1
    rcases List.mem_append.mp hq with hq | hq
    · rw [← e, (htl q hq).2] at hz'; cases hz'
    · rw [← e, (hN' q hq).2] at hz'; cases hz'
end
end Mine
namespace Mine
section
variable {prog : Program} {w : World} {A₀ : Around} {s : Shared} {h₀ base : Heap} {outer : List Env} {p : Program} {loose : List Str} {mean : ExcName → Option Value} {mg mb : Str → Option Value}
theorem parse_use {args : List Value} {kw : List (Str × Value)} {b : Array UInt8} {t : Tok} {po : Bool} {vs : List Vec} {L : Addr} {m : Str → Option Value} {A : Around} {env : Env} {dp un : Nat} {gd : Option (List Code)} {news tn : List (Addr × Obj)} {R : Result → Shared → Prop}
    (hbind : ∀ (s : Shared), (hd.heap_39 w.params).In s.heap → ∀ fd : FuncData, (∃ oc od osl, (hd.heap_39 w.params).lookup 70 = some ⟨oc, od, .func fd, osl⟩) → BindsTo s fd ⟨args, kw⟩ (parseBinds b t po false)) (hA : A = ATop dp un gd (env :: outer)) (hf : env.frame = some L) (hk : env.scope.kind = .function)
    (B : Below A₀ base outer h₀) (F : Fr h₀ L s.heap m) (X : (hd.heap_39 w.params).In h₀) (N : News h₀ L s.heap (news ++ tn)) (T : Top p loose mean mg mb h₀) (X₀ : Root w p loose mean mg mb base)
    (htn : TnOk parsPos parsQual tn) (off : ∀ q ∈ news, ∀ z ∈ tn, z.1 ≠ q.1) (hd : dp + 5 < recursionLimit) (hu : un + 60 < cLine) (hb : KBw.bInts b = enc vs) (hvs : VsOk vs)
    (ret : ∀ t d1 d2 o1 o2 kvF kvP n h' tk' tn', Fr h₀ L h' m → News h₀ L h' ((t, ({ cls := .type "tuple", data := .seq #[.ref d1, .ref d2] n } : Obj)) :: (d2, o2) :: (d1, o1) :: (news ++ tn')) → TnOk parsPos parsQual tn' →
      (∀ z ∈ tn', z.1 ≠ t ∧ z.1 ≠ d1 ∧ z.1 ≠ d2) → (∀ q ∈ news, ∀ z ∈ tn', z.1 ≠ q.1) → (∀ q ∈ news, t ≠ q.1 ∧ d1 ≠ q.1 ∧ d2 ≠ q.1) → (d1 == sysModules) = false → (d2 == sysModules) = false →
      o1.IsDictOf (PySem.strKind prog w) kvF → o2.IsDictOf (PySem.strKind prog w) kvP → Pair2 PB kvF (dueF vs) → Pair2 PI kvP (dueP vs) → R (.ok (.ret (.ref t))) { s with heap := h', toks := tk' }) :
    codeAny (model prog w) A (.call (.ref 70) ⟨args, kw⟩) R s := by
  refine (parse_N hbind hb hvs).use hA hf hk B F X N T X₀ htn off hd hu (fun _ _ _ => trivial) fun g r h' tk' tn' FG NG st F' mk htn' po => ?_
  obtain ⟨t, d1, d2, o1, o2, kvF, kvP, n, rfl, h2, h3, h4, lo1, lo2, hF, hP, pF, pP⟩ := po
  obtain ⟨N', off'⟩ := mk [(t, ({ cls := .type "tuple", data := .seq #[.ref d1, .ref d2] n } : Obj)), (d2, o2), (d1, o1)] fun q hq => h3 q (List.mem_append_left _ hq)
  rw [List.append_assoc] at N'
  refine ret t d1 d2 o1 o2 kvF kvP n h' tk' tn' F' N' htn' h4 (fun q hq z hz => off' z (List.mem_append_right _ hz) q hq) (fun q hq => ⟨off' (t, _) (List.mem_append_left _ (.head _)) q hq, off' (d1, o1) (List.mem_append_left _ (.tail _ (.tail _ (.head _)))) q hq, off' (d2, o2) (List.mem_append_left _ (.tail _ (.head _))) q hq⟩) lo1 lo2 hF hP pF pP
end
end Mine
end

/-! from_raw. -/
section
open PySem PySem.W PyProof.Rows PySem.Calls
set_option Elab.async false
set_option maxRecDepth 100000
set_option maxHeartbeats 2000000
namespace Mine
theorem anewT8 : True := by
  w_top off
  trivial
theorem enc_zero {vs : List Vec} (h : (enc vs).length = 0) : vs = [] := by
  cases vs with
  | nil => rfl
  | cons v r => rw [enc_cons, List.length_append, enc1_len] at h; omega
local macro_rules | `(tactic| k_all) => `(tactic| assumption)
local macro_rules | `(tactic| k_all) => `(tactic| exact tn_ne (by assumption) (by omega))
local macro_rules | `(tactic| walk_at "callWith ref") => `(tactic| (k_here; k_dflt (refine' callWith_MKW ?k0 ?k1 ?k2 ?k3 ?k4 ?_; (case k0 => k_asm); (case k1 => k_asm); (case k2 => k_mem); (case k3 => k_is); (case k4 => exact rfl); k_whole)))
local macro_rules | `(tactic| walk_at "And") => `(tactic| (k_dflt (refine ⟨methP (by k_asm) (by k_mem) (by k_asm), ?_⟩); try dsimp only [List.nil_append, List.cons_append]))
abbrev partsDict (w : World) (d1 d2 : Addr) (k1 k2 : Tok) : Obj := dictOf [⟨PyData.keyHash w.params (Str.ofString "fields"), .str (Str.ofString "fields") k1, .ref d1⟩, ⟨PyData.keyHash w.params (Str.ofString "tlv_loc"), .str (Str.ofString "tlv_loc") k2, .ref d2⟩] 2
def FromPost (prog : Program) (w : World) (vs : List Vec) (g : Heap) (_tn' : List (Addr × Obj)) (r : Value) (h' : Heap) : Prop :=
  (vs = [] ∧ r = .none) ∨ (vs ≠ [] ∧ ∃ x dx d1 d2 o1 o2 kvF kvP k1 k2, r = .ref x ∧ (∀ p ∈ [(x, instObj 97 dx), (dx, partsDict w d1 d2 k1 k2), (d2, o2), (d1, o1)], h'.get? p.1 = some p.2 ∧ g.get? p.1 = none) ∧
    (d1 == sysModules) = false ∧ (d2 == sysModules) = false ∧ o1.IsDictOf (PySem.strKind prog w) kvF ∧ o2.IsDictOf (PySem.strKind prog w) kvP ∧ Pair2 PB kvF (dueF vs) ∧ Pair2 PI kvP (dueP vs))
theorem from_of {prog : Program} {w : World} {vs : List Vec} {g h' : Heap} {L x dx d1 d2 : Addr} {k1 k2 : Tok} {o1 o2 : Obj} {q0 : Addr × Obj} {rest tn' : List (Addr × Obj)} {kvF kvP : List (Str × Value)} (N : News g L h' ((x, instObj 97 dx) :: (dx, partsDict w d1 d2 k1 k2) :: q0 :: (d2, o2) :: (d1, o1) :: rest)) (hne : vs ≠ [])
    (lo1 : (d1 == sysModules) = false) (lo2 : (d2 == sysModules) = false) (hF : o1.IsDictOf (PySem.strKind prog w) kvF) (hP : o2.IsDictOf (PySem.strKind prog w) kvP) (pF : Pair2 PB kvF (dueF vs)) (pP : Pair2 PI kvP (dueP vs)) : FromPost prog w vs g tn' (.ref x) h' := by
  refine .inr ⟨hne, x, dx, d1, d2, o1, o2, kvF, kvP, k1, k2, rfl, fun q hq => ?_, lo1, lo2, hF, hP, pF, pP⟩
  have : q ∈ (x, instObj 97 dx) :: (dx, partsDict w d1 d2 k1 k2) :: q0 :: (d2, o2) :: (d1, o1) :: rest := by
    simp only [List.mem_cons, List.not_mem_nil, or_false] at hq ⊢
    rcases hq with rfl | rfl | rfl | rfl <;> simp
  exact ⟨(N q this).1, (N q this).2.2⟩
theorem from_raw_N {prog : Program} {w : World} {b : Array UInt8} {t : Tok} {vs : List Vec} (hb : KBw.bInts b = enc vs) (hvs : VsOk vs) : TelN prog w 81 [.ref 97, .bytes b t] [] 7 80 (fun _ => True) (FromPost prog w vs) := by
  intro dp un gd outer A₀ base s p loose mean mg mb R tn htn NT B X T X₀ hdp hun _ hret
  refine' code_enterT (K := hd.heap_39 _) NT X T ?k6 ?k7 ?k8 ?k9 ?kB ?_ ?c2 ?c3 ?c4 ?c5
  case k6 => k_is
  case k7 => k_is
  case k8 => dsimp only [ATop]; omega
  case k9 => first | exact BindsTo.of_eq rfl | exact binds_K (X.keeps hid_stays) rfl (by k_is) rfl rfl rfl
  case kB => exact locs rfl
  case c2 => exact rfl
  case c3 => exact rfl
  case c4 => exact rfl
  case c5 => decide
  intro L' h' F' N'
  (try dsimp only)
  all_goals try k_fold
  have hsz := enc_le vs fun v hv => (hvs.2 v hv).2
  have hvl := hvs.1
  k_steps
  · try dsimp only
    have hz : vs = [] := enc_zero (by omega)
    exact hret _ _ _ tn (stays_fr F') htn (fun q hq => ⟨(N' q hq).1, (N' q hq).2.2⟩) (.inl ⟨hz, rfl⟩)
  · refine call_meth (by k_asm) (by k_mem) ?_
    (with_reducible rename News _ _ _ _ => N9)
    refine parse_use (news := [_]) (kw := [(Str.ofString "partial_ok", Value.bool false), (Str.ofString "strict", Value.bool false)]) (fun s X => parse_bindsK X) rfl rfl rfl B (by k_asm) X N9 T X₀ htn ?off (by dsimp only [ATop, Around.deeper]; omega) (by dsimp only [ATop, Around.deeper]; omega) hb hvs ?_
    case off => intro q hq z hz; rw [List.mem_singleton.mp hq]; exact Nat.ne_of_lt ((by assumption : ∀ p ∈ tn, p.1 < _) z hz)
    intro t9 d1 d2 o1 o2 kvF kvP n9 h9 tk9 tn9 F9 N9 htn9 e1 e2 e3 lo1 lo2 hF hP pF pP
    simp only [List.cons_append, List.nil_append] at N9
    try dsimp only
    k_sweep
    k_steps
    refine' call_cls (kw := [(Str.ofString "_tlv_loc", Value.ref d2)]) ?k1 ?k2 ?k3 ?k4 ?k5 ?k6 ?_
    case k1 => k_asm
    case k2 => k_asm
    case k3 => k_asm
    case k4 => k_is
    case k5 => k_is
    case k6 => k_is
    k_whole
    intro x' d' h' F' N' l1 l2
    (have l3 := fun z (hz : z ∈ tn9) => l1 z (by repeat (first | exact hz | refine List.Mem.tail _ ?_)))
    (try k_lt l1); (try k_lt2 l2); (try k_sweep)
    refine' code_def ?k1 ?k2 ?k3 ?k4 ?k5 ?kA ?kF ?kK ?k6 ?k7 ?k8 ?k9 ?kB ?_ ?c2 ?c3 ?c4 ?c5
    case kA => exact rfl
    case kF => exact rfl
    case kK => exact rfl
    case k1 => k_asm
    case k2 => k_asm
    case k3 => k_asm
    case k4 => k_asm
    case k5 => k_asm
    case k6 => k_is
    case k7 => k_is
    case k8 => simp only [depth_under_make, depth_under_kw, depth_in1, depth_deeper, depth_caller]; omega
    case k9 => exact BindsTo.of_eq rfl
    case c5 => decide
    case kB => exact locs rfl
    case c2 => exact rfl
    case c3 => exact rfl
    case c4 => exact rfl
    k_whole
    intro g' L' h' FG' F' N' B' X' T'
    (try dsimp only); (try k_lift B'); (try k_fold)
    k_steps
    try dsimp only
    (with_reducible rename News (hid s.heap tn) _ _ _ => N8)
    refine hret _ _ _ tn9 (stays_fr (by assumption)) htn9 (fun q hq => ?_) (from_of N8 (fun e => ?_) lo1 lo2 hF hP pF pP)
    · have := N8 q (by repeat (first | exact hq | refine List.Mem.tail _ ?_))
      exact ⟨this.1, this.2.2⟩
    · subst e
      exact (by assumption : ¬ _) rfl
end Mine
end

/-! bytes.join of a list of octets. -/
section
open PySem PySem.W PyProof.Rows PySem.Calls
set_option Elab.async false
set_option maxRecDepth 100000
set_option maxHeartbeats 2000000
namespace Mine
theorem anewJoin : True := by
  w_top off
  trivial
theorem take_eq {id : String} {b : Array UInt8} {t : Tok} : Builtin.Bytes.takeBufferQuiet? id (.bytes b t) 0 = pure (some (b, none)) := by
  unfold Builtin.Bytes.takeBufferQuiet? Builtin.Bytes.takeBuffer?
  rw [KBy.special_eq KBy.look_buffer, KBy.own_buffer]
  have e : Builtin.Bytes.buffer? id (.bytes b t) (0 == Builtin.Bytes.fullReadOnly) = pure (some b) := KBy.buffer_eq
  simp only [pure_bind]
  rw [e]
  rfl
/-- values that are octets -/
inductive ByteVals : List Value → List (List Int) → Prop
  | nil : ByteVals [] []
  | cons {b : Array UInt8} {t : Tok} {r : List Value} {ks : List Int} {s : List (List Int)} : KBw.bInts b = ks → ByteVals r s → ByteVals (.bytes b t :: r) (ks :: s)
theorem ByteVals.arrays {vals : List Value} {kss : List (List Int)} (x : ByteVals vals kss) : ∃ cs : List (Array UInt8 × Tok), vals = cs.map (fun p => .bytes p.1 p.2) ∧ kss = cs.map (fun p => KBw.bInts p.1) := by
  induction x with
  | nil => exact ⟨[], rfl, rfl⟩
  | @cons b t r ks s h _ ih => obtain ⟨cs, rfl, rfl⟩ := ih; exact ⟨(b, t) :: cs, rfl, by simp [h]⟩
theorem joined_ints (cs : List (Array UInt8)) : KBw.bInts (Builtin.Bytes.joined #[] cs) = (cs.map KBw.bInts).flatten := by
  have h : ∀ (cs : List (Array UInt8)) (k : Nat) (acc : Array UInt8), KBw.bInts ((cs.zipIdx k).foldl (fun out (p, i) => (if i > 0 then out ++ (#[] : Array UInt8) else out) ++ p) acc) = KBw.bInts acc ++ (cs.map KBw.bInts).flatten := by
    intro cs
    induction cs with
    | nil => intro k acc; simp
    | cons c r ih =>
      intro k acc
      rw [List.zipIdx_cons, List.foldl_cons, ih]
      have e : (if k > 0 then acc ++ (#[] : Array UInt8) else acc) = acc := by split <;> simp
      rw [show KBw.bInts ((match (c, k) with | (p, i) => (if i > 0 then acc ++ (#[] : Array UInt8) else acc) ++ p)) = KBw.bInts ((if k > 0 then acc ++ (#[] : Array UInt8) else acc) ++ c) from rfl, e, KBw.ints_app rfl rfl]
      simp
  have := h cs 0 #[]
  simpa [Builtin.Bytes.joined, KBw.bInts] using this
theorem sizes_sum (cs : List (Array UInt8)) (k : Nat) : cs.foldl (fun a c => a + c.size) k = k + ((cs.map KBw.bInts).flatten).length := by
  induction cs generalizing k with
  | nil => simp
  | cons c r ih => rw [List.foldl_cons, ih, List.map_cons, List.flatten_cons, List.length_append, KBw.ints_length]; omega
section
variable {M : Model} {A : Around} {E : Value → Shared → Prop} {s : Shared}
theorem join_let {taken : List (Value × Option Value)} {keep : List Value} {Q : Unit → Shared → Prop} (hn : ∀ p ∈ taken, p.2 = none) (h : Q () s) : wpAny M A (Builtin.Bytes.joinLetGo taken keep) Q E s := by
  induction taken with
  | nil => exact wpAny_pure h
  | cons p r ih =>
    obtain ⟨x, u⟩ := p
    obtain rfl : u = none := hn _ (.head _)
    exact wpAny_bind (wpAny_letGo (ih fun p hp => hn p (.tail _ hp)))
theorem wp_range {β : Type} {n : Nat} {f : Nat → β → Sem (ForInStep β)} (I : Nat → β → Prop) {Q : β → Shared → Prop}
    (hstep : ∀ i c, i < n → I i c → wpAny M A (f i c) (fun r s' => s' = s ∧ ∃ c', r = .yield c' ∧ I (i + 1) c') E s) (hend : ∀ c, I n c → Q c s) {c : β} (h : I 0 c) : wpAny M A (forIn [:n] c f) Q E s := by
  rw [Std.Legacy.Range.forIn_eq_forIn_range']
  have hsz : ([:n] : Std.Legacy.Range).size = n := by simp [Std.Legacy.Range.size]
  show wpAny M A (forIn (List.range' 0 ([:n] : Std.Legacy.Range).size 1) c f) Q E s
  rw [hsz]
  refine wpAny_forIn_list f (fun l c s' => s' = s ∧ ∃ i, i ≤ n ∧ l = List.range' i (n - i) 1 ∧ I i c) Q ?_ ?_ _ c ⟨rfl, 0, Nat.zero_le _, rfl, h⟩
  · rintro x rest c s' ⟨rfl, i, hi, hl, hI⟩
    have hlt : i < n := by
      rcases Nat.lt_or_ge i n with h' | h'
      · exact h'
      · rw [show n - i = 0 by omega] at hl; simp at hl
    obtain ⟨k, hk⟩ : ∃ k, n - i = k + 1 := ⟨n - i - 1, by omega⟩
    rw [hk, List.range'_succ] at hl
    obtain ⟨rfl, rfl⟩ := List.cons.inj hl
    refine wpAny_mono (hstep x c hlt hI) (fun r s₂ hr => ?_) fun _ _ e => e
    obtain ⟨rfl, c', rfl, hI'⟩ := hr
    exact ⟨rfl, x + 1, hlt, by congr 1; omega, hI'⟩
  · rintro c s' ⟨rfl, i, hi, hl, hI⟩
    have : i = n := by
      rcases Nat.lt_or_ge i n with h' | h'
      · obtain ⟨k, hk⟩ : ∃ k, n - i = k + 1 := ⟨n - i - 1, by omega⟩
        rw [hk, List.range'_succ] at hl; simp at hl
      · omega
    subst this; exact hend _ hI
end
end Mine
namespace Mine
section
variable {prog : Program} {w : World} {A : Around} {E : Value → Shared → Prop} {s : Shared} {a : Addr} {o : Obj} {t : Tok} {n : Nat} {cs : List (Array UInt8 × Tok)}
theorem run_join {Q : PySem.Fin → Shared → Prop} (ho : s.heap.get? a = some o) (hc : o.cls = .type "list") (hd : o.data = .seq (cs.map fun p => Value.bytes p.1 p.2).toArray n)
    (hsz : ((cs.map fun p => KBw.bInts p.1).flatten).length ≤ 100000)
    (hq : ∀ r t' k, KBw.bInts r = (cs.map fun p => KBw.bInts p.1).flatten → Q (.done (.ret (.bytes r t'))) { s with toks := k }) : wpAny (model prog w) A (Builtin.«bytes.join» ⟨[.bytes #[] t, .ref a], []⟩) Q E s := by
  unfold Builtin.«bytes.join» Builtin.Bytes.joinM
  have hT : s.TypeIs (.ref a) "list" := ⟨o, ho, hc⟩
  refine wpAny_bind (wpAny_of_eq (a := (.bytes #[] t, .ref a)) rfl ?_)
  refine wpAny_bind ?_
  show wpAny _ A (Builtin.Bytes.joinItems (.ref a)) _ _ s
  unfold Builtin.Bytes.joinItems
  refine wpAny_bind (wpAny_typeOf hT ?_)
  refine wpAny_ite (KBc.ite_yes (by decide) ?_)
  refine wpAny_pure ?_
  refine wpAny_bind (wpAny_seqItems ho hd ?_)
  obtain ⟨l, hl⟩ : ∃ l, l = cs := ⟨_, rfl⟩
  rcases cs with _ | ⟨⟨c, tc⟩, _ | ⟨c', r⟩⟩
  · refine wpAny_ite (KBc.ite_yes (by decide) ?_)
    show wpAny _ A (forIn _ _ _ >>= _) _ _ s
    refine wpAny_bind (wp_range (fun i st => st = (#[], [])) (fun i c hi _ => absurd hi (Nat.not_lt_zero _)) ?_ rfl)
    rintro _ rfl
    refine wpAny_bind (wpAny_pure ?_)
    refine wpAny_ite (KBy.ite_no (by decide) ?_)
    refine wpAny_bind (wpAny_mkBytes ?_ (by rw [sizeLine_eq]; decide))
    refine wpAny_bind (wpAny_holding (wpAny_point ?_))
    refine wpAny_bind (wpAny_pure (wpAny_pure ?_))
    exact hq _ _ _ (by rw [joined_ints]; rfl)
  · refine wpAny_ite (KBc.ite_yes (by decide) ?_)
    show wpAny _ A (typeOf (.bytes c tc) >>= _) _ _ s
    refine wpAny_bind (wpAny_typeOf (typeIs_bytes s c tc) ?_)
    refine wpAny_ite (KBc.ite_yes rfl ?_)
    refine wpAny_bind (wpAny_rule (wpAny_pure ?_))
    exact hq c tc s.toks (by simp)
  · refine wpAny_ite (KBc.ite_yes (by decide) ?_)
    show wpAny _ A (forIn _ _ _ >>= _) _ _ s
    rw [← hl] at hd hsz hq ⊢
    refine wpAny_bind (wp_range (fun i st => st.1.toList = (l.map (·.1)).take i ∧ ∀ p ∈ st.2, p.2 = none ∧ p.1.onHeap = false) ?_ ?_ ?_)
    · rintro i ⟨parts, taken⟩ hi ⟨h1, h2⟩
      refine wpAny_bind (wpAny_seqItems ho hd ?_)
      have hi' : i < l.length := by simpa using hi
      have hx : ((l.map fun p => Value.bytes p.1 p.2).toArray).getD i Value.none = .bytes l[i].1 l[i].2 := by simp [Array.getD, hi']
      refine wpAny_ite (KBy.ite_no ?_ ?_)
      · have : (taken.any fun x => x.1.onHeap) = false := List.any_eq_false.mpr fun p hp => by rw [(h2 p hp).2]; decide
        show ¬ ((_ || taken.any fun x => x.1.onHeap) = true)
        rw [this]; decide
      refine wpAny_bind (wpAny_holding (wpAny_of_eq (a := some (l[i].1, none)) (by rw [hx]; exact take_eq) ?_))
      refine wpAny_bind (wpAny_seqItems ho hd ?_)
      refine wpAny_ite (KBy.ite_no (by simp) ?_)
      refine wpAny_pure ⟨rfl, _, rfl, ?_, ?_⟩
      · show (parts.push l[i].1).toList = _
        rw [Array.toList_push, show parts.toList = _ from h1, List.take_add_one, List.getElem?_map, List.getElem?_eq_getElem hi']
        rfl
      · intro p hp
        rcases List.mem_append.mp hp with hp | hp
        · exact h2 p hp
        · rw [List.mem_singleton.mp hp]
          exact ⟨rfl, by show Value.onHeap (Array.getD _ i .none) = false; rw [hx]; rfl⟩
    · rintro ⟨parts, taken⟩ ⟨h1, h2⟩
      have hp : parts.toList = l.map (·.1) := by
        have := h1
        simp only [List.size_toArray, List.length_map] at this
        rw [this, List.take_of_length_le (by simp)]
      have hj : KBw.bInts (Builtin.Bytes.joined #[] parts.toList) = (l.map fun p => KBw.bInts p.1).flatten := by rw [joined_ints, hp, List.map_map]; rfl
      have hl2 : (Builtin.Bytes.joined #[] parts.toList).size ≤ 100000 := by rw [← KBw.ints_length, hj]; exact hsz
      refine wpAny_bind (wpAny_pure ?_)
      refine wpAny_ite (KBy.ite_no ?_ ?_)
      · have e : parts.foldl (fun x1 x2 => x1 + x2.size) ((#[] : Array UInt8).size * (parts.size - 1)) = ((l.map fun p => KBw.bInts p.1).flatten).length := by
          rw [← Array.foldl_toList, sizes_sum, hp, List.map_map]
          simp; rfl
        show ¬ (Builtin.Bytes.tooLong (parts.foldl (fun x1 x2 => x1 + x2.size) ((#[] : Array UInt8).size * (parts.size - 1))) = true)
        rw [e, KBy.tooLong_not (by omega)]
        decide
      refine wpAny_bind (wpAny_mkBytes ?_ (by rw [sizeLine_eq]; exact Nat.le_trans hl2 (by decide)))
      refine wpAny_bind (wpAny_holding (wpAny_point ?_))
      refine wpAny_bind (join_let (fun p hp => (h2 p hp).1) (wpAny_pure ?_))
      exact hq _ _ _ hj
    · exact ⟨rfl, fun p hp => nomatch hp⟩
end
end Mine
namespace Mine
theorem slot_join : Slot "bytes" "join" "bytes.join" :=
  .of (owner := "bytes") (n := "join") (by rw [typeLookup_type, builtinLookup_eq_fast]; kernel_rfl) (by decide +kernel) (by decide +kernel) (by decide +kernel)
    (by first | exact .inl (by decide +kernel) | exact .inr (by decide +kernel)) (by rw [isSubtype_type]; kernel_rfl)
theorem type_join : typeOf (.builtin "bytes.join") = pure (.type "method_descriptor") := by show builtinType _ = _; rw [builtinType_eq_fast]; kernel_rfl
theorem entry_join : entryFor table "bytes.join" = some Builtin.«bytes.join» := entryFor_of_tree (by kernel_rfl)
theorem args_join (a b : Value) : argsOk "bytes.join" ⟨[a, b], []⟩ := by unfold argsOk; kernel_rfl
section
variable {prog : Program} {w : World} {A : Around} {E : Value → Shared → Prop} {s : Shared} {h₀ : Heap} {L : Addr} {news : List (Addr × Obj)}
theorem method_join {M : Model} {b : Array UInt8} {t : Tok} {pl : Sem Bool} {Q : Value × List Value → Shared → Prop} (h : Q (.builtin "bytes.join", [.bytes b t]) s) : wpAny M A (getMethod (.bytes b t) "join" pl) Q E s := by
  with_reducible exact KBd.method_of (.bytes b t) (typeIs_bytes _ _ _) slot_join type_join KBd.noRef h
theorem call_join {a : Addr} {vals : List Value} {kss : List (List Int)} {t : Tok} {n : Nat} {Q : Value → Shared → Prop} {o : Obj} (N : News h₀ L s.heap news) (hm : (a, o) ∈ news) (hc : o.cls = .type "list") (hd : o.data = .seq vals.toArray n) (hv : ByteVals vals kss) (hsz : kss.flatten.length ≤ 100000)
    (h : ∀ r t' k, KBw.bInts r = kss.flatten → Q (.bytes r t') { s with toks := k }) : wpAny (model prog w) A (call (.builtin "bytes.join") [.bytes #[] t, .ref a]) Q E s := by
  obtain ⟨cs, rfl, rfl⟩ := hv.arrays
  exact wpAny_call (codeAny_call_builtin slot_join.plain entry_join (slot_join.check _ _ _ _ _ _ _ _ (typeIs_bytes _ _ _) (args_join _ _) (run_join (N _ hm).1 hc hd hsz h)))
end
end Mine
namespace Mine
theorem ByteVals.snoc {vals : List Value} {kss : List (List Int)} {b : Array UInt8} {t : Tok} {ks : List Int} (x : ByteVals vals kss) (h : KBw.bInts b = ks) : ByteVals (vals ++ [.bytes b t]) (kss ++ [ks]) := by
  induction x with
  | nil => exact .cons h .nil
  | cons e _ ih => exact .cons e ih
end Mine
end

/-! Two tuples of dicts, compared. -/
section
open PySem PySem.W PyProof.Rows PySem.Calls PySem.SeqAt
set_option Elab.async false
set_option maxRecDepth 100000
set_option maxHeartbeats 2000000
namespace Mine
theorem anewDictEq : True := by
  w_top off
  trivial
theorem bInts_inj {b c : Array UInt8} (e : KBw.bInts b = KBw.bInts c) : b = c := by
  have h : ∀ x y : List UInt8, x.map (fun c => (c.toNat : Int)) = y.map (fun c => (c.toNat : Int)) → x = y := by
    intro x
    induction x with
    | nil => intro y e; cases y with | nil => rfl | cons _ _ => simp at e
    | cons a r ih =>
      intro y e
      cases y with
      | nil => simp at e
      | cons a' r' =>
        simp only [List.map_cons, List.cons.injEq] at e
        obtain ⟨e1, e2⟩ := e
        have : a = a' := UInt8.toNat_inj.mp (by omega)
        rw [this, ih _ e2]
  exact Array.toList_inj.mp (h _ _ e)
section
variable {A : Around} {s : Shared}
theorem at_bytes {b c : Array UInt8} {t u : Tok} (e : KBw.bInts b = KBw.bInts c) : EqAt A s (.bytes b t) (.bytes c u) true := fun prog w E Q h => by
  cases bInts_inj e
  unfold eqBool
  refine wpAny_holding ?_
  refine wpAny_ite_split (fun hab => ?_) (fun _ => ?_)
  · exact wpAny_bind (wpAny_rule (wpAny_pure h))
  · refine wpAny_bind (richCompare_gives (op := .Eq) (typeIs_bytes s b t) (typeIs_bytes s b u) FB.slot_bytes_eq FB.entry_bytes_eq (FB.args_bytes_eq_2 _ _) (gives_bytes_eq b b t u) (by simp [Made.takes]) ?_)
    exact wpAny_truthy_bool (by simpa using h)
theorem at_int {n : Int} {t u : Tok} : EqAt A s (.int n t) (.int n u) true := by
  have := EqAt.int_int (A := A) (s := s) n t n u
  simpa using this
end
section
variable {β : Type}
theorem put_keys (kvs : List (Str × β)) (k : Str) (v : β) (h : (kvs.map (·.1)).Nodup) : ((put kvs k v).map (·.1)).Nodup := by
  unfold put
  split
  · rw [List.map_map, show ((fun x : Str × β => x.1) ∘ fun kv : Str × β => if kv.1 = k then (kv.1, v) else kv) = (fun x => x.1) from by funext kv; simp only [Function.comp]; split <;> rfl]
    exact h
  · rename_i hk
    rw [List.map_append, List.nodup_append]
    refine ⟨h, by simp, fun a ha b hb e => ?_⟩
    simp only [List.map_cons, List.map_nil, List.mem_singleton] at hb
    subst hb e
    apply hk
    obtain ⟨kv, h1, h2⟩ := List.mem_map.mp ha
    exact List.any_eq_true.mpr ⟨kv, h1, by simp [h2]⟩
theorem due_nodup (vs : List Vec) : ((dueF vs).map (·.1)).Nodup ∧ ((dueP vs).map (·.1)).Nodup := by
  have h : ∀ (vs : List Vec) (s : List (Str × List Int) × List (Str × Int) × Int), (s.1.map (·.1)).Nodup → (s.2.1.map (·.1)).Nodup →
      (((vs.foldl (fun s v => (put s.1 (nameOf v.j) v.ks, put s.2.1 (nameOf v.j) s.2.2, s.2.2 + ((enc1 v).length : Int))) s).1.map (·.1)).Nodup ∧ ((vs.foldl (fun s v => (put s.1 (nameOf v.j) v.ks, put s.2.1 (nameOf v.j) s.2.2, s.2.2 + ((enc1 v).length : Int))) s).2.1.map (·.1)).Nodup) := by
    intro vs
    induction vs with
    | nil => intro s h1 h2; exact ⟨h1, h2⟩
    | cons v r ih => intro s h1 h2; exact ih _ (put_keys _ _ _ h1) (put_keys _ _ _ h2)
  exact h vs ([], [], 0) List.nodup_nil List.nodup_nil
end
section
variable {prog : Program} {w : World} {A : Around} {s : Shared} {β : Type} {P : Value → β → Prop}
theorem hits_of (hP : ∀ v u b, P v b → P u b → EqAt A s v u true) : ∀ {pre : List (Str × β)} {kp ka kb : List (Str × Value)} {suf : List (Str × β)}, Pair2 P kp pre → Pair2 P ka suf → Pair2 P kb suf → ((pre ++ suf).map (·.1)).Nodup → KeqHits A s (kp ++ kb) ka true := by
  intro pre kp ka kb suf hp ha
  induction ha generalizing pre kp kb with
  | nil => intro hb hn; exact .nil
  | @cons k v b r sf pv _ ih =>
    intro hb hn
    cases hb with
    | @cons _ u _ r' _ pu hr =>
      have hk : ∀ x ∈ kp, x.1 ≠ k := fun x hx e => by
        have : x.1 ∈ pre.map (·.1) := by rw [← hp.keys]; exact List.mem_map_of_mem hx
        rw [List.map_append, List.nodup_append] at hn
        exact hn.2.2 _ this k (by simp) e
      have hv : valueAt (kp ++ (k, u) :: r') k = some u := by
        unfold valueAt
        rw [List.find?_append]
        have : kp.find? (fun kv => decide (kv.1 = k)) = none := List.find?_eq_none.mpr fun x hx => by simp [hk x hx]
        simp [this]
      have := ih (pre := pre ++ [(k, b)]) (kp := kp ++ [(k, u)]) (hp.snoc pu) hr (by simpa using hn)
      rw [List.append_assoc] at this
      exact .hit hv (hP _ _ _ pv pu) this
/-- equal, as this program in this world tells -/
def EqIn (prog : Program) (w : World) (A : Around) (s : Shared) (y x : Value) : Prop := ∀ (E : Value → Shared → Prop) (Q : Bool → Shared → Prop), Q true s → wpAny (model prog w) A (eqBool y x) Q E s
theorem dict_at {a b : Addr} {ka kb : List (Str × Value)} {L : List (Str × β)} (hP : ∀ v u b, P v b → P u b → EqAt A.in1 s v u true) (ha : (a == sysModules) = false) (hb : (b == sysModules) = false)
    (da : s.heap.DictOf (PySem.strKind prog w) a ka) (db : s.heap.DictOf (PySem.strKind prog w) b kb) (pa : Pair2 P ka L) (pb : Pair2 P kb L) (hn : (L.map (·.1)).Nodup) (hu : A.units < cLine) : EqIn prog w A s (.ref a) (.ref b) := by
  intro E Q hq
  unfold eqBool
  refine wpAny_holding ?_
  refine wpAny_ite_split (fun hab => wpAny_bind (wpAny_rule (wpAny_pure hq))) (fun _ => ?_)
  refine wpAny_bind ?_
  have hl : ka.length = kb.length := by rw [pa.length, pb.length]
  show wpAny (model prog w) A (compareOp .Eq (.ref a) (.ref b)) _ _ s
  refine keq_eq (knd := PySem.strKind prog w) ha hb da db hu (fun _ => hits_of hP .nil pa pb (by simpa using hn)) ?_
  rw [hl]
  exact wpAny_truthy_bool (by simpa using hq)
theorem run_tup_eq {l b : Addr} {x1 x2 y1 y2 : Value} {n n2 : Nat} {dd dd2 : Option Addr} {sl sl2 : Array (Option Value)} {E : Value → Shared → Prop} {Q : PySem.Fin → Shared → Prop}
    (hl : s.heap.get? l = some { cls := .type "tuple", dict := dd, data := .seq #[x1, x2] n, slots := sl }) (hb : s.heap.get? b = some { cls := .type "tuple", dict := dd2, data := .seq #[y1, y2] n2, slots := sl2 })
    (h1 : EqIn prog w A s x1 y1) (h2 : EqIn prog w A s x2 y2) (hq : Q (.done (.ret (.bool true))) s) : wpAny (model prog w) A (Builtin.«tuple.__eq__» ⟨[.ref l, .ref b], []⟩) Q E s := by
  obtain ⟨hp, g, d, tk, os⟩ := s
  have f2 := AutoSeq1.sub_tuple_tuple
  wp_walk using wpAny_loadPart' hl, wpAny_loadPart' hb, wpAny_forIn_list _ (fun rest b s' => b.1 = none ∧ s' = ⟨hp, g, d, tk, os⟩ ∧ (rest = [(x1, y1), (x2, y2)] ∨ rest = [(x2, y2)] ∨ rest = [])) _
  case turn =>
    rintro ⟨x, y⟩ rest b s' ⟨hb', rfl, hz⟩
    rcases hz with hz | hz | hz
    · cases hz
      refine wpAny_bind (h1 _ _ ?_)
      exact wpAny_ite (KBy.ite_no (by decide) (wpAny_pure ⟨rfl, rfl, .inr (.inl rfl)⟩))
    · cases hz
      refine wpAny_bind (h2 _ _ ?_)
      exact wpAny_ite (KBy.ite_no (by decide) (wpAny_pure ⟨rfl, rfl, .inr (.inr rfl)⟩))
    · cases hz
  case fin =>
    rintro ⟨b1, b2⟩ s' ⟨hb', rfl, -⟩
    simp only at hb'
    subst hb'
    exact wpAny_pure (by simpa [Builtin.Tuple.tupleCompareSizes] using hq)
  case h => exact ⟨rfl, rfl, .inl rfl⟩
theorem run_tup_ne {l b : Addr} {x1 x2 y1 y2 : Value} {n n2 : Nat} {dd dd2 : Option Addr} {sl sl2 : Array (Option Value)} {E : Value → Shared → Prop} {Q : PySem.Fin → Shared → Prop}
    (hl : s.heap.get? l = some { cls := .type "tuple", dict := dd, data := .seq #[x1, x2] n, slots := sl }) (hb : s.heap.get? b = some { cls := .type "tuple", dict := dd2, data := .seq #[y1, y2] n2, slots := sl2 })
    (h1 : EqIn prog w A s x1 y1) (h2 : EqIn prog w A s x2 y2) (hq : Q (.done (.ret (.bool false))) s) : wpAny (model prog w) A (Builtin.«tuple.__ne__» ⟨[.ref l, .ref b], []⟩) Q E s := by
  obtain ⟨hp, g, d, tk, os⟩ := s
  have f2 := AutoSeq1.sub_tuple_tuple
  wp_walk using wpAny_loadPart' hl, wpAny_loadPart' hb, wpAny_forIn_list _ (fun rest b s' => b.1 = none ∧ s' = ⟨hp, g, d, tk, os⟩ ∧ (rest = [(x1, y1), (x2, y2)] ∨ rest = [(x2, y2)] ∨ rest = [])) _
  case turn =>
    rintro ⟨x, y⟩ rest b s' ⟨hb', rfl, hz⟩
    rcases hz with hz | hz | hz
    · cases hz
      refine wpAny_bind (h1 _ _ ?_)
      exact wpAny_ite (KBy.ite_no (by decide) (wpAny_pure ⟨rfl, rfl, .inr (.inl rfl)⟩))
    · cases hz
      refine wpAny_bind (h2 _ _ ?_)
      exact wpAny_ite (KBy.ite_no (by decide) (wpAny_pure ⟨rfl, rfl, .inr (.inr rfl)⟩))
    · cases hz
  case fin =>
    rintro ⟨b1, b2⟩ s' ⟨hb', rfl, -⟩
    simp only at hb'
    subst hb'
    exact wpAny_pure (by simpa [Builtin.Tuple.tupleCompareSizes] using hq)
  case h => exact ⟨rfl, rfl, .inl rfl⟩
theorem tup_eq {l b : Addr} {x1 x2 y1 y2 : Value} {n n2 : Nat} {E : Value → Shared → Prop} {Q : Value → Shared → Prop} (hl : s.heap.get? l = some { cls := .type "tuple", data := .seq #[x1, x2] n }) (hb : s.heap.get? b = some { cls := .type "tuple", data := .seq #[y1, y2] n2 }) (hu : A.units < cLine)
    (h1 : EqIn prog w A.in1 s x1 y1) (h2 : EqIn prog w A.in1 s x2 y2) (hq : Q (.bool true) s) : wpAny (model prog w) A (compareOp .Eq (.ref l) (.ref b)) Q E s :=
  wpAny_richCompare_same_room (op := .Eq) ⟨_, hl, rfl⟩ ⟨_, hb, rfl⟩ PySem.F.slot_tuple_eq (wpAny_call_entry PySem.F.slot_tuple_eq ⟨_, hl, rfl⟩ PySem.F.entry_tuple_eq (run_tup_eq hl hb h1 h2 ⟨_, rfl, (fun x => nomatch x), hq⟩) (PySem.F.args_tuple_eq_2 _ _)) hu
theorem tup_ne {l b : Addr} {x1 x2 y1 y2 : Value} {n n2 : Nat} {E : Value → Shared → Prop} {Q : Value → Shared → Prop} (hl : s.heap.get? l = some { cls := .type "tuple", data := .seq #[x1, x2] n }) (hb : s.heap.get? b = some { cls := .type "tuple", data := .seq #[y1, y2] n2 }) (hu : A.units < cLine)
    (h1 : EqIn prog w A.in1 s x1 y1) (h2 : EqIn prog w A.in1 s x2 y2) (hq : Q (.bool false) s) : wpAny (model prog w) A (compareOp .NotEq (.ref l) (.ref b)) Q E s :=
  wpAny_richCompare_same_room (op := .NotEq) ⟨_, hl, rfl⟩ ⟨_, hb, rfl⟩ PySem.F.slot_tuple_ne (wpAny_call_entry PySem.F.slot_tuple_ne ⟨_, hl, rfl⟩ PySem.F.entry_tuple_ne (run_tup_ne hl hb h1 h2 ⟨_, rfl, (fun x => nomatch x), hq⟩) (PySem.F.args_tuple_ne_2 _ _)) hu
end
end Mine
namespace Mine
section
variable {prog : Program} {w : World} {A : Around} {s : Shared} {vs : List Vec} {h₀ : Heap} {L : Addr} {news : List (Addr × Obj)} {t t' d1 d2 e1 e2 : Addr} {n n' : Nat} {o1 o2 p1 p2 : Obj} {kvF kvP kwF kwP : List (Str × Value)} {E : Value → Shared → Prop} {Q : Value → Shared → Prop}
/-- what a heap holds of the two dicts that are due -/
structure Parts (prog : Program) (w : World) (vs : List Vec) (h : Heap) (d1 d2 : Addr) : Prop where
  ex : ∃ o1 o2 kvF kvP, h.get? d1 = some o1 ∧ h.get? d2 = some o2 ∧ (d1 == sysModules) = false ∧ (d2 == sysModules) = false ∧ o1.IsDictOf (PySem.strKind prog w) kvF ∧ o2.IsDictOf (PySem.strKind prog w) kvP ∧ Pair2 PB kvF (dueF vs) ∧ Pair2 PI kvP (dueP vs)
theorem Parts.of (N : News h₀ L s.heap news) (m1 : (d1, o1) ∈ news) (m2 : (d2, o2) ∈ news) (l1 : (d1 == sysModules) = false) (l2 : (d2 == sysModules) = false) (hF : o1.IsDictOf (PySem.strKind prog w) kvF) (hP : o2.IsDictOf (PySem.strKind prog w) kvP) (pF : Pair2 PB kvF (dueF vs)) (pP : Pair2 PI kvP (dueP vs)) : Parts prog w vs s.heap d1 d2 :=
  ⟨o1, o2, kvF, kvP, (N _ m1).1, (N _ m2).1, l1, l2, hF, hP, pF, pP⟩
theorem parts_at (X : Parts prog w vs s.heap d1 d2) (Y : Parts prog w vs s.heap e1 e2) (hu : A.units < cLine) : EqIn prog w A s (.ref d1) (.ref e1) ∧ EqIn prog w A s (.ref d2) (.ref e2) := by
  obtain ⟨o1, o2, kvF, kvP, g1, g2, l1, l2, hF, hP, pF, pP⟩ := X.ex
  obtain ⟨p1, p2, kwF, kwP, g3, g4, l3, l4, hF', hP', pF', pP'⟩ := Y.ex
  have mk : ∀ (a : Addr) (o : Obj) (kvs : List (Str × Value)), s.heap.get? a = some o → o.IsDictOf (PySem.strKind prog w) kvs → s.heap.DictOf (PySem.strKind prog w) a kvs := fun a o kvs g d =>
    Heap.dictOf_iff.mpr ⟨o, g, d⟩
  refine ⟨dict_at (P := PB) (fun v u b h1 h2 => ?_) l1 l3 (mk _ _ _ g1 hF) (mk _ _ _ g3 hF') pF pF' (due_nodup vs).1 hu, dict_at (P := PI) (fun v u b h1 h2 => ?_) l2 l4 (mk _ _ _ g2 hP) (mk _ _ _ g4 hP') pP pP' (due_nodup vs).2 hu⟩
  · obtain ⟨b, t, rfl, hb⟩ := h1
    obtain ⟨c, u, rfl, hc⟩ := h2
    exact at_bytes (hb.trans hc.symm)
  · obtain ⟨t, rfl⟩ := h1
    obtain ⟨u, rfl⟩ := h2
    exact at_int
theorem parts_ne (N : News h₀ L s.heap news) (m1 : (t, ({ cls := .type "tuple", data := .seq #[.ref d1, .ref d2] n } : Obj)) ∈ news) (m2 : (t', ({ cls := .type "tuple", data := .seq #[.ref e1, .ref e2] n' } : Obj)) ∈ news) (X : Parts prog w vs s.heap d1 d2) (Y : Parts prog w vs s.heap e1 e2) (hu : A.units + 5 < cLine)
    (hq : Q (.bool false) s) (hin : A.in1.units < cLine) : wpAny (model prog w) A (compareOp .NotEq (.ref t) (.ref t')) Q E s :=
  tup_ne (N _ m1).1 (N _ m2).1 (by omega) (parts_at X Y hin).1 (parts_at X Y hin).2 hq
theorem parts_eq (N : News h₀ L s.heap news) (m1 : (t, ({ cls := .type "tuple", data := .seq #[.ref d1, .ref d2] n } : Obj)) ∈ news) (m2 : (t', ({ cls := .type "tuple", data := .seq #[.ref e1, .ref e2] n' } : Obj)) ∈ news) (X : Parts prog w vs s.heap d1 d2) (Y : Parts prog w vs s.heap e1 e2) (hu : A.units + 5 < cLine)
    (hq : Q (.bool true) s) (hin : A.in1.units < cLine) : wpAny (model prog w) A (compareOp .Eq (.ref t) (.ref t')) Q E s :=
  tup_eq (N _ m1).1 (N _ m2).1 (by omega) (parts_at X Y hin).1 (parts_at X Y hin).2 hq
end
end Mine
end

/-! _law_good. -/
section
open PySem PySem.W PyProof.Rows PySem.Calls
set_option Elab.async false
set_option maxRecDepth 100000
set_option maxHeartbeats 2000000
namespace Mine
theorem anewT9 : True := by
  w_top off
  trivial
local macro_rules | `(tactic| k_all) => `(tactic| assumption)
local macro_rules | `(tactic| k_all) => `(tactic| exact tn_ne (by assumption) (by omega))
local macro_rules | `(tactic| walk_at "getMethod bytes") => `(tactic| (k_here; (with_reducible refine method_join ?_)))
local macro_rules | `(tactic| walk_at "eval ListComp") => `(tactic| (k_here; refine halt ?_))
local macro_rules | `(tactic| walk_at "call ref") => `(tactic| (k_here; (with_reducible show wpAny _ _ (call (Value.ref 70) _) _ _ _); refine halt ?_))
local macro_rules | `(tactic| walk_at "call ref") => `(tactic| (k_here; (with_reducible show wpAny _ _ (call (Value.ref 81) _) _ _ _); refine halt ?_))
local macro_rules | `(tactic| walk_at "call ref") => `(tactic| (k_here; (with_reducible show wpAny _ _ (call (Value.ref 129) _) _ _ _); refine halt ?_))
local macro_rules | `(tactic| walk_at "storeName") => `(tactic| (k_here; (with_reducible show wpAny _ _ (storeName (compEnvC _ _ _ _) _ _) _ _ _); k_dflt (refine' comp_store ?F ?N ?U ?C ?_ ?a ?b; (case a => rfl); (case b => rfl); (case F => k_asm); (case N => k_asm); (case U => k_updF); (case C => assumption); k_whole); intro h8 oC8 F8 N8 C8; (try dsimp only at N8); (try k_sweep)))
local macro_rules | `(tactic| walk_at "eval Name") => `(tactic| (k_here; (with_reducible show wpAny _ _ (eval (Expr.Name _ _) (compEnvC _ _ _ _)) _ _ _); k_dflt (refine' LCgL.ld_own ?N ?m ?C ?x ?_ ?a ?b ?c; (case b => rfl); (case a => rfl); (case c => decide); (case N => k_asm); (case m => k_mem); (case C => assumption); (case x => rfl); k_whole)))
local macro_rules | `(tactic| walk_at "call builtin:bytes.join") => `(tactic| (k_here; k_dflt (refine' call_join ?N ?m ?c ?d ?v ?z ?_; (case N => k_asm); (case m => k_mem); (case c => rfl); (case d => rfl); (case v => assumption); (case z => exact Nat.le_trans (by assumption) (by omega))); intro r8 t8 k8 i8; (try dsimp only)))
local macro_rules | `(tactic| walk_at "compareOp NotEq ref ref") => `(tactic| (k_here; k_dflt (refine' parts_ne (prog := _) (w := _) (vs := _) ?N ?m1 ?m2 (Parts.of ?N1 ?q1 ?q2 ?q3 ?q4 ?q5 ?q6 ?q7 ?q8) (Parts.of ?N2 ?r1 ?r2 ?r3 ?r4 ?r5 ?r6 ?r7 ?r8) ?u ?_ ?v; (case N => k_asm); (case m1 => k_mem); (case m2 => k_mem); (case N1 => k_asm); (case N2 => k_asm); (case q1 => k_mem); (case q2 => k_mem); (case r1 => k_mem); (case r2 => k_mem); (case q3 => assumption); (case q4 => assumption); (case r3 => assumption); (case r4 => assumption); (case q5 => assumption); (case q6 => assumption); (case r5 => assumption); (case r6 => assumption); (case q7 => assumption); (case q8 => assumption); (case r7 => assumption); (case r8 => assumption); (case u => (dsimp only [ATop, Around.deeper]; omega)); (case v => (dsimp only [ATop, Around.deeper, Around.in1]; omega)))))
local macro_rules | `(tactic| walk_at "compareOp Eq ref ref") => `(tactic| (k_here; k_dflt (refine' parts_eq (prog := _) (w := _) (vs := _) ?N ?m1 ?m2 (Parts.of ?N1 ?q1 ?q2 ?q3 ?q4 ?q5 ?q6 ?q7 ?q8) (Parts.of ?N2 ?r1 ?r2 ?r3 ?r4 ?r5 ?r6 ?r7 ?r8) ?u ?_ ?v; (case N => k_asm); (case m1 => k_mem); (case m2 => k_mem); (case N1 => k_asm); (case N2 => k_asm); (case q1 => k_mem); (case q2 => k_mem); (case r1 => k_mem); (case r2 => k_mem); (case q3 => assumption); (case q4 => assumption); (case r3 => assumption); (case r4 => assumption); (case q5 => assumption); (case q6 => assumption); (case r5 => assumption); (case r6 => assumption); (case q7 => assumption); (case q8 => assumption); (case r7 => assumption); (case r8 => assumption); (case u => (dsimp only [ATop, Around.deeper]; omega)); (case v => (dsimp only [ATop, Around.deeper, Around.in1]; omega)))))
theorem good_N {prog : Program} {w : World} {b : Array UInt8} {t : Tok} {R : Addr} {vs : List Vec} (hb : KBw.bInts b = enc vs) (hvs : VsOk vs) : TelN prog w 134 [.bytes b t, .ref R] [] 9 120 (fun g => RowsAt g R vs) (fun _ _ r _ => r = .bool true) := by
  intro dp un gd outer A₀ base s p loose mean mg mb RR tn htn NT B X T X₀ hdp hun hrows hret
  refine' code_enterT (K := hd.heap_39 _) NT X T ?k6 ?k7 ?k8 ?k9 ?kB ?_ ?c2 ?c3 ?c4 ?c5
  case k6 => k_is
  case k7 => k_is
  case k8 => dsimp only [ATop]; omega
  case k9 => first | exact BindsTo.of_eq rfl | exact binds_K (X.keeps hid_stays) rfl (by k_is) rfl rfl rfl
  case kB => exact locs rfl
  case c2 => exact rfl
  case c3 => exact rfl
  case c4 => exact rfl
  case c5 => decide
  intro L' h' F' N'
  (try dsimp only)
  all_goals try k_fold
  have hsz := enc_le vs fun v hv => (hvs.2 v hv).2
  have hvl := hvs.1
  have hszf : (vs.map enc1).flatten.length ≤ 303 * vs.length := hsz
  k_steps
  refine Halt.go ?_
  refine (due_tel prog w R vs).useZ (A₀ := A₀) B (by k_asm) X N' T rfl (by dsimp only [ATop, Around.deeper]; omega) (by dsimp only [ATop, Around.deeper]; omega) ⟨?rows, by omega⟩ fun r9 h9 tk9 F9 N9 mk9 po9 => ?_
  case rows =>
    obtain ⟨its, ⟨o, e, c, r⟩, hr⟩ := hrows
    exact ⟨its, ⟨o, F'.keep _ _ e, c, r⟩, hr.keeps F'.keep⟩
  obtain ⟨t9, d1, d2, o1, o2, kvF, kvP, n9, rfl, z9, lo1, lo2, hF, hP, pF, pP⟩ := po9
  have N10 := (mk9 _ z9).1
  have off10 := (mk9 _ z9).2
  clear N9 mk9 z9
  simp only [List.cons_append, List.nil_append] at N10
  try dsimp only
  try k_sweep
  k_steps
  refine Halt.go ?_
  refine comp_eval rfl rfl (by decide) ?_
  k_steps
  obtain ⟨its, ⟨lo, hlo, hlc, nl, hld⟩, hr⟩ := hrows
  have hil := hr.length
  (with_reducible rename News (hid s.heap tn) _ _ _ => N11)
  refine' compgo_list (m := ?m) (news := ?news) (fun i ys nw => nw = ?news ∧ ByteVals ys ((vs.take i).map enc1)) rfl rfl hlc hld (.inl hlo) (by rw [sizeLine_eq]; omega) (by decide) rfl ?F N11 ⟨rfl, .nil⟩ ?turn ?hRR
  case F => k_asm
  case turn =>
    rintro i v ys I oI C oC D m₂ nw h tk E' hv ⟨rfl, hys⟩ hC F₂ N₂ offn ⟨ne1, ne2, ne3⟩
    have hi : i < vs.length := by rw [← hil]; exact (List.getElem?_eq_some_iff.mp hv).1
    obtain ⟨a, o, q1, q2, q3⟩ := hr.get (List.getElem?_eq_getElem hi)
    rw [hv] at q1; cases q1
    obtain ⟨t1, b1, t2, c1, t3, n3, rfl, hb1, hc1, hj1, hk1⟩ := q3
    have hT : IsTup h a #[.str (nameOf vs[i].j) t1, .bytes b1 t2, .bytes c1 t3] := ⟨_, F₂.keep _ _ q2, rfl, n3, rfl⟩
    replace N₂ := news_in N₂
    simp only [List.cons_append, List.nil_append] at N₂
    have offn' := offn
    obtain ⟨⟨a1, a2, a3⟩, offn⟩ := List.forall_mem_cons.mp offn
    obtain ⟨⟨a4, a5, a6⟩, offn⟩ := List.forall_mem_cons.mp offn
    obtain ⟨⟨a7, a8, a9⟩, offn⟩ := List.forall_mem_cons.mp offn
    have offC : ∀ q ∈ tn, q.1 ≠ C := fun q hq => (offn q hq).2.1
    replace ne1 := neN ne1
    replace ne3 := neN ne3
    replace a2 := neN a2
    replace a5 := neN a5
    replace a8 := neN a8
    k_sweep
    k_steps
    refine cend_of (by k_asm) (by assumption) (by k_asm) offn' ⟨rfl, ?_⟩
    rw [take_next hi, List.map_append]
    exact hys.snoc hc1
  case hRR =>
    rintro D C h tk m' ys nw hM ⟨rfl, hys⟩
    refine made_eval hM fun h' F₂ N₂ offn => ?_
    rw [hil, List.take_length] at hys
    try dsimp only
    try k_sweep
    k_steps
    · exfalso
      have e := bInts_inj ((by assumption : KBw.bInts _ = (vs.map enc1).flatten).trans (show _ = KBw.bInts b from hb.symm))
      have q := (by assumption : (_ != _) = true)
      rw [e] at q
      simp at q
    refine call_meth (by k_asm) (by k_mem) ?_
    (with_reducible rename News (hid s.heap tn) _ _ _ => N12)
    refine parse_use (news := [_, _, _, _, _]) (kw := []) (fun s X => parse_binds1 X) rfl rfl rfl B (by k_asm) X N12 T X₀ htn ?off1 (by dsimp only [ATop, Around.deeper]; omega) (by dsimp only [ATop, Around.deeper]; omega) hb hvs ?_
    case off1 =>
      (rename (_ < _ ∧ _) => l9)
      exact off_cons (allLt_mem l9.2.2.2.2) (off_cons (fun z hz => offn z (.tail _ (.tail _ (.tail _ hz)))) (off_cons (fun z hz => (off10 _ (.head _) z hz).symm) (off_cons (fun z hz => (off10 _ (.tail _ (.head _)) z hz).symm) (off_cons (fun z hz => (off10 _ (.tail _ (.tail _ (.head _))) z hz).symm) off_nil))))
    intro t8 e1 e2 p1 p2 kwF kwP n8 h8 tk8 tn8 F8 N8 htn8 a1 a2 a3 l3 l4 hF2 hP2 pF2 pP2
    simp only [List.cons_append, List.nil_append] at N8
    try dsimp only
    try k_sweep
    k_steps
    refine call_meth (by k_asm) (by k_mem) ?_
    (with_reducible rename News (hid s.heap tn) _ _ _ => N13)
    refine parse_use (news := [_, _, _, _, _, _, _, _, _]) (kw := []) (fun s X => parse_binds2 X) rfl rfl rfl B (by k_asm) X N13 T X₀ htn8 ?off2 (by dsimp only [ATop, Around.deeper]; omega) (by dsimp only [ATop, Around.deeper]; omega) hb hvs ?_
    case off2 =>
      (rename (_ < _ ∧ _) => l9)
      exact off_cons (allLt_mem l9.2.2.2.2.2.2.2.2) (off_cons (fun z hz => (a1 z hz).1) (off_cons (fun z hz => (a1 z hz).2.2) (off_cons (fun z hz => (a1 z hz).2.1) a2)))
    intro t7 f1 f2 q1 q2 kuF kuP n7 h7 tk7 tn7 F7 N7 htn7 b1 b2 b3 l5 l6 hF3 hP3 pF3 pP3
    simp only [List.cons_append, List.nil_append] at N7
    try dsimp only
    try k_sweep
    k_steps
    refine call_meth (by k_asm) (by k_mem) ?_
    (with_reducible rename News (hid s.heap tn) _ _ _ => N14)
    refine (from_raw_N hb hvs).use (news := [_, _, _, _, _, _, _, _, _, _, _, _, _]) rfl rfl rfl B (by k_asm) X N14 T X₀ htn7 ?off3 (by dsimp only [ATop, Around.deeper]; omega) (by dsimp only [ATop, Around.deeper]; omega) (fun _ _ _ => trivial) fun g6 r6 h6 tk6 tn6 Fg6 Ng6 st6 F6 mk6 htn6 po6 => ?_
    case off3 =>
      (rename (_ < _ ∧ _) => l9)
      exact off_cons (allLt_mem l9.2.2.2.2.2.2.2.2.2.2.2.2) (off_cons (fun z hz => (b1 z hz).1) (off_cons (fun z hz => (b1 z hz).2.2) (off_cons (fun z hz => (b1 z hz).2.1) b2)))
    rcases po6 with ⟨hz, rfl⟩ | ⟨hne, x, dx, f1, f2, p5, p6, kvF6, kvP6, k5, k6, rfl, h36, l7, l8, hF6, hP6, pF6, pP6⟩
    · have N6 := (mk6 [] (fun _ hq => nomatch hq)).1
      simp only [List.cons_append, List.nil_append] at N6
      have hb0 : b = #[] := bInts_inj (by rw [hb, hz]; rfl)
      try dsimp only
      try k_sweep
      k_steps
      · try dsimp only
        (with_reducible rename News (hid s.heap tn) _ _ _ => N15)
        refine hret _ _ _ tn6 (stays_fr (by assumption)) htn6 (fun q hq => ?_) rfl
        have z := N15 q (by repeat (first | exact hq | refine List.Mem.tail _ ?_))
        exact ⟨z.1, z.2.2⟩
      · exfalso
        rename (_ == _) = false => q
        rw [hb0] at q
        simp at q
    · have N6 := (mk6 _ h36).1
      have hb0 : b.toList ≠ [] := fun e => hne (enc_zero (by rw [← hb]; simp [KBw.bInts, e]))
      simp only [List.cons_append, List.nil_append] at N6
      try dsimp only
      try k_sweep
      k_steps
      · exfalso
        rename (_ == _) = true => q
        exact hb0 (by simpa using q)
      · try dsimp only
        (with_reducible rename News (hid s.heap tn) _ _ _ => N15)
        refine hret _ _ _ tn6 (stays_fr (by assumption)) htn6 (fun q hq => ?_) rfl
        have z := N15 q (by repeat (first | exact hq | refine List.Mem.tail _ ?_))
        exact ⟨z.1, z.2.2⟩
end Mine
end

/-! _law_read. -/
section
open PySem PySem.W PyProof.Rows PySem.Calls
set_option Elab.async false
set_option maxRecDepth 100000
set_option maxHeartbeats 2000000
namespace Mine
theorem anewT10 : True := by
  w_top off
  trivial
section
variable {A₀ : Around} {base g G B g₅ h₅ : Heap} {env : Env} {outer : List Env} {L : Addr} {m : Str → Option Value}
theorem ground_of (hf : env.frame = some L) (K : Below A₀ base outer g) (F : Fr g L G m) (hBG : ∀ b o, G.get? b = some o → b ∉ (env :: outer).filterMap (·.frame) → B.get? b = some o) (hBh : B.StaysIn h₅) (hsm : G.UpToSlots h₅) :
    ∃ g', KtsTurn (outer.filterMap (·.frame)) g g' ∧ Fr g' L h₅ m ∧ Below A₀ base outer g' :=
  kts_ground (name := Str.empty) (scope := default) (a := 0) (cd := .none) K F (fun b o e nm => hBG b o e fun hm => nm ((mem_frames (env := envOf Str.empty default L 0 .none) rfl).mpr ((mem_frames hf).mp hm))) hBh hsm
theorem turn_slots {fs : List Addr} (T : KtsTurn fs G g₅) (st : g₅.StaysIn h₅) : G.UpToSlots h₅ := fun b o e _ => by
  obtain ⟨sl, q⟩ := T.up e
  exact ⟨sl, st _ _ q⟩
theorem base_fly (K : Below A₀ base outer g) (hB : ∀ b o, g.get? b = some o → b ∉ outer.filterMap (·.frame) → B.get? b = some o) : base.StaysIn B := fun b o e => hB b o (K.stays b o e) fun hm => by
  rw [(K.frames.mem hm).1] at e; cases e
end
theorem post_down {prog : Program} {w : World} {vs : List Vec} {g g₀ h' : Heap} {tn' : List (Addr × Obj)} {r : Value} (st : g₀.StaysIn g) (x : ParsePost prog w vs g tn' r h') : ParsePost prog w vs g₀ tn' r h' := by
  obtain ⟨t, d1, d2, o1, o2, kvF, kvP, n, h1, h2, h3, h4⟩ := x
  exact ⟨t, d1, d2, o1, o2, kvF, kvP, n, h1, h2, fun p hp => ⟨(h3 p hp).1, fresh_of_stays st (h3 p hp).2⟩, h4⟩
section
variable {prog : Program} {w : World} {A₀ : Around} {s : Shared} {h₀ base : Heap} {outer : List Env} {p : Program} {loose : List Str} {mean : ExcName → Option Value} {mg mb : Str → Option Value}
/-- parse, called in a frame, with all that it may do -/
theorem parse_full {args : List Value} {kw : List (Str × Value)} {b : Array UInt8} {t : Tok} {po st : Bool} {vs : List Vec} {cs : Option (Vec × List Int)} {L : Addr} {m : Str → Option Value} {A : Around} {env : Env} {dp un : Nat} {gd : Option (List Code)} {tn : List (Addr × Obj)} {R : Result → Shared → Prop}
    (hbind : ∀ (s : Shared), (hd.heap_39 w.params).In s.heap → ∀ fd : FuncData, (∃ oc od osl, (hd.heap_39 w.params).lookup 70 = some ⟨oc, od, .func fd, osl⟩) → BindsTo s fd ⟨args, kw⟩ (parseBinds b t po st)) (hA : A = ATop dp un gd (env :: outer)) (hf : env.frame = some L) (hk : env.scope.kind = .function)
    (B : Below A₀ base outer h₀) (F : Fr h₀ L s.heap m) (X : (hd.heap_39 w.params).In h₀) (N : News h₀ L s.heap tn) (T : Top p loose mean mg mb h₀) (X₀ : Root w p loose mean mg mb base)
    (htn : TnOk parsPos parsQual tn) (hd : dp + 5 < recursionLimit) (hu : un + 60 < cLine) (hb : KBw.bInts b = enc vs ++ cutOf cs) (hvs : VsOk vs) (hcs : CsOk st cs)
    (hret : ∀ g' r h' tk' tn', (cs = none ∨ po = true) → (st = true → ∀ v ∈ vs, v.j < 6) → KtsTurn (outer.filterMap (·.frame)) h₀ g' → g'.StaysIn h' → ParsePost prog w vs h₀ tn' r h' → R (.ok (.ret r)) { s with heap := h', toks := tk' })
    (hexc : ∀ C e h' tk' B' a0 tn', ((C = 37 ∧ st = true ∧ ∃ v ∈ vs, 6 ≤ v.j) ∨ (C = 24 ∧ cs ≠ none ∧ po = false)) → Heap.FlyingW B' (env :: outer) e (.ref C) a0 h' → base.StaysIn B' → TnOk parsPos parsQual tn' →
      (∀ h₅, B'.StaysIn h₅ → h'.UpToSlots h₅ → ∃ g', KtsTurn (outer.filterMap (·.frame)) h₀ g' ∧ Fr g' L h₅ m ∧ Below A₀ base outer g' ∧ ∀ q ∈ tn', h₅.get? q.1 = some q.2 ∧ h₀.get? q.1 = none) → R (.error (.ref e)) { s with heap := h', toks := tk' }) :
    codeAny (model prog w) A (.call (.ref 70) ⟨args, kw⟩) R s := by
  subst hA
  obtain ⟨FG, BG, stG, _⟩ := groundX (R := fun _ _ => True) (A := ATop dp un gd (env :: outer)) (env := env) B F N rfl hf hk
  have fly : ∀ C e h' tk', ((C = 37 ∧ st = true ∧ ∃ v ∈ vs, 6 ≤ v.j) ∨ (C = 24 ∧ cs ≠ none ∧ po = false)) → FlyPost (hid s.heap tn) (env :: outer) C e h' → R (.error (.ref e)) { s with heap := h', toks := tk' } := by
    rintro C e h' tk' hc ⟨B', a0, tn', hfl, hu', hB, htn', hN⟩
    refine hexc C e h' tk' B' a0 tn' hc hfl (base_fly BG hB) htn' fun h₅ hB5 hu5 => ?_
    obtain ⟨g', T', F', K'⟩ := ground_of hf B FG hB hB5 (hu'.trans hu5)
    exact ⟨g', T', F', K', fun q hq => ⟨hB5 _ _ (hN q hq).1, fresh_of_stays stG (hN q hq).2⟩⟩
  refine parse_tel (A₀ := A₀) htn (fun q hq => (N q hq).1) (X.keeps stG) (T.keeps stG) BG hd hu X₀ (hbind s ((X.keeps stG).keeps hid_stays)) hb hvs hcs (fun g₅ r h' tk' tn' c1 c2 Tt _ st' po' => ?_) (fun e h' tk' q1 q2 f => fly 37 e h' tk' (.inl ⟨rfl, q1, q2⟩) f) (fun e h' tk' q1 q2 f => fly 24 e h' tk' (.inr ⟨rfl, q1, q2⟩) f)
  obtain ⟨g', T', F', K'⟩ := ground_of hf B FG (B := g₅) (fun b o e nm => Tt.other b o e nm) st' (turn_slots Tt st')
  exact hret g' r h' tk' tn' c1 c2 T' F'.keep (post_down stG po')
end
/-- what _law_read answers -/
def ReadPost (prog : Program) (w : World) (st po : Bool) (vs : List Vec) (cs : Option (Vec × List Int)) (g : Heap) (tn' : List (Addr × Obj)) (r : Value) (h' : Heap) : Prop :=
  ((st = true → ∀ v ∈ vs, v.j < 6) ∧ (cs = none ∨ po = true) ∧ ParsePost prog w vs g tn' r h') ∨ (st = true ∧ (∃ v ∈ vs, 6 ≤ v.j) ∧ ∃ t, r = .str (Str.ofString "unknown") t) ∨ (cs ≠ none ∧ po = false ∧ ∃ t, r = .str (Str.ofString "malformed") t)
local macro_rules | `(tactic| k_all) => `(tactic| assumption)
local macro_rules | `(tactic| k_all) => `(tactic| exact tn_ne (by assumption) (by omega))
local macro_rules | `(tactic| walk_at "exec Try") => `(tactic| (k_here; refine wpAny_Try_except ?_))
theorem read_tel {prog : Program} {w : World} {dp un : Nat} {gd : Option (List Code)} {outer : List Env} {A₀ : Around} {base : Heap} {s : Shared} {p : Program} {loose : List Str} {mean : ExcName → Option Value} {mg mb : Str → Option Value} {tn : List (Addr × Obj)} {R : Result → Shared → Prop}
   {b : Array UInt8} {t : Tok} {po st : Bool} {vs : List Vec} {cs : Option (Vec × List Int)}
   (htn : TnOk parsPos parsQual tn) (NT : ∀ q ∈ tn, s.heap.get? q.1 = some q.2) (X : (hd.heap_39 w.params).In (hid s.heap tn)) (T : Top p loose mean mg mb (hid s.heap tn)) (B : Below A₀ base outer (hid s.heap tn))
   (hdp : dp + 7 < recursionLimit) (hun : un + 90 < cLine) (X₀ : Root w p loose mean mg mb base) (hb : KBw.bInts b = enc vs ++ cutOf cs) (hvs : VsOk vs) (hcs : CsOk st cs)
   (hret : ∀ g₅ r h' tk' tn', KtsTurn (outer.filterMap (·.frame)) (hid s.heap tn) g₅ → g₅.StaysIn h' → TnOk parsPos parsQual tn' → (∀ q ∈ tn', h'.get? q.1 = some q.2 ∧ (hid s.heap tn).get? q.1 = none) → ReadPost prog w st po vs cs (hid s.heap tn) tn' r h' → R (.ok (.ret r)) { s with heap := h', toks := tk' }) :
   codeAny (model prog w) (ATop dp un gd outer) (.call (.ref 141) ⟨[.bytes b t, .bool po, .bool st], []⟩) R s := by
  refine' code_enterT (K := hd.heap_39 _) NT X T ?k6 ?k7 ?k8 ?k9 ?kB ?_ ?c2 ?c3 ?c4 ?c5
  case k6 => k_is
  case k7 => k_is
  case k8 => dsimp only [ATop]; omega
  case k9 => exact BindsTo.of_eq rfl
  case kB => exact locs rfl
  case c2 => exact rfl
  case c3 => exact rfl
  case c4 => exact rfl
  case c5 => decide
  intro L' h' F' N'
  (try dsimp only)
  all_goals try k_fold
  k_steps
  refine call_meth (by k_asm) (by k_mem) ?_
  (with_reducible rename News _ _ _ _ => N1)
  refine parse_full (kw := []) (fun s X => parse_binds3 X) rfl rfl rfl B (by k_asm) X (news_tl N1) T X₀ htn (by dsimp only [ATop, Around.deeper]; omega) (by dsimp only [ATop, Around.deeper]; omega) hb hvs hcs ?_ ?_
  · intro g' r h' tk' tn' c1 c2 T' st' po'
    have po'' := po'
    obtain ⟨_, _, _, _, _, _, _, _, _, h2, h3, _⟩ := po''
    exact hret g' r h' tk' tn' T' st' h2 (fun q hq => h3 q (List.mem_append_right _ hq)) (.inl ⟨c2, c1, po'⟩)
  · intro C e h' tk' B' a0 tn' hc hfl hBb htn' land
    have XB := X₀.x.keeps hBb
    have NB := X₀.t.g.keeps hBb
    try dsimp only
    refine comes_to rfl rfl hfl fun h7 hfl7 u7 => ?_
    rcases hc with ⟨rfl, q1, q2⟩ | ⟨rfl, q1, q2⟩
    · refine clause_hit hfl7 XB (by kernel_rfl) NB (mg_of X T.g (by k_is)) (fun h8 hfl8 u8 => ?_) (by passes_own)
      obtain ⟨g5, K5, F5, B5, N5⟩ := land h8 hfl8.1 (u7.trans u8)
      have X5 := X₀.x.keeps B5.stays
      have T5 := X₀.t.keeps B5.stays
      try dsimp only
      k_steps
      try dsimp only
      exact hret g5 _ h8 _ tn' K5 F5.keep htn' N5 (.inr (.inl ⟨q1, q2, _, rfl⟩))
    · refine clause_miss (D := 37) hfl7 XB (by kernel_rfl) (by kernel_rfl) (by kernel_rfl) NB (mg_of X T.g (by k_is)) ?_
      refine clause_hit hfl7 XB (by kernel_rfl) NB (mg_of X T.g (by k_is)) (fun h8 hfl8 u8 => ?_) (by passes_own)
      obtain ⟨g5, K5, F5, B5, N5⟩ := land h8 hfl8.1 (u7.trans u8)
      have X5 := X₀.x.keeps B5.stays
      have T5 := X₀.t.keeps B5.stays
      try dsimp only
      k_steps
      try dsimp only
      exact hret g5 _ h8 _ tn' K5 F5.keep htn' N5 (.inr (.inr ⟨q1, q2, _, rfl⟩))
end Mine
end

/-! A for over a dict's items. -/
section
open PySem PySem.W PyProof.Rows PySem.Calls
set_option Elab.async false
set_option maxRecDepth 100000
set_option maxHeartbeats 4000000
namespace Mine
theorem anewLoops2 : True := by
  w_top off
  trivial
section
variable {prog : Program} {w : World} {A : Around} {E : Value → Shared → Prop} {s : Shared} {env : Env} {h₀ : Heap} {body : List Stmt} {Q : Flow → Shared → Prop} {K : Type} [DecidableEq K] {knd : KeyKind prog w K}
/-- a for over the items of a dict that lies in the base -/
theorem turns_items {elts : List PySem.Expr} {kk : Nat} {pos : Pos} {L d vw : Addr} {od : Obj} {kvs : List (K × Value)} {ep : Nat} {m₀ : Str → Option Value} {news : List (Addr × Obj)} (J : Nat → (Str → Option Value) → List (Addr × Obj) → Prop)
    (hLe : env.locals = L) (hh : A.handled = none) (hd : h₀.get? d = some od) (hat : s.heap.DictAt knd d kvs ep) (hvw : ∃ ov, s.heap.get? vw = some ov ∧ ov.cls = .type "dict_items" ∧ ov.data = .fields #[.ref d])
    (F : Fr h₀ L s.heap m₀) (N : News h₀ L s.heap news) (h0 : J 0 m₀ news)
    (turn : ∀ i T key k x I oI m₁ news₁ h tk, kvs[i]? = some (k, x) → knd.is k key = true → IsTup h T #[key, x] → J i m₁ news₁ → (∀ p ∈ news₁, p.1 ≠ I) → Fr h₀ L h m₁ → News h₀ L h (news₁ ++ [(I, oI)]) →
      wpAny (model prog w) A (assign (.Tuple elts kk pos) env (.ref T)) (fun _ s₃ => wpAny (model prog w) A (execs body env) (TurnEnd h₀ L (J (i + 1)) I oI { s with heap := h, toks := tk } Q) E s₃) E { s with heap := h, toks := tk })
    (done : ∀ m₁ news₁ h tk, J kvs.length m₁ news₁ → Fr h₀ L h m₁ → News h₀ L h news₁ → Q .next { s with heap := h, toks := tk }) :
    wpAny (model prog w) A (pyIter (.ref vw)) (fun it s₂ => TurnsAt prog w A h₀ env (.Tuple elts kk pos) body Q E it s₂) E s := by
  subst hLe
  have hne : d ≠ s.heap.objs.size := Nat.ne_of_lt hat.lt_size
  have hdL : d ≠ env.locals := by
    intro e
    exact absurd (Nat.lt_of_lt_of_le (Heap.lt_size hd) F.above) (by rw [e]; exact Nat.lt_irrefl _)
  refine wpAny_pyIter_items hvw hat ?_
  refine ⟨_, _, _, _, _, _, _, m₀, news, J, rfl, kti_itemsTurns (knd := knd) hh s.heap.objs.size d hne kvs ep, ?_, ?_, ?_, ⟨⟨.none, .none, Heap.get?_push_size _ rfl⟩, hat.push _⟩, F.push _, (fun p hp => ⟨Heap.get?_push_of_some _ (N p hp).1, (N p hp).2⟩), h0, ?_, ?_⟩
  · intro hm
    rcases List.mem_cons.mp hm with e | hm
    · exact absurd F.ns.lt (e ▸ Nat.lt_irrefl _)
    · exact hdL (List.mem_singleton.mp hm).symm
  · intro b hb
    rw [List.mem_singleton.mp hb]
    exact next_is_new F
  · intro p hp hI
    exact absurd (Heap.lt_size (N p hp).1) ((List.mem_singleton.mp hI) ▸ Nat.lt_irrefl _)
  · intro i v m₁ news₁ h₁ tk₁ own hin hP hJ hoff hfp hatt hall st F₁ N₁
    obtain ⟨T, key, k, x, rfl, hkv, hk, hT⟩ := hP
    obtain ⟨⟨ok, ov, hoI'⟩, _⟩ := st
    obtain ⟨oI, hoI⟩ : ∃ o, h₁.get? s.heap.objs.size = some o := ⟨_, hoI'⟩
    clear hoI'
    have hI₀ : h₀.get? s.heap.objs.size = none := next_is_new F
    have hIL : s.heap.objs.size ≠ env.locals := Nat.ne_of_gt F.ns.lt
    have hoff' : ∀ p ∈ news₁, p.1 ≠ s.heap.objs.size := fun p hp e => hoff p hp (by rw [e]; exact List.mem_singleton.mpr rfl)
    refine wpAny_mono (turn i T key k x s.heap.objs.size oI m₁ news₁ h₁ tk₁ hkv hk hT hJ hoff' F₁ (fun p hp => ?_)) (fun _ s₃ h₃ => wpAny_mono h₃ (fun f s₄ h₄ => ?_) fun _ _ e => e) fun _ _ e => e
    · rcases List.mem_append.mp hp with hp | hp
      · exact N₁ p (List.mem_append_right _ hp)
      · rw [List.mem_singleton.mp hp]; exact ⟨hoI, hIL, hI₀⟩
    · have fin : (∃ h' tk m' nx, s₄ = { ({ s with heap := h₁, toks := tk₁ } : Shared) with heap := h', toks := tk } ∧ Fr h₀ env.locals h' m' ∧ News h₀ env.locals h' (nx ++ [(s.heap.objs.size, oI)]) ∧ (∀ p ∈ nx, p.1 ≠ s.heap.objs.size) ∧ J (i + 1) m' nx) →
          LoopStepU h₀ env.locals [s.heap.objs.size] own (J (i + 1)) { s with heap := h₁, toks := tk₁ } .next s₄ := by
        rintro ⟨h', tk, m', nx, e, F', N', hnI, hJ'⟩
        refine ⟨rfl, h', tk, m', nx, e, F', fun p hp => ?_, fun p hp hm => hnI p hp (List.mem_singleton.mp hm), hJ'⟩
        rcases List.mem_append.mp hp with hp | hp
        · have z := N₁ p (List.mem_append_left _ hp)
          refine ⟨?_, z.2⟩
          rcases List.mem_cons.mp (hfp p hp) with e1 | e1
          · have q := (N' (s.heap.objs.size, oI) (List.mem_append_right _ (.head _))).1
            rw [e1]
            have := z.1
            rw [e1, hoI] at this
            rw [← Option.some.inj this]
            exact q
          · have e2 : p.1 = d := List.mem_singleton.mp e1
            have := z.2.2; rw [e2, hd] at this; cases this
        · exact N' p (List.mem_append_left _ hp)
      cases f with
      | ret v => exact h₄
      | brk => exact h₄
      | next => exact fin h₄
      | cont => exact fin h₄
  · intro h' tk m' news' F' N' _ hJ
    exact done m' news' h' tk hJ F' N'
end
end Mine
end

/-! name_to_num. -/
section
open PySem PySem.W PyProof.Rows PySem.Calls
set_option Elab.async false
set_option maxRecDepth 100000
set_option maxHeartbeats 2000000
namespace Mine
local macro_rules | `(tactic| walk_at "nothing") => `(tactic| skip)
theorem anewT11 : True := by
  w_top off
  trivial
section
variable {prog : Program} {w : World} {A : Around} {E : Value → Shared → Prop} {s : Shared} {h₀ : Heap} {L d : Addr} {m : Str → Option Value} {news : List (Addr × Obj)} {K : Type} [DecidableEq K] {knd : PySem.KeyKind prog w K} {kvs : List (K × Value)}
theorem items_view {Q : Value → Shared → Prop} (F : Fr h₀ L s.heap m) (N : News h₀ L s.heap news) (hD : s.heap.DictOf knd d kvs) (lo : (d == sysModules) = false)
    (h : ∀ D h', Fr h₀ L h' m → News h₀ L h' ((D, { cls := .type "dict_items", data := .fields #[.ref d] }) :: news) → (∀ p ∈ news, p.1 < D) → Q (.ref D) { s with heap := h' }) : wpAny (model prog w) A (call (.builtin "dict.items") [.ref d]) Q E s :=
  call_meetsIn PySem.F.slot_dict_items hD.typeIs PySem.F.entry_dict_items (PySem.F.args_dict_items_1 _) (meets_dict_items knd d lo) ⟨⟨kvs, hD⟩, h _ _ (F.push _) (News.push F N _) fun q hq => Heap.lt_size (N q hq).1⟩
end
def NumJ (D : Addr) (o : Obj) (j : Nat) (m₀ : Str → Option Value) (i : Nat) (m : Str → Option Value) (nw : List (Addr × Obj)) : Prop :=
  (∃ u1 u2, m = fun z => if z = Str.ofString "v" then u2 else if z = Str.ofString "k" then u1 else m₀ z) ∧ nw = [(D, o)] ∧ ∀ i', i' < i → nameOf j ≠ nm12 i'
theorem num_start {D : Addr} {o : Obj} {j : Nat} {m₀ : Str → Option Value} : NumJ D o j m₀ 0 m₀ [(D, o)] := by
  refine ⟨⟨m₀ (Str.ofString "k"), m₀ (Str.ofString "v"), ?_⟩, rfl, fun _ h => absurd h (Nat.not_lt_zero _)⟩
  funext z
  by_cases e1 : z = Str.ofString "v"
  · rw [if_pos e1, e1]
  by_cases e2 : z = Str.ofString "k"
  · rw [if_neg e1, if_pos e2, e2]
  · rw [if_neg e1, if_neg e2]
theorem num_next {D : Addr} {o : Obj} {j i : Nat} {m₀ m' : Str → Option Value} (hs : ∀ z, z ≠ Str.ofString "v" → z ≠ Str.ofString "k" → m' z = m₀ z) (hno : ∀ i', i' < i → nameOf j ≠ nm12 i') (h : nameOf j ≠ nm12 i) : NumJ D o j m₀ (i + 1) m' [(D, o)] := by
  refine ⟨⟨m' (Str.ofString "k"), m' (Str.ofString "v"), ?_⟩, rfl, fun i' hi => ?_⟩
  · funext z
    by_cases e1 : z = Str.ofString "v"
    · rw [if_pos e1, e1]
    by_cases e2 : z = Str.ofString "k"
    · rw [if_neg e1, if_pos e2, e2]
    · rw [if_neg e1, if_neg e2]; exact hs z e1 e2
  · rcases Nat.lt_or_ge i' i with q | q
    · exact hno i' q
    · have : i' = i := by omega
      rw [this]; exact h
/-- what a call of f, by way of a bound method, tells -/
def TelC (prog : Program) (w : World) (f : Addr) (args : List Value) (d u : Nat) (Pre : Heap → Prop) (Post : Heap → Value → Heap → Prop) : Prop :=
  ∀ (dp un : Nat) (gd : Option (List Code)) (outer : List Env) (A₀ : Around) (base : Heap) (s : Shared) (p : Program) (loose : List Str) (mean : ExcName → Option Value) (mg mb : Str → Option Value) (R : Result → Shared → Prop),
    Below A₀ base outer s.heap → (hd.heap_39 w.params).In s.heap → Top p loose mean mg mb s.heap → dp + d < recursionLimit → un + u < cLine → Pre s.heap →
    (∀ r h' tk', s.heap.StaysIn h' → Post s.heap r h' → R (.ok (.ret r)) { s with heap := h', toks := tk' }) →
    codeAny (model prog w) (ATop dp un gd outer) (.call (.ref f) ⟨args, []⟩) R s
section
variable {prog : Program} {w : World} {A₀ : Around} {s : Shared} {h₀ base : Heap} {outer : List Env} {p : Program} {loose : List Str} {mean : ExcName → Option Value} {mg mb : Str → Option Value}
theorem TelC.use {f : Addr} {args : List Value} {d u : Nat} {Pre : Heap → Prop} {Post : Heap → Value → Heap → Prop} {L a : Addr} {m : Str → Option Value} {cn : Str} {cs : Scope} {ccd : Value} {cl : List (Str × Addr)} {dp un : Nat} {gd : Option (List Code)} {news : List (Addr × Obj)}
    {R : Result → Shared → Prop}
    (C : TelC prog w f args d u Pre Post) (B : Below A₀ base outer h₀) (F : Fr h₀ L s.heap m) (X : (hd.heap_39 w.params).In h₀) (N : News h₀ L s.heap news) (T : Top p loose mean mg mb h₀) (hk : cs.kind = .function)
    (hd : dp + d < recursionLimit) (hu : un + u < cLine) (pre : Pre s.heap)
    (ret : ∀ r h' tk', Fr h₀ L h' m → News h₀ L h' news → Post s.heap r h' → R (.ok (.ret r)) { s with heap := h', toks := tk' }) :
    codeAny (model prog w) (ktrTop dp un gd cn cs L a ccd cl outer) (.call (.ref f) ⟨args, []⟩) R s :=
  C _ _ _ _ _ _ _ _ _ _ _ _ _ (pushX (env := envX cn cs L a ccd cl) (A := A₀) B F rfl hk) (X.keeps F.keep) (T.keeps F.keep) hd hu pre
    fun r h' tk' st po => ret r h' tk' (fr_stays F st) (news_stays N st) po
end
local macro_rules | `(tactic| walk_at "eval Attribute Name") => `(tactic| (k_here; (with_reducible show wpAny _ _ (eval (Expr.Attribute _ (PySem.Str.ofString "PP2_TYPENAME") _) _) _ _ _); refine Attribute_Name_ ?_))
theorem num_code (prog : Program) (w : World) (j : Nat) (hj : j < 8) (t : Tok) : TelC prog w 91 [.ref 97, .str (nameOf j) t] 3 20 (fun _ => True) (fun _ r _ => if j < 6 then ∃ t', r = .int (kindOf j) t' else r = .none) := by
  unfold TelC
  intro dp un gd outer A₀ base s p loose mean mg mb R B X T hdp hu hpre hret
  (refine' code_enter (K := hd.heap_39 _) ?k3 ?k5 ?k6 ?k7 ?k8 ?k9 ?kB ?_ ?c2 ?c3 ?c4 ?c5; (case k3 => assumption); (case k5 => assumption); (case k6 => k_is); (case k7 => k_is); (case k8 => (dsimp only [ATop]; omega)); (case k9 => first | exact BindsTo.of_eq rfl | exact binds_K (by assumption) rfl (by k_is) rfl rfl rfl); (case c5 => decide); (case kB => exact locs rfl); (case c2 => exact rfl); (case c3 => exact rfl); (case c4 => exact rfl); intro L' h' F' N'; (try dsimp only); (try k_fold))
  k_steps
  have T48 := pp2_in X prog w
  (rename Fr _ _ _ _ => lF')
  (with_unfolding_all refine' For_turns lF' ?_)
  k_steps
  (rename IntTab _ _ _ _ _ => T48)
  obtain ⟨lo48, kvs, hD, hf⟩ := T48
  (with_reducible rename Fr _ _ _ _ => F1)
  (with_reducible rename News _ _ _ _ => N1)
  have hD1 := hD.keep F1.keep
  try dsimp only
  refine items_view (knd := intKind prog w) F1 N1 hD1 lo48 fun D h2 F2 N2 _ => ?_
  obtain ⟨ep, hat⟩ := (hD.keep F2.keep).dictAt
  obtain ⟨od, hod⟩ : ∃ o, s.heap.get? 48 = some o := by obtain ⟨o, _, _, e, _⟩ := hD; exact ⟨o, e⟩
  have hlen : kvs.length = 12 := hf.length.symm
  refine' turns_items (knd := intKind prog w) (NumJ D _ j _) rfl rfl hod hat ⟨_, (N2 _ (.head _)).1, rfl, rfl⟩ F2 N2 num_start ?turn ?done
  case turn =>
    rintro i T key k x I oI m₁ news₁ h tk hkv hk hT ⟨⟨u1, u2, rfl⟩, rfl, hno⟩ hI F₁ N₁
    have hi : i < 12 := by rw [← hlen]; exact (List.getElem?_eq_some_iff.mp hkv).1
    obtain ⟨dv, e1, e2⟩ := PyProof.V.FlatPairs.at hf hkv
    rw [pp2_at hi] at e1
    cases e1
    obtain ⟨t2, rfl⟩ := PyProof.V.Flat.str_inv e2
    obtain ⟨t1, rfl⟩ : ∃ t, key = .int (kd12 i) t := by
      have hk' := hk
      simp only [intKind] at hk'
      cases key <;> simp [Value.isInt] at hk'
      exact ⟨_, by rw [hk']⟩
    have hT' : IsTup h T #[.int (kd12 i) t1, .str (nm12 i) t2] := hT
    clear hT hk
    k_sweep
    k_steps
    · dsimp only [TurnEnd]
      have q : nameOf j = nm12 i := eq_of_beq (by assumption)
      have z := nm_hit hi hj q
      refine hret _ _ _ (stays_fr (by assumption)) ?_
      dsimp only
      rw [if_pos z.1, z.2]
      exact ⟨_, rfl⟩
    · refine ⟨_, _, _, [(_, _)], rfl, (by k_asm), (by k_asm), hI, num_next ?_ hno ?_⟩
      · intro z e1 e2
        simp only [if_neg e1, if_neg e2]
      · intro e
        have q : (nameOf j == nm12 i) = false := by assumption
        rw [e] at q
        simp at q
  case done =>
    rintro m₁ news₁ h tk ⟨⟨u1, u2, rfl⟩, rfl, hno⟩ F₁ N₁
    rw [hlen] at hno
    have h6 : ¬ j < 6 := fun q => by
      obtain ⟨i, hi, e⟩ := nm_has q
      exact hno i hi e
    k_sweep
    k_steps
    refine hret _ _ _ (stays_fr (by assumption)) ?_
    dsimp only
    rw [if_neg h6]
end Mine
end

/-! sorted of a dict of names. -/
section
open PySem PySem.W PyProof.Rows PySem.Calls
set_option Elab.async false
set_option maxRecDepth 100000
set_option maxHeartbeats 1000000
namespace Mine
theorem anewSorted : True := by
  w_top off
  trivial
section
variable {prog : Program} {w : World} {A : Around} {E : Value → Shared → Prop} {s : Shared} {h₀ : Heap} {L d : Addr} {m : Str → Option Value} {news : List (Addr × Obj)} {o : Obj} {kvs : List (Str × Value)} {Q : Value → Shared → Prop}
theorem strs_keys : ∀ {vs : List Value} {kvs : List (Str × Value)}, vs.length = kvs.length → (∀ (j : Nat) (v : Value), vs[j]? = some v → ∃ k x, kvs[j]? = some (k, x) ∧ (PySem.strKind prog w).is k v = true) → StrsAre vs (kvs.map (·.1))
  | [], [], _, _ => .nil
  | v :: vs, (k, x) :: kvs, hl, h => by
    obtain ⟨k', x', e, hk⟩ := h 0 v rfl
    simp at e
    obtain ⟨rfl, rfl⟩ := e
    obtain ⟨t, rfl⟩ : ∃ t, v = .str k t := Value.isStrOf_shape hk
    exact .cons k t (strs_keys (by simpa using hl) fun j v hv => h (j + 1) v (by simpa using hv))
  | [], _ :: _, hl, _ => by simp at hl
  | _ :: _, [], hl, _ => by simp at hl
/-- sorted(d) for an open dict with names for keys -/
theorem sorted_names (hh : A.handled = none) (F : Fr h₀ L s.heap m) (N : News h₀ L s.heap news) (hp : (d, o) ∈ news) (hd : o.IsDictOf (PySem.strKind prog w) kvs) (lo : (d == sysModules) = false) (hn : kvs.length < 64)
    (h : ∀ D h' tk vs' ss' e, Fr h₀ L h' m → News h₀ L h' ((D, listOf (List.toArray vs') e) :: news) → (∀ q ∈ news, q.1 < D) → StrsAre vs' ss' → ss'.Perm (kvs.map (·.1)) → Q (.ref D) { s with heap := h', toks := tk }) :
    wpAny (model prog w) A (call (.builtin "sorted") [.ref d]) Q E s := by
  obtain ⟨ep, hat⟩ := (kda_dict N hp hd).dictAt
  refine kdu_sorted (kdl_dict lo) hh F N hat (by rw [sizeLine_eq]; omega) fun D h' tk vs F' N' lt len hP => ?_
  have hS := strs_keys len hP
  have z := N' _ (.head _)
  refine wpAny_call_entry PyProof.Rows.slot_list_sort ⟨_, z.1, rfl⟩ PyProof.Rows.entry_list_sort (list_sort_treeK (n := 0) (vs := vs) PyProof.Rows.strKind_oneLt z.1 hS.keysOf (fun v₁ v₂ rest e => keyKind_strs (by rw [← e]; exact hS)) (by omega) fun st' hp hs => ⟨.none, rfl, ?_⟩) (PyProof.Rows.args_list_sort _)
  obtain ⟨ss', h1, h2, h3⟩ := sorted_out_str hS hp hs
  obtain ⟨c, hc⟩ := sortedHeap_at (vs := vs) (out := (arrOf st').map (·.2)) z.1
  have F4 : Fr h₀ L (sortedHeap h' D vs ((arrOf st').map (·.2))) m :=
    ksk_fr (((ksk_fr F' (Heap.SameBut.update h' D (Obj.mapSeq fun _ => #[])) z.2.1 z.2.2).push (seqObj "tuple" vs.toArray 0)).push (seqObj "list" #[] 0)) (Heap.SameBut.update _ D (Obj.mapSeq fun _ => ((arrOf st').map (·.2)))) z.2.1 z.2.2
  refine h D _ tk _ ss' c F4 (fun p hq => ?_) lt h1 h2
  rcases List.mem_cons.mp hq with rfl | hq
  · exact ⟨by rw [Array.toArray_toList]; exact hc, z.2⟩
  · have y := N' p (.tail _ hq)
    exact ⟨(sortedHeap_old (Nat.ne_of_lt (lt p hq)) (Heap.lt_size y.1)).trans y.1, y.2⟩
end
end Mine
end

/-! _law_read from the law's frame. -/
section
open PySem PySem.W PyProof.Rows PySem.Calls
set_option Elab.async false
set_option maxRecDepth 100000
set_option maxHeartbeats 1000000
namespace Mine
theorem anewReadU : True := by
  w_top off
  trivial
section
variable {prog : Program} {w : World} {A₀ : Around} {s : Shared} {h₀ base : Heap} {p : Program} {loose : List Str} {mean : ExcName → Option Value} {mg mb : Str → Option Value}
/-- _law_read, called in the law's own frame -/
theorem read_use {b : Array UInt8} {t : Tok} {po st : Bool} {vs : List Vec} {cs : Option (Vec × List Int)} {L : Addr} {m : Str → Option Value} {A : Around} {env : Env} {dp un : Nat} {gd : Option (List Code)} {news tn : List (Addr × Obj)} {Q E : Value → Shared → Prop}
    (hA : A = ATop dp un gd [env]) (hf : env.frame = some L) (hk : env.scope.kind = .function)
    (B : Below A₀ base [] h₀) (F : Fr h₀ L s.heap m) (X : (hd.heap_39 w.params).In h₀) (N : News h₀ L s.heap (news ++ tn)) (T : Top p loose mean mg mb h₀) (X₀ : Root w p loose mean mg mb base)
    (htn : TnOk parsPos parsQual tn) (off : ∀ q ∈ news, ∀ z ∈ tn, z.1 ≠ q.1) (hd : dp + 7 < recursionLimit) (hu : un + 90 < cLine) (hb : KBw.bInts b = enc vs ++ cutOf cs) (hvs : VsOk vs) (hcs : CsOk st cs)
    (ret : ∀ g r h' tk' tn', Fr h₀ L h' m → News h₀ L h' (news ++ tn') → (∀ tl, (∀ q ∈ tl, h'.get? q.1 = some q.2 ∧ g.get? q.1 = none) → News h₀ L h' (tl ++ news ++ tn') ∧ ∀ q ∈ tl, ∀ z ∈ news, q.1 ≠ z.1) → TnOk parsPos parsQual tn' → (∀ q ∈ news, ∀ z ∈ tn', z.1 ≠ q.1) → ReadPost prog w st po vs cs g tn' r h' → Q r { s with heap := h', toks := tk' }) :
    wpAny (model prog w) A (call (.ref 141) [.bytes b t, .bool po, .bool st]) Q E s := by
  subst hA
  have Nt : News h₀ L s.heap tn := fun q hq => N q (List.mem_append_right _ hq)
  obtain ⟨FG, BG, stG, _⟩ := groundX (R := fun _ _ => True) (A := ATop dp un gd [env]) (env := env) B F Nt rfl hf hk
  have NG : News h₀ L (hid s.heap tn) news := fun q hq => ⟨hid_get (N q (List.mem_append_left _ hq)).1 (fun z hz => off q hq z hz), (N q (List.mem_append_left _ hq)).2⟩
  refine wpAny_call ?_
  refine read_tel (A₀ := ATop dp un gd [env]) htn (fun q hq => (Nt q hq).1) (X.keeps stG) (T.keeps stG) BG hd hu X₀ hb hvs hcs fun g₅ r h' tk' tn' T5 st5 htn' hN' po => ?_
  obtain ⟨g', T', F', K'⟩ := ground_of hf B FG (B := g₅) (fun b o e nm => T5.other b o e nm) st5 (turn_slots T5 st5)
  have Fh : Fr h₀ L h' m := ⟨F'.ns, fun b o e => F'.keep b o (T'.other b o e (by simp)), by rw [← T'.size]; exact F'.above⟩
  have away : ∀ q : Addr × Obj, (hid s.heap tn).get? q.1 = none → q.1 ≠ L ∧ h₀.get? q.1 = none := fun q hq => by
    refine ⟨fun e => ?_, ?_⟩
    · obtain ⟨o, es, ep, ho, _⟩ := FG.ns
      rw [e, ho] at hq; cases hq
    · cases z : h₀.get? q.1 with
      | none => rfl
      | some o => rw [stG _ _ z] at hq; cases hq
  have NN : News h₀ L h' news := fun q hq => by
    have z := NG q hq
    refine ⟨st5 _ _ (T5.other _ _ z.1 ?_), z.2⟩
    simp [hf]
    exact z.2.1
  have NT' : News h₀ L h' tn' := fun q hq => ⟨(hN' q hq).1, away q (hN' q hq).2⟩
  have clash : ∀ q : Addr × Obj, (hid s.heap tn).get? q.1 = none → ∀ z ∈ news, q.1 ≠ z.1 := fun q hq z hz e => by
    have := (NG z hz).1
    rw [← e, hq] at this; cases this
  have app : ∀ {a b : List (Addr × Obj)}, News h₀ L h' a → News h₀ L h' b → News h₀ L h' (a ++ b) := fun x y q hq => (List.mem_append.mp hq).elim (x q) (y q)
  refine ret _ r h' tk' tn' Fh (app NN NT') (fun tl htl => ⟨app (app (fun q hq => ⟨(htl q hq).1, away q (htl q hq).2⟩) NN) NT', fun q hq => clash q (htl q hq).2⟩) htn' (fun q hq z hz => clash z (hN' z hz).2 q hq) po
end
end Mine
end

/-! A for over a range. -/
section
open PySem PySem.W PyProof.Rows PySem.Calls PyProof.Rows.LCg
set_option Elab.async false
set_option maxRecDepth 100000
set_option maxHeartbeats 4000000
namespace Mine
theorem anewLoops3 : True := by
  w_top off
  trivial
section
variable {prog : Program} {w : World} {A : Around} {E : Value → Shared → Prop} {s : Shared} {env : Env} {h₀ : Heap} {body : List Stmt} {Q : Flow → Shared → Prop}
/-- a for over a range, with an invariant -/
theorem turns_range {target : PySem.Expr} {L r : Addr} {a b : Int} {t u v : Tok} {n : Nat} {m₀ : Str → Option Value} {news : List (Addr × Obj)} (J : Nat → (Str → Option Value) → List (Addr × Obj) → Prop)
    (hLe : env.locals = L) (hlet : ∀ I v, letOwnedTupleGo target (.ref I) v = pure ()) (hh : A.handled = none) (hr : IsRange s.heap r a b 1 t u v) (hsm : Builtin.Range.small a b 1 = true) (hn : Builtin.Range.rangeSize a b 1 = ((n : Nat) : Int))
    (F : Fr h₀ L s.heap m₀) (N : News h₀ L s.heap news) (h0 : J 0 m₀ news)
    (turn : ∀ i ti I oI m₁ news₁ h tk, i < n → J i m₁ news₁ → (∀ p ∈ news₁, p.1 ≠ I) → Fr h₀ L h m₁ → News h₀ L h (news₁ ++ [(I, oI)]) →
      wpAny (model prog w) A (assign target env (.int (a + (i : Int)) ti)) (fun _ s₃ => wpAny (model prog w) A (execs body env) (TurnEnd h₀ L (J (i + 1)) I oI { s with heap := h, toks := tk } Q) E s₃) E { s with heap := h, toks := tk })
    (done : ∀ m₁ news₁ h tk, J n m₁ news₁ → Fr h₀ L h m₁ → News h₀ L h news₁ → Q .next { s with heap := h, toks := tk }) :
    wpAny (model prog w) A (pyIter (.ref r)) (fun it s₂ => TurnsAt prog w A h₀ env target body Q E it s₂) E s := by
  subst hLe
  refine wpAny_pyIter_range hr hsm ?_
  have W := range_walks (prog := prog) (w := w) (I := s.heap.objs.size) hh a n
  have T := KTurns.ofWalks (target := target) W (fun i v s' Q' E' st hq => wpAny_of_eq (hlet _ _) hq)
  refine ⟨_, _, _, _, _, _, _, m₀, news, J, rfl, T, ?_, ?_, ?_, (by show IsRangeIter _ _ _ _ _; rw [hn]; simpa using Heap.get?_push_size _ rfl), F.push _, (fun p hp => ⟨Heap.get?_push_of_some _ (N p hp).1, (N p hp).2⟩), h0, ?_, ?_⟩
  · intro hm
    exact absurd F.ns.lt ((List.mem_singleton.mp hm) ▸ Nat.lt_irrefl _)
  · intro b hb
    rw [List.mem_singleton.mp hb]
    exact next_is_new F
  · intro p hp hI
    exact absurd (Heap.lt_size (N p hp).1) ((List.mem_singleton.mp hI) ▸ Nat.lt_irrefl _)
  · intro i v m₁ news₁ h₁ tk₁ own hin hP hJ hoff hfp hat hall st F₁ N₁
    obtain ⟨ti, rfl⟩ := hP
    have hoI' : h₁.get? s.heap.objs.size = some _ := st
    obtain ⟨oI, hoI⟩ : ∃ o, h₁.get? s.heap.objs.size = some o := ⟨_, hoI'⟩
    clear hoI'
    have hI₀ : h₀.get? s.heap.objs.size = none := next_is_new F
    have hIL : s.heap.objs.size ≠ env.locals := Nat.ne_of_gt F.ns.lt
    have hoff' : ∀ p ∈ news₁, p.1 ≠ s.heap.objs.size := fun p hp e => hoff p hp (by rw [e]; exact List.mem_singleton.mpr rfl)
    refine wpAny_mono (turn i ti s.heap.objs.size oI m₁ news₁ h₁ tk₁ hin hJ hoff' F₁ (fun p hp => ?_)) (fun _ s₃ h₃ => wpAny_mono h₃ (fun f s₄ h₄ => ?_) fun _ _ e => e) fun _ _ e => e
    · rcases List.mem_append.mp hp with hp | hp
      · exact N₁ p (List.mem_append_right _ hp)
      · rw [List.mem_singleton.mp hp]; exact ⟨hoI, hIL, hI₀⟩
    · have fin : (∃ h' tk m' nx, s₄ = { ({ s with heap := h₁, toks := tk₁ } : Shared) with heap := h', toks := tk } ∧ Fr h₀ env.locals h' m' ∧ News h₀ env.locals h' (nx ++ [(s.heap.objs.size, oI)]) ∧ (∀ p ∈ nx, p.1 ≠ s.heap.objs.size) ∧ J (i + 1) m' nx) →
          LoopStepU h₀ env.locals [s.heap.objs.size] own (J (i + 1)) { s with heap := h₁, toks := tk₁ } .next s₄ := by
        rintro ⟨h', tk, m', nx, e, F', N', hnI, hJ'⟩
        refine ⟨rfl, h', tk, m', nx, e, F', fun p hp => ?_, fun p hp hm => hnI p hp (List.mem_singleton.mp hm), hJ'⟩
        rcases List.mem_append.mp hp with hp | hp
        · have z := N₁ p (List.mem_append_left _ hp)
          refine ⟨?_, z.2⟩
          have e1 : p.1 = s.heap.objs.size := List.mem_singleton.mp (hfp p hp)
          have q := (N' (s.heap.objs.size, oI) (List.mem_append_right _ (.head _))).1
          rw [e1]
          have := z.1
          rw [e1, hoI] at this
          rw [← Option.some.inj this]
          exact q
        · exact N' p (List.mem_append_left _ hp)
      cases f with
      | ret v => exact h₄
      | brk => exact h₄
      | next => exact fin h₄
      | cont => exact fin h₄
  · intro h' tk m' news' F' N' _ hJ
    exact done m' news' h' tk hJ F' N'
end
end Mine
end

/-! The list of rows, its tuples in a ledger. -/
section
open PySem PySem.W PyProof.Rows PySem.Calls
set_option Elab.async false
set_option maxRecDepth 100000
set_option maxHeartbeats 1000000
namespace Mine
theorem anewRowsL : True := by
  w_top off
  trivial
/-- the items of an open list of rows, the tuples in a ledger -/
inductive RowsL (objs : List (Addr × Obj)) : List Value → List Vec → Prop
  | nil : RowsL objs [] []
  | cons {a : Addr} {o : Obj} {v : Vec} {r : List Value} {vs : List Vec} : (a, o) ∈ objs → IsVec o v → RowsL objs r vs → RowsL objs (.ref a :: r) (v :: vs)
section
variable {objs objs' : List (Addr × Obj)} {its : List Value} {vs : List Vec}
theorem RowsL.mono (R : RowsL objs its vs) (k : ∀ p ∈ objs, p ∈ objs') : RowsL objs' its vs := by
  induction R with
  | nil => exact .nil
  | cons e i _ ih => exact .cons (k _ e) i ih
theorem RowsL.inn {h : Heap} (R : RowsL objs its vs) (N : ∀ p ∈ objs, h.get? p.1 = some p.2) : RowsIn h its vs := by
  induction R with
  | nil => exact .nil
  | cons e i _ ih => exact .cons (N _ e) i ih
theorem RowsL.length (R : RowsL objs its vs) : its.length = vs.length := by
  induction R with
  | nil => rfl
  | cons _ _ _ ih => simp [ih]
theorem RowsL.get (R : RowsL objs its vs) : ∀ {i : Nat} {v : Vec}, vs[i]? = some v → ∃ a o, its[i]? = some (.ref a) ∧ (a, o) ∈ objs ∧ IsVec o v := by
  induction R with
  | nil => intro i v e; simp at e
  | cons e i' _ ih =>
    intro i v hv
    cases i with
    | zero => simp at hv; subst hv; exact ⟨_, _, rfl, e, i'⟩
    | succ i => simp at hv; obtain ⟨a, o, h1, h2⟩ := ih hv; exact ⟨a, o, by simpa using h1, h2⟩
theorem RowsL.app {its' : List Value} {vs' : List Vec} (R : RowsL objs its vs) (R' : RowsL objs its' vs') : RowsL objs (its ++ its') (vs ++ vs') := by
  induction R with
  | nil => exact R'
  | cons e i _ ih => exact .cons e i ih
theorem RowsL.take (R : RowsL objs its vs) : ∀ n, RowsL objs (its.take n) (vs.take n) := by
  induction R with
  | nil => intro n; simp; exact .nil
  | cons e i _ ih =>
    intro n
    cases n with
    | zero => simp; exact .nil
    | succ n => simp; exact .cons e i (ih n)
theorem RowsL.drop (R : RowsL objs its vs) : ∀ n, RowsL objs (its.drop n) (vs.drop n) := by
  induction R with
  | nil => intro n; simp; exact .nil
  | cons e i R' ih =>
    intro n
    cases n with
    | zero => simp; exact .cons e i R'
    | succ n => simp; exact ih n
theorem RowsL.set {a : Addr} {o : Obj} {v : Vec} (R : RowsL objs its vs) (hm : (a, o) ∈ objs) (hv : IsVec o v) : ∀ n, RowsL objs (its.set n (.ref a)) (vs.set n v) := by
  induction R with
  | nil => intro n; simp; exact .nil
  | cons e i R' ih =>
    intro n
    cases n with
    | zero => simp; exact .cons hm hv R'
    | succ n => simp; exact .cons e i (ih n)
theorem RowsL.erase (R : RowsL objs its vs) : ∀ n, RowsL objs (its.eraseIdx n) (vs.eraseIdx n) := by
  induction R with
  | nil => intro n; simp; exact .nil
  | cons e i R' ih =>
    intro n
    cases n with
    | zero => simp; exact R'
    | succ n => simp; exact .cons e i (ih n)
end
end Mine
end

/-! The plain law: an edit of the octets is an edit of the vectors. -/
section
open PySem PySem.W PyProof.Rows PySem.Calls
set_option Elab.async false
set_option maxRecDepth 100000
set_option maxHeartbeats 1000000
namespace Mine
theorem anewEdits : True := by
  w_top off
  trivial
theorem enc_split {vs : List Vec} {k : Nat} (hk : k < vs.length) : enc vs = enc (vs.take k) ++ (enc1 vs[k] ++ enc (vs.drop (k + 1))) := by
  conv => lhs; rw [show vs = vs.take k ++ (vs[k] :: vs.drop (k + 1)) by rw [← List.drop_eq_getElem_cons hk]; exact (List.take_append_drop k vs).symm]
  rw [enc_app, enc_cons]
/-- the place where a vector begins -/
abbrev at0 (vs : List Vec) (k : Nat) : Nat := (enc (vs.take k)).length
theorem cut_ahead {vs : List Vec} {k : Nat} (hk : k < vs.length) : (enc vs).take (at0 vs k) = enc (vs.take k) := by
  rw [enc_split hk, List.take_left']; rfl
theorem cut_kind {vs : List Vec} {k : Nat} (hk : k < vs.length) : (enc vs).take (at0 vs k + 1) = enc (vs.take k) ++ [kindOf vs[k].j] := by
  rw [enc_split hk, List.take_length_add_append]
  simp [enc1]
theorem cut_behind {vs : List Vec} {k : Nat} (hk : k < vs.length) : (enc vs).drop (at0 vs k + 3 + vs[k].ks.length) = enc (vs.drop (k + 1)) := by
  rw [enc_split hk, show at0 vs k + 3 + vs[k].ks.length = (enc (vs.take k)).length + (enc1 vs[k]).length by rw [enc1_len]; simp only [at0]; omega, List.drop_length_add_append, List.drop_left']
  rfl
theorem cut_from {vs : List Vec} {k : Nat} (hk : k < vs.length) : (enc vs).drop (at0 vs k) = enc1 vs[k] ++ enc (vs.drop (k + 1)) := by
  rw [enc_split hk, List.drop_left']; rfl
theorem set_split {vs : List Vec} {k : Nat} (hk : k < vs.length) (v : Vec) : vs.set k v = vs.take k ++ v :: vs.drop (k + 1) := by
  rw [List.set_eq_take_append_cons_drop, if_pos hk]
/-- a value set anew -/
theorem edit_set {vs : List Vec} {k : Nat} (hk : k < vs.length) (ks : List Int) : (enc vs).take (at0 vs k + 1) ++ [(ks.length : Int) / 256, (ks.length : Int) % 256] ++ ks ++ (enc vs).drop (at0 vs k + 3 + vs[k].ks.length) = enc (vs.set k ⟨vs[k].j, ks⟩) := by
  rw [cut_kind hk, cut_behind hk, set_split hk, enc_app, enc_cons]
  simp [enc1]
/-- a vector cut out -/
theorem edit_cut {vs : List Vec} {k : Nat} (hk : k < vs.length) : (enc vs).take (at0 vs k) ++ (enc vs).drop (at0 vs k + 3 + vs[k].ks.length) = enc (vs.take k ++ vs.drop (k + 1)) := by
  rw [cut_ahead hk, cut_behind hk, enc_app]
/-- a vector laid ahead of one -/
theorem edit_ins {vs : List Vec} {k : Nat} (hk : k < vs.length) (v : Vec) : (enc vs).take (at0 vs k) ++ enc1 v ++ (enc vs).drop (at0 vs k) = enc (vs.take k ++ v :: vs.drop k) := by
  rw [cut_ahead hk, cut_from hk, enc_app, enc_cons, List.drop_eq_getElem_cons hk, enc_cons, List.append_assoc]
theorem head_set (v : Vec) (ks : List Int) : (enc1 v).take 1 ++ [(ks.length : Int) / 256, (ks.length : Int) % 256] ++ ks = enc1 ⟨v.j, ks⟩ := by
  simp [enc1]
theorem end_le {vs : List Vec} {k : Nat} (hk : k < vs.length) : at0 vs k + 3 + vs[k].ks.length ≤ (enc vs).length := by
  rw [enc_split hk, List.length_append, List.length_append, enc1_len]; simp only [at0]; omega
section
variable {β : Type}
def findAt (kvs : List (Str × β)) (x : Str) : Option β := (kvs.find? fun kv => decide (kv.1 = x)).map (·.2)
theorem find_map (kvs : List (Str × β)) (k x : Str) (v : β) : findAt (kvs.map fun kv => if kv.1 = k then (kv.1, v) else kv) x = if x = k then (findAt kvs x).map (fun _ => v) else findAt kvs x := by
  unfold findAt
  induction kvs with
  | nil => simp
  | cons kv r ih =>
    simp only [List.map_cons, List.find?_cons]
    by_cases h1 : kv.1 = x
    · by_cases h2 : kv.1 = k
      · have : x = k := h1.symm.trans h2
        simp [h1, this]
      · have : ¬ x = k := fun e => h2 (h1.trans e)
        simp [h2, h1, this]
    · by_cases h2 : kv.1 = k
      · have : ¬ k = x := fun e => h1 (h2.trans e)
        simp [h2, this]
        simpa using ih
      · simp [h2, h1]
        simpa using ih
theorem find_any (kvs : List (Str × β)) (k : Str) : (kvs.any fun kv => decide (kv.1 = k)) = (findAt kvs k).isSome := by
  unfold findAt
  induction kvs with
  | nil => simp
  | cons kv r ih =>
    simp only [List.any_cons, List.find?_cons]
    by_cases h : kv.1 = k
    · simp [h]
    · simp [h]
      simpa using ih
theorem find_put (kvs : List (Str × β)) (k x : Str) (v : β) : findAt (put kvs k v) x = if x = k then some v else findAt kvs x := by
  unfold put
  split
  · rename_i h
    rw [find_map]
    split
    · rename_i e
      subst e
      rw [find_any] at h
      obtain ⟨y, hy⟩ := Option.isSome_iff_exists.mp h
      rw [hy]; rfl
    · rfl
  · rename_i h
    unfold findAt
    rw [List.find?_append]
    by_cases e : x = k
    · subst e
      have : findAt kvs x = none := by
        rw [find_any] at h
        simpa using h
      unfold findAt at this
      simp only [Option.map_eq_none_iff] at this
      rw [this]; simp
    · have : ¬ k = x := fun q => e q.symm
      simp [this, e]
theorem mem_put (kvs : List (Str × β)) (k x : Str) (v : β) : x ∈ (put kvs k v).map (·.1) ↔ x = k ∨ x ∈ kvs.map (·.1) := by
  unfold put
  split
  · rename_i h
    rw [List.map_map, show ((fun x : Str × β => x.1) ∘ fun kv : Str × β => if kv.1 = k then (kv.1, v) else kv) = (fun x => x.1) from by funext kv; simp only [Function.comp]; split <;> rfl]
    refine ⟨.inr, fun q => q.elim (fun e => ?_) id⟩
    obtain ⟨kv, h1, h2⟩ := List.any_eq_true.mp h
    rw [e, ← of_decide_eq_true h2]
    exact List.mem_map_of_mem h1
  · simp [or_comm]
end
/-- what is due of a name: its last vector's value and place -/
theorem due_at_name (vs : List Vec) : ∀ x, x ∈ (dueF vs).map (·.1) → ∃ k, ∃ h : k < vs.length, nameOf vs[k].j = x ∧ (∀ i (hi : i < vs.length), k < i → nameOf vs[i].j ≠ x) ∧ findAt (dueF vs) x = some vs[k].ks ∧ findAt (dueP vs) x = some (at0 vs k : Int) := by
  obtain ⟨n, hn⟩ : ∃ n, n = vs.length := ⟨_, rfl⟩
  induction n generalizing vs with
  | zero =>
    have : vs = [] := List.eq_nil_of_length_eq_zero hn.symm
    subst this
    intro x hx
    exact absurd hx (by simp [dueF, dueS])
  | succ n ih =>
    obtain ⟨vs', v, rfl⟩ : ∃ l v, vs = l ++ [v] := ⟨vs.dropLast, vs.getLast (by intro e; rw [e] at hn; cases hn), (List.dropLast_concat_getLast _).symm⟩
    have hl : vs'.length = n := by simp at hn; omega
    intro x hx
    rw [dueF_snoc, mem_put] at hx
    rw [dueF_snoc, dueP_snoc, find_put, find_put]
    by_cases e : x = nameOf v.j
    · subst e
      refine ⟨vs'.length, by simp, by simp, fun i hi h => ?_, by simp, by simp [at0]⟩
      simp at hi; omega
    · rw [if_neg e, if_neg e]
      obtain ⟨k, hk, h1, h2, h3, h4⟩ := ih vs' hl.symm x (hx.resolve_left e)
      refine ⟨k, by simp; omega, by rw [List.getElem_append_left hk]; exact h1, fun i hi hki => ?_, by rw [List.getElem_append_left hk]; exact h3, ?_⟩
      · by_cases hi' : i < vs'.length
        · rw [List.getElem_append_left hi']; exact h2 i hi' hki
        · have : i = vs'.length := by simp at hi; omega
          subst this
          simp
          exact fun q => e q.symm
      · rw [h4]
        simp only [at0]
        rw [List.take_append_of_le_length (by omega)]
theorem due_names (vs : List Vec) (h : ∀ v ∈ vs, v.j < 8) : ∀ x ∈ (dueF vs).map (·.1), ∃ j, j < 8 ∧ x = nameOf j := fun x hx => by
  obtain ⟨k, hk, h1, _⟩ := due_at_name vs x hx
  exact ⟨vs[k].j, h _ (List.getElem_mem hk), h1.symm⟩
theorem due_some (vs : List Vec) (hne : vs ≠ []) : (dueF vs).map (·.1) ≠ [] := fun e => by
  obtain ⟨vs', v, rfl⟩ : ∃ l v, vs = l ++ [v] := ⟨vs.dropLast, vs.getLast hne, (List.dropLast_concat_getLast _).symm⟩
  have : nameOf v.j ∈ (dueF (vs' ++ [v])).map (·.1) := by rw [dueF_snoc, mem_put]; exact .inl rfl
  rw [e] at this; cases this
end Mine
end

/-! The law's own text and frame. -/
section
open PySem PySem.W PyProof.Rows PySem.Calls
set_option Elab.async false
set_option maxRecDepth 100000
set_option maxHeartbeats 2000000
namespace Mine
theorem anewLawD : True := by
  w_top off
  trivial
def lawParts : Scope × List Stmt := match PySem.Challenge.pw_bb0011_01.main.body.getLast? with
  | some (.FunctionDef _ _ body _ _ _ scope _ _ _) => (scope, body)
  | _ => default
def lawScope : Scope := lawParts.1
def lawBody : List Stmt := lawParts.2
def lawFor : List Stmt := match lawBody with
  | [_, _, _, .For _ _ b _ _, _, _, _, _, _, _, _] => b
  | _ => []
abbrev lawEnv (L : Addr) : Env := envOfC (Str.ofString "law") lawScope L 146 (.ref 145)

/-- the law's frame between two statements: the rows, their octets, the ledger -/
structure LawAt (L l R : Addr) (vs : List Vec) (b : Array UInt8) (its : List Value) (objs tn : List (Addr × Obj)) (o1 o2 o3 : Obj) (v1 : Option Value) : Prop where
  hb : KBw.bInts b = enc vs
  ok : ∀ v ∈ vs, v.j < 8 ∧ v.ks.length ≤ 300
  d1 : o1.data = .cell v1
  d2 : o2.data = .cell (some (.ref R))
  d3 : o3.data = .cell (some (.ref l))
  rows : RowsL objs its vs
  htn : TnOk parsPos parsQual tn
  cR : @Ne Nat R (L + 1) ∧ @Ne Nat R (L + 1 + 1) ∧ @Ne Nat R (L + 1 + 1 + 1)
  cells : ∀ q ∈ objs ++ tn, @Ne Nat q.1 (L + 1) ∧ @Ne Nat q.1 (L + 1 + 1) ∧ @Ne Nat q.1 (L + 1 + 1 + 1) ∧ @Ne Nat q.1 R
  off : ∀ q ∈ objs, ∀ z ∈ tn, z.1 ≠ q.1
abbrev lawLed (L R : Addr) (its : List Value) (nR : Nat) (objs tn : List (Addr × Obj)) (o1 o2 o3 : Obj) : List (Addr × Obj) :=
  (L + 1 + 1 + 1, o1) :: (L + 1 + 1, o2) :: (L + 1, o3) :: (R, W.listOf its.toArray nR) :: (objs ++ tn)
theorem news_sub {h₀ h : Heap} {L : Addr} {l l' : List (Addr × Obj)} (N : News h₀ L h l) (k : ∀ q ∈ l', q ∈ l) : News h₀ L h l' := fun q hq => N q (k q hq)
end Mine
end

/-! The rows' list: what its methods do. -/
section
open PySem PySem.W PyProof.Rows PySem.Calls
set_option Elab.async false
set_option maxRecDepth 100000
set_option maxHeartbeats 1000000
namespace Mine
theorem anewLawL : True := by
  w_top off
  trivial
section
variable {prog : Program} {w : World} {A : Around} {E : Value → Shared → Prop} {s : Shared} {h₀ : Heap} {L R : Addr} {m : Str → Option Value} {news news' : List (Addr × Obj)} {its : List Value} {n : Nat} {value slice : PySem.Expr}
theorem rows_append {x : Value} {Q : Value → Shared → Prop} (F : Fr h₀ L s.heap m) (N : News h₀ L s.heap news) (U : Upd R (W.listOf its.toArray n) (W.listOf (its ++ [x]).toArray (n + 1)) news news') (hz : its.length ≤ 1000)
    (h : ∀ h', Fr h₀ L h' m → News h₀ L h' news' → Q .none { s with heap := h' }) : wpAny (model prog w) A (call (.builtin "list.append") [.ref R, x]) Q E s :=
  append_K F N (by rw [List.push_toArray]; exact U) h (by rw [List.size_toArray, sizeLine_eq]; omega)
theorem rows_insert {k : Nat} {x : Int} {u : Tok} {y : Value} {Q : Value → Shared → Prop} (F : Fr h₀ L s.heap m) (N : News h₀ L s.heap news) (hx : x = (k : Int)) (hk : k ≤ its.length) (U : Upd R (W.listOf its.toArray n) (W.listOf (its.take k ++ y :: its.drop k).toArray (n + 1)) news news') (hz : its.length ≤ 1000)
    (h : ∀ h', Fr h₀ L h' m → News h₀ L h' news' → Q .none { s with heap := h' }) : wpAny (model prog w) A (call (.builtin "list.insert") [.ref R, .int x u, y]) Q E s := by
  subst hx
  refine kl_insert F N ?_ ?_ U (by rw [sizeLine_eq]; simpa using (by omega)) h
  · simp only [Builtin.List.listFitsIndex, Bool.and_eq_true, decide_eq_true_eq]; omega
  · unfold kl_ins
    have : (if ((k : Int) < 0) then ((k : Int) + (its.length : Int)).toNat else min (k : Int).toNat its.length) = k := by rw [if_neg (by omega)]; omega
    simp only [this]
theorem kl_cut_at : ∀ (l : List Value) (k : Nat) (h : k < l.length), kl_cut l k = some (l.take k, l[k], l.drop (k + 1))
  | [], _, h => absurd h (Nat.not_lt_zero _)
  | x :: r, 0, _ => rfl
  | x :: r, k + 1, h => by
    simp only [kl_cut]
    rw [kl_cut_at r k (by simpa using h)]
    rfl
theorem rows_pop {k : Nat} {x : Int} {u : Tok} {Q : Value → Shared → Prop} (F : Fr h₀ L s.heap m) (N : News h₀ L s.heap news) (hx : x = (k : Int)) (hk : k < its.length) (U : Upd R (W.listOf its.toArray n) (W.listOf (its.take k ++ its.drop (k + 1)).toArray (n + 1)) news news') (hz : its.length ≤ 1000)
    (h : ∀ h', Fr h₀ L h' m → News h₀ L h' news' → Q its[k] { s with heap := h' }) : wpAny (model prog w) A (call (.builtin "list.pop") [.ref R, .int x u]) Q E s := by
  subst hx
  refine kl_popAt (k := k) F N ?_ ?_ (kl_cut_at its k hk) U (by rw [sizeLine_eq]; simpa using (by omega)) h
  · simp only [Builtin.List.listFitsIndex, Bool.and_eq_true, decide_eq_true_eq]; omega
  · have h1 : ¬ ((k : Int) < 0) := by omega
    have h2 : (k : Int) < its.length := by omega
    simp [seqIndex?, h1, hk]
theorem rows_set {k : Nat} {x : Int} {u : Tok} {y : Value} {Q : Unit → Shared → Prop} (F : Fr h₀ L s.heap m) (N : News h₀ L s.heap news) (hx : x = (k : Int)) (hk : k < its.length) (U : Upd R (W.listOf its.toArray n) (W.listOf (its.set k y).toArray n) news news') (hz : its.length ≤ 1000)
    (h : ∀ h', Fr h₀ L h' m → News h₀ L h' news' → Q () { s with heap := h' }) : wpAny (model prog w) A (setItem (.ref R) (.int x u) y) Q E s := by
  subst hx
  obtain ⟨pre, post, rfl, rfl, a, b⟩ := U.split
  have z := N (R, W.listOf its.toArray n) (List.mem_append.mpr (.inr (.head _)))
  refine ki_setAt z.1 (by omega) (by omega) (by rw [List.size_toArray]; omega) (h _ (F.change (Heap.SameBut.update ..) z.2.1 z.2.2) (ki_turn _ N a b ?_ ?_))
  · show its.toArray.setIfInBounds (k : Int).toNat y = (its.set k y).toArray
    apply Array.toList_inj.mp
    simp
  · simp
theorem rows_len {Q : Value → Shared → Prop} (N : News h₀ L s.heap news) (hm : (R, W.listOf its.toArray n) ∈ news) (hz : its.length ≤ 1000) (h : ∀ t' k, Q (.int (its.length : Int) t') { s with toks := k }) :
    wpAny (model prog w) A (call (.builtin "len") [.ref R]) Q E s :=
  kun_lenL (k := (its.length : Int)) ⟨_, (N _ hm).1, rfl, _, rfl⟩ (by simp) (by omega) (h _ _)
variable {objs : List (Addr × Obj)} {vs : List Vec}
theorem rows_item {k : Nat} {x : Int} {u : Tok} {Q : Value → Shared → Prop} (N : News h₀ L s.heap news) (hm : (R, W.listOf its.toArray n) ∈ news) (hr : RowsL objs its vs) (hsub : ∀ q ∈ objs, q ∈ news) (hx : x = (k : Int)) (hk : k < vs.length) (hz : its.length ≤ 1000)
    (h : ∀ a o, (a, o) ∈ objs → IsVec o vs[k] → IsTup s.heap a (match o.data with | .seq xs _ => xs | _ => #[]) → Q (.ref a) s)
    (hs : subscripted slice false (.ref R) (.int x u) = operate [.ref R, .int x u] (getItem (.ref R) (.int x u)) := by with_unfolding_all rfl) :
    wpAny (model prog w) A (subscriptTail value slice (.ref R) (.int x u)) Q E s := by
  subst hx
  obtain ⟨a, o, q1, q2, q3⟩ := hr.get (List.getElem?_eq_getElem hk)
  have hl := hr.length
  have hL : s.heap.IsList R its.toArray := ⟨_, (N _ hm).1, rfl, _, rfl⟩
  refine tail_any hL.typeIs slot_list_getitem.lookup (wpAny_getItem_list hL (by omega) (by omega) (by simpa using q1) (h a o q2 q3 ?_)) hs
  obtain ⟨t1, b, t2, c, t3, n3, rfl, _⟩ := q3
  exact ⟨_, (N _ (hsub _ q2)).1, rfl, n3, rfl⟩
end
section
variable {prog : Program} {w : World} {A : Around} {E : Value → Shared → Prop} {s : Shared} {h₀ : Heap} {L a b : Addr} {news : List (Addr × Obj)} {vs : List Value} {ss : List Str} {n : Nat}
theorem shaped_names : ∀ ss : List Str, (∀ x ∈ ss, ∃ j, j < 8 ∧ x = nameOf j) → PyData.canLayAll0 (ss.map PyData.str) = true ∧ PyData.depthAll (ss.map PyData.str) ≤ 1
  | [], _ => by simp [PyData.canLayAll0, PyData.depthAll]
  | x :: r, h => by
    obtain ⟨j, hj, rfl⟩ := h x (.head _)
    have ih := shaped_names r fun y hy => h y (.tail _ hy)
    have ok : ∀ j : Fin 8, PyData.canLay0 (.str (nameOf j.val)) = true := by decide +kernel
    have := ok ⟨j, hj⟩
    simp only at this
    simp only [List.map_cons, PyData.canLayAll0, PyData.depthAll, this, ih.1, Bool.and_self, true_and]
    have : PyData.depth (.str (nameOf j)) = 0 := by simp [PyData.depth]
    omega
theorem names_eq_nil {Q : Value → Shared → Prop} (N : News h₀ L s.heap news) (hm : (a, W.listOf vs.toArray n) ∈ news) (hS : StrsAre vs ss) (hn : ∀ x ∈ ss, ∃ j, j < 8 ∧ x = nameOf j) {o : Obj} {k : Nat} (hb : (b, o) ∈ news) (hc : o.cls = .type "list") (hd : o.data = .seq #[] k) (hu : A.units + 64 < cLine)
    (h : Q (.bool (decide (ss = []))) s) : wpAny (model prog w) A (compareOp .Eq (.ref a) (.ref b)) Q E s := by
  have h1 := shaped_names ss hn
  refine eq_dataH_same (da := .list (ss.map PyData.str)) (db := .list []) (Reads.list (N _ hm).1 rfl rfl (by simpa using hS.reads s.heap)) (Reads.list (N _ hb).1 hc hd (by simpa using ReadsAll.nil)) ?_ (by decide) hu ?_ ?_
  · show (PyData.canLay0 (.list (ss.map PyData.str)) && decide (PyData.depth (.list (ss.map PyData.str)) ≤ 64)) = true
    rw [Bool.and_eq_true]
    exact ⟨by simp only [PyData.canLay0]; exact h1.1, decide_eq_true (by simp only [PyData.depth]; omega)⟩
  · cases ss <;> simp [PySem.SeqAt.noMix, PySem.SeqAt.noMixAll]
  · have : PySem.Spec.same (.list (ss.map PyData.str)) (.list []) = decide (ss = []) := by cases ss <;> simp [PySem.Spec.same, PySem.Spec.sameAll]
    rw [this]; exact h
theorem names_ne_nil {Q : Value → Shared → Prop} (N : News h₀ L s.heap news) (hm : (a, W.listOf vs.toArray n) ∈ news) (hS : StrsAre vs ss) (hn : ∀ x ∈ ss, ∃ j, j < 8 ∧ x = nameOf j) {o : Obj} {k : Nat} (hb : (b, o) ∈ news) (hc : o.cls = .type "list") (hd : o.data = .seq #[] k) (hu : A.units + 64 < cLine)
    (h : Q (.bool (!decide (ss = []))) s) : wpAny (model prog w) A (compareOp .NotEq (.ref a) (.ref b)) Q E s := by
  have h1 := shaped_names ss hn
  refine ne_dataH_same (da := .list (ss.map PyData.str)) (db := .list []) (Reads.list (N _ hm).1 rfl rfl (by simpa using hS.reads s.heap)) (Reads.list (N _ hb).1 hc hd (by simpa using ReadsAll.nil)) ?_ (by decide) hu ?_ ?_
  · show (PyData.canLay0 (.list (ss.map PyData.str)) && decide (PyData.depth (.list (ss.map PyData.str)) ≤ 64)) = true
    rw [Bool.and_eq_true]
    exact ⟨by simp only [PyData.canLay0]; exact h1.1, decide_eq_true (by simp only [PyData.depth]; omega)⟩
  · cases ss <;> simp [PySem.SeqAt.noMix, PySem.SeqAt.noMixAll]
  · have : PySem.Spec.same (.list (ss.map PyData.str)) (.list []) = decide (ss = []) := by cases ss <;> simp [PySem.Spec.same, PySem.Spec.sameAll]
    rw [this]; exact h
end
end Mine
namespace Mine
theorem strs_get : ∀ {vs : List Value} {ss : List Str}, StrsAre vs ss → ∀ {k : Nat} (h : k < ss.length), ∃ t, vs[k]? = some (.str ss[k] t)
  | _, _, .cons x t r, 0, _ => ⟨t, rfl⟩
  | _, _, .cons _ _ r, k + 1, h => strs_get r (by simpa using h)
theorem pair_at {β : Type} {P : Value → β → Prop} {r : List (Str × Value)} {s : List (Str × β)} {x : Str} {b : β} (h : Pair2 P r s) (e : findAt s x = some b) : ∃ v, valueAt r x = some v ∧ P v b := by
  rcases h.valueAt (k := x) with ⟨_, q⟩ | ⟨v, b', q1, q2, q3⟩
  · unfold findAt at e
    rw [q] at e; cases e
  · unfold findAt at e
    rw [e] at q2
    cases q2
    exact ⟨v, q1, q3⟩
section
variable {prog : Program} {w : World} {A : Around} {E : Value → Shared → Prop} {s : Shared} {h₀ : Heap} {L D : Addr} {news : List (Addr × Obj)} {vsN : List Value} {ssN : List Str} {nD : Nat} {value slice : PySem.Expr} {vs : List Vec} {kvF kvP : List (Str × Value)}
theorem names_item {x : Int} {u : Tok} {Q : Value → Shared → Prop} (N : News h₀ L s.heap news) (hm : (D, W.listOf vsN.toArray nD) ∈ news) (hS : StrsAre vsN ssN) (hmem : ∀ x ∈ ssN, x ∈ (dueF vs).map (·.1)) (pF : Pair2 PB kvF (dueF vs)) (pP : Pair2 PI kvP (dueP vs)) (hpos : 0 < vsN.length) (hz : vsN.length ≤ 1000)
    (h : ∀ k (hk : k < vs.length) vk t b1 t1 t2, vs[k] = vk → (∀ i (hi : i < vs.length), k < i → nameOf vs[i].j ≠ nameOf vk.j) → valueAt kvF (nameOf vk.j) = some (.bytes b1 t1) → KBw.bInts b1 = vk.ks → valueAt kvP (nameOf vk.j) = some (.int (at0 vs k : Int) t2) → Q (.str (nameOf vk.j) t) s)
    (hs : subscripted slice false (.ref D) (.int (x.fmod (vsN.length : Int)) u) = operate [.ref D, .int (x.fmod (vsN.length : Int)) u] (getItem (.ref D) (.int (x.fmod (vsN.length : Int)) u)) := by with_unfolding_all rfl) :
    wpAny (model prog w) A (subscriptTail value slice (.ref D) (.int (x.fmod (vsN.length : Int)) u)) Q E s := by
  have h0 : 0 ≤ x.fmod (vsN.length : Int) := Int.fmod_nonneg_of_pos _ (by omega)
  have h1 : x.fmod (vsN.length : Int) < (vsN.length : Int) := Int.fmod_lt_of_pos _ (by omega)
  have hl := hS.length
  have hq : (x.fmod (vsN.length : Int)).toNat < ssN.length := by omega
  obtain ⟨t, ht⟩ := strs_get hS hq
  obtain ⟨k, hk, e1, e2, e3, e4⟩ := due_at_name vs _ (hmem _ (List.getElem_mem hq))
  obtain ⟨vb, q1, b1, t1, rfl, q2⟩ := pair_at pF e3
  obtain ⟨vi, q3, t2, rfl⟩ := pair_at pP e4
  have hL : s.heap.IsList D vsN.toArray := ⟨_, (N _ hm).1, rfl, _, rfl⟩
  refine tail_any hL.typeIs slot_list_getitem.lookup (wpAny_getItem_list hL h0 (by omega) (by simpa using ht) ?_) hs
  rw [← e1]
  rw [← e1] at q1 q3 e2
  exact h k hk _ t b1 t1 t2 rfl e2 q1 q2 q3
end
end Mine
namespace Mine
section
variable {prog : Program} {w : World} {A : Around} {E : Value → Shared → Prop} {s : Shared} {value slice : PySem.Expr} {b c : Array UInt8} {t u : Tok} {h₀ : Heap} {L : Addr} {m : PySem.Str → Option Value} {news : List (Addr × Obj)} {Q : Value → Shared → Prop} {ks ls : List Int}
theorem clip_take (l : List Int) {n : Int} (h : 0 ≤ n) : (l.drop 0).take (clipAt l.length n - 0) = l.take n.toNat := by
  obtain ⟨n, rfl⟩ := Int.eq_ofNat_of_zero_le h
  have e : clipAt l.length (n : Int) = min n l.length := clipAt_nat _ _
  rw [e, List.drop_zero, Nat.sub_zero, Int.toNat_natCast]
  by_cases h2 : n ≤ l.length
  · rw [Nat.min_eq_left h2]
  · rw [Nat.min_eq_right (by omega), List.take_of_length_le (Nat.le_refl _), List.take_of_length_le (by omega)]
theorem clip_drop (l : List Int) {n : Int} (h : 0 ≤ n) : (l.drop (clipAt l.length n)).take (l.length - clipAt l.length n) = l.drop n.toNat := by
  obtain ⟨n, rfl⟩ := Int.eq_ofNat_of_zero_le h
  have e : clipAt l.length (n : Int) = min n l.length := clipAt_nat _ _
  rw [e, Int.toNat_natCast]
  by_cases h2 : n ≤ l.length
  · rw [Nat.min_eq_left h2, List.take_of_length_le (by simp)]
  · rw [Nat.min_eq_right (by omega), List.drop_of_length_le (Nat.le_refl _), List.drop_of_length_le (l := l) (by omega)]; simp
theorem slice_to {x : Int} {tx : Tok} (hF : Fr h₀ L s.heap m) (hN : News h₀ L s.heap news) (hk : KBw.bInts b = ks) (h0 : 0 ≤ x) (hz : ks.length ≤ 10000)
    (h : ∀ h' b' t' k, Fr h₀ L h' m → News h₀ L h' news → KBw.bInts b' = ks.take x.toNat → b'.size ≤ 10000 → Q (.bytes b' t') { s with heap := h', toks := k })
    (hs : subscripted slice false (.bytes b t) (.ref s.heap.objs.size) = operate [.ref s.heap.objs.size, .bytes b t] (getItem (.bytes b t) (.ref s.heap.objs.size)) := by with_unfolding_all rfl)
    (ht : ∀ r, letTemporaryGo value (.bytes b t) r = pure () := by intro _; with_unfolding_all rfl) :
    wpAny (model prog w) A (subscriptTail value slice (.bytes b t) (.ref s.heap.objs.size)) Q E { s with heap := s.heap.push { cls := .type "slice", data := .fields #[.none, .int x tx, .none] } } :=
  KBc.slice_K (lo := none) (hi := some x) hF hN hk .none (.int _ _) (by omega) (fun h' t' k F N e => h h' _ t' k F N (e.trans (clip_take ks h0)) (by
    rw [← KBw.ints_length, e, show (ks.drop ((none : Option Int).elim 0 (clipAt ks.length))).take ((some x).elim ks.length (clipAt ks.length) - (none : Option Int).elim 0 (clipAt ks.length)) = ks.take x.toNat from clip_take ks h0, List.length_take]; omega)) hs ht
theorem slice_from {x : Int} {tx : Tok} (hF : Fr h₀ L s.heap m) (hN : News h₀ L s.heap news) (hk : KBw.bInts b = ks) (h0 : 0 ≤ x) (hz : ks.length ≤ 10000)
    (h : ∀ h' b' t' k, Fr h₀ L h' m → News h₀ L h' news → KBw.bInts b' = ks.drop x.toNat → b'.size ≤ 10000 → Q (.bytes b' t') { s with heap := h', toks := k })
    (hs : subscripted slice false (.bytes b t) (.ref s.heap.objs.size) = operate [.ref s.heap.objs.size, .bytes b t] (getItem (.bytes b t) (.ref s.heap.objs.size)) := by with_unfolding_all rfl)
    (ht : ∀ r, letTemporaryGo value (.bytes b t) r = pure () := by intro _; with_unfolding_all rfl) :
    wpAny (model prog w) A (subscriptTail value slice (.bytes b t) (.ref s.heap.objs.size)) Q E { s with heap := s.heap.push { cls := .type "slice", data := .fields #[.int x tx, .none, .none] } } :=
  KBc.slice_K (lo := some x) (hi := none) hF hN hk (.int _ _) .none (by omega) (fun h' t' k F N e => h h' _ t' k F N (e.trans (clip_drop ks h0)) (by
    rw [← KBw.ints_length, e, show (ks.drop ((some x).elim 0 (clipAt ks.length))).take ((none : Option Int).elim ks.length (clipAt ks.length) - (some x).elim 0 (clipAt ks.length)) = ks.drop x.toNat from clip_drop ks h0, List.length_drop]; omega)) hs ht
theorem add_z {n1 n2 : Nat} (z1 : b.size ≤ n1) (z2 : c.size ≤ n2) (hn : n1 + n2 ≤ 100000) (hb : KBw.bInts b = ks) (hc : KBw.bInts c = ls)
    (h : ∀ x t' k, KBw.bInts x = ks ++ ls → x.size ≤ n1 + n2 → Q (.bytes x t') { s with toks := k }) : wpAny (model prog w) A (binaryOp .Add (.bytes b t) (.bytes c u)) Q E s :=
  KBy.add_bytes (by omega) fun t' k => h _ t' k (KBw.ints_app hb hc) (by rw [Array.size_append]; omega)
theorem size_ints {n : Nat} (hb : KBw.bInts b = ks) (h : ks.length ≤ n) : b.size ≤ n := by rw [← KBw.ints_length, hb]; exact h
end
end Mine
end

/-! The end of a turn. -/
section
open PySem PySem.W PyProof.Rows PySem.Calls PyProof.Rows.LCg
set_option Elab.async false
set_option maxRecDepth 100000
set_option maxHeartbeats 2000000
namespace Mine
theorem anewLawT1 : True := by
  w_top off
  trivial
local macro_rules | `(tactic| k_all) => `(tactic| assumption)
local macro_rules | `(tactic| walk_at "call ref") => `(tactic| (k_here; (with_reducible show wpAny _ _ (call (Value.ref 134) _) _ _ _); refine halt ?_))
theorem m_at {m : Str → Option Value} {x : Str} {v : Value} (h : m x = some v) : m = fun z => if z = x then some v else m z := by
  funext z
  split
  · rename_i e; rw [e, h]
  · rfl
theorem law_last {prog : Program} {w : World} {dp un : Nat} {gd : Option (List Code)} {A₀ : Around} {base h₀ : Heap} {s : Shared} {p : Program} {loose : List Str} {mean : ExcName → Option Value} {mg mb : Str → Option Value}
   {L l R I : Addr} {oI o1 o2 o3 : Obj} {vs : List Vec} {b : Array UInt8} {t : Tok} {its : List Value} {nR : Nat} {objs tn : List (Addr × Obj)} {v1 : Option Value} {m : Str → Option Value} {Q : Flow → Shared → Prop} {E : Value → Shared → Prop}
   (B : Below A₀ base [] h₀) (X : (hd.heap_39 w.params).In h₀) (T : Top p loose mean mg mb h₀) (X₀ : Root w p loose mean mg mb base) (hdp : dp + 20 < recursionLimit) (hun : un + 200 < cLine)
   (F : Fr h₀ L s.heap m) (N : News h₀ L s.heap (lawLed L R its nR ((I, oI) :: objs) tn o1 o2 o3)) (Z : LawAt L l R vs b its ((I, oI) :: objs) tn o1 o2 o3 v1) (hlen : vs.length ≤ 20) (hraw : m (Str.ofString "raw") = some (.bytes b t))
   (ret : ∀ h' tk' tn', Fr h₀ L h' m → News h₀ L h' (lawLed L R its nR ((I, oI) :: objs) tn' o1 o2 o3) → LawAt L l R vs b its ((I, oI) :: objs) tn' o1 o2 o3 v1 → Q .next { s with heap := h', toks := tk' }) :
   wpAny (model prog w) ((ATop dp un gd []).deeper (lawEnv L)) (execs (lawFor.drop 5) (lawEnv L)) Q E s := by
  dsimp only [lawEnv]
  generalize hsc : lawScope = sc
  conv at hsc => lhs; whnf
  subst hsc
  generalize hbd : lawFor.drop 5 = bd
  conv at hbd => lhs; whnf
  subst hbd
  rw [m_at hraw] at F
  have d1 := Z.d1
  have d2 := Z.d2
  have d3 := Z.d3
  k_steps
  refine Halt.go ?_
  refine wpAny_call ?_
  refine (good_N Z.hb ⟨hlen, Z.ok⟩).use (news := (L + 1 + 1 + 1, o1) :: (L + 1 + 1, o2) :: (L + 1, o3) :: (R, W.listOf its.toArray nR) :: (I, oI) :: objs) rfl rfl rfl B F X N T X₀ Z.htn ?koff (by (dsimp only [ATop, Around.deeper]; omega)) (by (dsimp only [ATop, Around.deeper]; omega)) ?kpre ?kret
  case koff =>
    intro q hq z hz
    have c := Z.cells z (List.mem_append_right _ hz)
    rcases List.mem_cons.mp hq with rfl | hq
    · exact c.2.2.1
    rcases List.mem_cons.mp hq with rfl | hq
    · exact c.2.1
    rcases List.mem_cons.mp hq with rfl | hq
    · exact c.1
    rcases List.mem_cons.mp hq with rfl | hq
    · exact c.2.2.2
    exact Z.off q hq z hz
  case kpre =>
    intro g Fg Ng
    exact ⟨its, ⟨_, (Ng (R, _) (.tail _ (.tail _ (.tail _ (.head _))))).1, rfl, _, rfl⟩, Z.rows.inn fun q hq => (Ng q (.tail _ (.tail _ (.tail _ (.tail _ hq))))).1⟩
  case kret =>
    rintro g r h6 tk6 tn6 Fg6 Ng6 st6 F6 mk6 htn6 rfl
    obtain ⟨N6, off6⟩ := mk6 [] (fun _ hq => nomatch hq)
    simp only [List.cons_append, List.nil_append] at N6 off6
    try dsimp only
    k_sweep
    k_steps
    rw [← m_at hraw] at F6
    refine ret _ _ tn6 F6 N6 ⟨Z.hb, Z.ok, Z.d1, Z.d2, Z.d3, Z.rows, htn6, Z.cR, ?c6, ?f6⟩
    case c6 =>
      intro q hq
      rcases List.mem_append.mp hq with hq | hq
      · exact Z.cells q (List.mem_append_left _ hq)
      · exact ⟨off6 q hq _ (.tail _ (.tail _ (.head _))), off6 q hq _ (.tail _ (.head _)), off6 q hq _ (.head _), off6 q hq (R, _) (.tail _ (.tail _ (.tail _ (.head _))))⟩
    case f6 =>
      intro q hq z hz
      exact off6 z hz q (.tail _ (.tail _ (.tail _ (.tail _ hq))))
/-- the end of a turn, behind each of the edits -/
theorem turn_close {prog : Program} {w : World} {dp un : Nat} {gd : Option (List Code)} {A₀ : Around} {base h₀ : Heap} {s : Shared} {p : Program} {loose : List Str} {mean : ExcName → Option Value} {mg mb : Str → Option Value}
   {L l R I aX : Addr} {oI oX o1 o2 o3 : Obj} {vs : List Vec} {b : Array UInt8} {t : Tok} {its : List Value} {nR i : Nat} {objs tn news : List (Addr × Obj)} {v1 : Option Value} {m : Str → Option Value} {Q : Flow → Shared → Prop} {E : Value → Shared → Prop}
   (B : Below A₀ base [] h₀) (X : (hd.heap_39 w.params).In h₀) (T : Top p loose mean mg mb h₀) (X₀ : Root w p loose mean mg mb base) (hdp : dp + 20 < recursionLimit) (hun : un + 200 < cLine) (hi8 : i < 8)
   (F : Fr h₀ L s.heap m) (N : News h₀ L s.heap news) (sub : ∀ q ∈ lawLed L R its nR ((I, oI) :: (aX, oX) :: objs) tn o1 o2 o3, q ∈ news)
   (hb : KBw.bInts b = enc vs) (ok : ∀ v ∈ vs, v.j < 8 ∧ v.ks.length ≤ 300) (d1 : o1.data = .cell v1) (d2 : o2.data = .cell (some (.ref R))) (d3 : o3.data = .cell (some (.ref l))) (rows : RowsL ((aX, oX) :: objs) its vs) (htn : TnOk parsPos parsQual tn)
   (cR : @Ne Nat R (L + 1) ∧ @Ne Nat R (L + 1 + 1) ∧ @Ne Nat R (L + 1 + 1 + 1)) (cI : @Ne Nat I (L + 1) ∧ @Ne Nat I (L + 1 + 1) ∧ @Ne Nat I (L + 1 + 1 + 1) ∧ @Ne Nat I R) (cX : @Ne Nat aX (L + 1) ∧ @Ne Nat aX (L + 1 + 1) ∧ @Ne Nat aX (L + 1 + 1 + 1) ∧ @Ne Nat aX R)
   (e2 : ∀ q ∈ objs ++ tn, @Ne Nat q.1 (L + 1) ∧ @Ne Nat q.1 (L + 1 + 1) ∧ @Ne Nat q.1 (L + 1 + 1 + 1) ∧ @Ne Nat q.1 R) (xI : @Ne Nat aX I) (hI : ∀ q ∈ objs, q.1 ≠ I) (gI : ∀ z ∈ tn, z.1 ≠ I) (gX : ∀ z ∈ tn, z.1 ≠ aX) (mN : ∀ q ∈ objs, ∀ z ∈ tn, z.1 ≠ q.1)
   (hlen : vs.length ≤ 3 + (i + 1)) (hraw : m (Str.ofString "raw") = some (.bytes b t))
   (ret : ∀ R' vs' b' its' nR' objs' tn' o1' o2' o3' v1' m' h' tk' t', Fr h₀ L h' m' → News h₀ L h' (lawLed L R' its' nR' ((I, oI) :: objs') tn' o1' o2' o3') → LawAt L l R' vs' b' its' ((I, oI) :: objs') tn' o1' o2' o3' v1' → RowsL objs' its' vs' → (∀ q ∈ objs', q.1 ≠ I) → vs'.length ≤ 3 + (i + 1) → m' (Str.ofString "raw") = some (.bytes b' t') → Q .next { s with heap := h', toks := tk' }) :
   wpAny (model prog w) ((ATop dp un gd []).deeper (lawEnv L)) (execs (lawFor.drop 5) (lawEnv L)) Q E s := by
  refine law_last (vs := vs) (its := its) B X T X₀ hdp hun F (news_sub N sub) (l := l) (v1 := v1) ⟨hb, ok, d1, d2, d3, rows.mono fun q hq => .tail _ hq, htn, cR, ?c, ?f⟩ (by omega) hraw fun h' tk' tn' F' N' Z => ret R vs b its nR ((aX, oX) :: objs) tn' o1 o2 o3 v1 m h' tk' t F' N' Z rows ?g hlen hraw
  case c =>
    intro q hq
    rcases List.mem_cons.mp hq with rfl | hq
    · exact cI
    rcases List.mem_cons.mp hq with rfl | hq
    · exact cX
    exact e2 q hq
  case f =>
    intro q hq z hz
    rcases List.mem_cons.mp hq with rfl | hq
    · exact gI z hz
    rcases List.mem_cons.mp hq with rfl | hq
    · exact gX z hz
    exact mN q hq z hz
  case g =>
    intro q hq
    rcases List.mem_cons.mp hq with rfl | hq
    · exact xI
    exact hI q hq
end Mine
end

/-! The three edits. -/
section
open PySem PySem.W PyProof.Rows PySem.Calls PyProof.Rows.LCg
set_option Elab.async false
set_option maxRecDepth 100000
set_option maxHeartbeats 2000000
namespace Mine
theorem anewLawE : True := by
  w_top off
  trivial
def lawEdit : List Stmt := match lawFor with
  | [_, _, _, _, .If _ _ els _, _] => els.drop 4
  | _ => []
local macro_rules | `(tactic| k_all) => `(tactic| assumption)
local macro_rules | `(tactic| k_ne) => `(tactic| (refine neN ?_; (try dsimp only); first | assumption | (refine Ne.symm ?_; assumption) | exact Nat.ne_of_lt (by assumption) | exact Nat.ne_of_gt (by assumption) | omega))
local macro_rules | `(tactic| lcg_sub) => `(tactic| (intro q hq; (repeat (first | exact hq | refine List.Mem.tail _ ?_)); done))
local macro_rules | `(tactic| walk_at "call builtin:list.insert") => `(tactic| (k_here; (with_reducible show wpAny _ _ (call (Value.builtin _) [Value.ref _, Value.int _ _, _]) _ _ _); k_dflt (refine' rows_insert ?k1 ?k2 ?k3 ?k4 ?k5 ?k6 ?_; (case k1 => k_asm); (case k2 => k_asm); (case k3 => exact rfl); (case k4 => assumption); (case k5 => k_upd); (case k6 => assumption); k_whole); intro h' F' N'; (try k_sweep)))
local macro_rules | `(tactic| walk_at "call builtin:list.pop") => `(tactic| (k_here; (with_reducible show wpAny _ _ (call (Value.builtin _) [Value.ref _, Value.int _ _]) _ _ _); k_dflt (refine' rows_pop ?k1 ?k2 ?k3 ?k4 ?k5 ?k6 ?_; (case k1 => k_asm); (case k2 => k_asm); (case k3 => exact rfl); (case k4 => assumption); (case k5 => k_upd); (case k6 => assumption); k_whole); intro h' F' N'; (try k_sweep)))
local macro_rules | `(tactic| walk_at "setItem ref int ref") => `(tactic| (k_here; (with_reducible show wpAny _ _ (setItem (Value.ref _) (Value.int _ _) (Value.ref _)) _ _ _); k_dflt (refine' rows_set ?k1 ?k2 ?k3 ?k4 ?k5 ?k6 ?_; (case k1 => k_asm); (case k2 => k_asm); (case k3 => exact rfl); (case k4 => assumption); (case k5 => k_upd); (case k6 => assumption); k_whole); intro h' F' N'; (try k_sweep)))
local macro_rules | `(tactic| walk_at "subscriptTail") => `(tactic| (k_here; (with_reducible show wpAny _ _ (subscriptTail _ _ (Value.ref _) (Value.int _ _)) _ _ _); k_dflt (refine' rows_item ?N ?m ?r ?u ?x ?l ?z ?_ ?s; (case N => k_asm); (case m => k_mem); (case r => assumption); (case u => (intro q hq; repeat (first | exact List.mem_append_left _ hq | refine List.Mem.tail _ ?_))); (case x => exact rfl); (case l => assumption); (case z => assumption); (case s => with_unfolding_all rfl); k_whole); intro a9 o9 ha9 hv9 hT9; (obtain ⟨u1', b', u2', c', u3', n', eo', hb', hc', hj', hk'⟩ := hv9); subst eo'; (dsimp only at hT9)))
local macro_rules | `(tactic| walk_at "subscriptTail") => `(tactic| (k_here; (with_reducible show wpAny _ _ (subscriptTail _ (Expr.Slice none (some _) none _) (Value.bytes _ _) (Value.ref _)) _ _ _); (refine' slice_to (s := ⟨_, _, _, _, _⟩) ?kF ?kN ?k1 ?k2 ?k3 ?_; (case kF => k_asm); (case kN => k_asm); (case k1 => assumption); (case k2 => omega); (case k3 => first | assumption | omega)); intro h8 b8 t8 k8 F8 N8 i8 z8; (try dsimp only); (try k_sweep)))
local macro_rules | `(tactic| walk_at "subscriptTail") => `(tactic| (k_here; (with_reducible show wpAny _ _ (subscriptTail _ (Expr.Slice (some _) none none _) (Value.bytes _ _) (Value.ref _)) _ _ _); (refine' slice_from (s := ⟨_, _, _, _, _⟩) ?kF ?kN ?k1 ?k2 ?k3 ?_; (case kF => k_asm); (case kN => k_asm); (case k1 => assumption); (case k2 => omega); (case k3 => first | assumption | omega)); intro h8 b8 t8 k8 F8 N8 i8 z8; (try dsimp only); (try k_sweep)))
local macro_rules | `(tactic| walk_at "binaryOp Add bytes bytes") => `(tactic| (k_here; (with_reducible show wpAny _ _ (binaryOp Operator.Add (Value.bytes _ _) (Value.bytes _ _)) _ _ _); (refine' add_z ?z1 ?z2 ?z3 ?k1 ?k2 ?_; (case k1 => assumption); (case k2 => assumption); (case z1 => assumption); (case z2 => first | assumption | exact size_ints (n := 2) (by assumption) (Nat.le_refl _)); (case z3 => decide)); intro x8 t8 k8 i8 z8; (try dsimp only)))
theorem news_hd {h₀ h : Heap} {L : Addr} {q q' : Addr × Obj} {l : List (Addr × Obj)} (N : News h₀ L h (q :: q' :: l)) : News h₀ L h (q :: l) := news_tl2 N
theorem allLt_lt {d : Addr} {l : List (Addr × Obj)} (h : AllLt d l) : ∀ q ∈ l, q.1 < d := by
  induction l with
  | nil => intro q hq; cases hq
  | cons p r ih =>
    intro q hq
    obtain ⟨h1, h2⟩ := h
    rcases List.mem_cons.mp hq with rfl | hq
    · exact h1
    · exact ih h2 q hq
theorem law_edit {prog : Program} {w : World} {dp un : Nat} {gd : Option (List Code)} {A₀ : Around} {base h₀ : Heap} {s : Shared} {p : Program} {loose : List Str} {mean : ExcName → Option Value} {mg mb : Str → Option Value}
   {L l R I aN : Addr} {oI o1 o2 o3 : Obj} {vs : List Vec} {v vk : Vec} {b bN cN : Array UInt8} {t tK tN1 tN2 tN3 u1 u2 u3 u4 : Tok} {its : List Value} {nR nN k : Nat} {n : Int} {objs tn : List (Addr × Obj)} {m : Str → Option Value} {Q : Flow → Shared → Prop} {E : Value → Shared → Prop}
   (B : Below A₀ base [] h₀) (X : (hd.heap_39 w.params).In h₀) (T : Top p loose mean mg mb h₀) (hdp : dp + 20 < recursionLimit) (hun : un + 200 < cLine)
   (F : Fr h₀ L s.heap m) (N : News h₀ L s.heap ((aN, ({ cls := .type "tuple", data := .seq #[.str (nameOf v.j) tN1, .bytes bN tN2, .bytes cN tN3] nN } : Obj)) :: (L + 1 + 1 + 1, o1) :: (L + 1 + 1, o2) :: (L + 1, o3) :: (R, W.listOf its.toArray nR) :: (I, oI) :: (objs ++ tn)))
   (d1 : o1.data = .cell (some (.str (nameOf vk.j) tK))) (d2 : o2.data = .cell (some (.ref R))) (hrows : RowsL objs its vs) (hb : KBw.bInts b = enc vs) (hok : ∀ v ∈ vs, v.j < 8 ∧ v.ks.length ≤ 300) (hlen : vs.length ≤ 20) (hbN : KBw.bInts bN = v.ks) (hcN : KBw.bInts cN = enc1 v) (hjN : v.j < 8) (hkN : v.ks.length ≤ 300)
   (hk : k < vs.length) (hvk : vs[k] = vk)
   (c1 : @Ne Nat R (L + 1)) (c2 : @Ne Nat R (L + 1 + 1)) (c3 : @Ne Nat R (L + 1 + 1 + 1)) (c7 : @Ne Nat I R) (fN4 : @Ne Nat aN R) (e4 : ∀ q ∈ objs ++ tn, q.1 ≠ R)
   (m1 : m (Str.ofString "raw") = some (.bytes b t)) (m2 : m (Str.ofString "number") = some (.int n u1)) (m3 : m (Str.ofString "new") = some (.ref aN)) (m4 : m (Str.ofString "place") = some (.int (at0 vs k : Int) u2)) (m5 : m (Str.ofString "end") = some (.int ((at0 vs k : Int) + 3 + (vk.ks.length : Int)) u3)) (m6 : m (Str.ofString "at") = some (.int (k : Int) u4))
   (ret : ∀ vs' its' nR' aX oX b' t' m' h' tk', Fr h₀ L h' m' → News h₀ L h' ((aX, oX) :: (L + 1 + 1 + 1, o1) :: (L + 1 + 1, o2) :: (L + 1, o3) :: (R, W.listOf its'.toArray nR') :: (I, oI) :: (objs ++ tn)) → (aX = aN ∨ ∀ q ∈ (L + 1 + 1 + 1, o1) :: (L + 1 + 1, o2) :: (L + 1, o3) :: (R, W.listOf its.toArray nR) :: (I, oI) :: (objs ++ tn), q.1 < aX) → KBw.bInts b' = enc vs' → (∀ v ∈ vs', v.j < 8 ∧ v.ks.length ≤ 300) →
     RowsL ((aX, oX) :: objs) its' vs' → vs'.length ≤ vs.length + 1 → m' (Str.ofString "raw") = some (.bytes b' t') → Q .next { s with heap := h', toks := tk' }) :
   wpAny (model prog w) ((ATop dp un gd []).deeper (lawEnv L)) (execs lawEdit (lawEnv L)) Q E s := by
  dsimp only [lawEnv]
  generalize hsc : lawScope = sc
  conv at hsc => lhs; whnf
  subst hsc
  generalize hbd : lawEdit = bd
  conv at hbd => lhs; whnf
  subst hbd
  rw [m_at m1, m_at m2, m_at m3, m_at m4, m_at m5, m_at m6] at F
  have hsz := enc_le vs fun v hv => (hok v hv).2
  have hz1 : (enc vs).length ≤ 10000 := by omega
  have hz2 : b.size ≤ 10000 := size_ints hb hz1
  have hz3 : bN.size ≤ 300 := size_ints hbN hkN
  have hz4 : cN.size ≤ 303 := size_ints hcN (by rw [enc1_len]; omega)
  have hlR := hrows.length
  have hz5 : its.length ≤ 1000 := by omega
  have hz6 : (enc1 vs[k]).length ≤ 10000 := by rw [enc1_len]; have := (hok _ (List.getElem_mem hk)).2; omega
  have hk1 : k < its.length := by omega
  have hk2 : k ≤ its.length := by omega
  have t1 : ((at0 vs k : Int) + 1).toNat = at0 vs k + 1 := by omega
  have t2 : ((at0 vs k : Int) + 3 + (vk.ks.length : Int)).toNat = at0 vs k + 3 + vk.ks.length := by omega
  have t3 : ((at0 vs k : Int)).toNat = at0 vs k := by omega
  have t4 : [(v.ks.length : Int) / 256 % 256, (v.ks.length : Int) % 256] = [(v.ks.length : Int) / 256, (v.ks.length : Int) % 256] := by rw [show (v.ks.length : Int) / 256 % 256 = (v.ks.length : Int) / 256 by omega]
  have eSet : (enc vs).take ((at0 vs k : Int) + 1).toNat ++ [(v.ks.length : Int) / 256 % 256, (v.ks.length : Int) % 256] ++ v.ks ++ (enc vs).drop ((at0 vs k : Int) + 3 + (vk.ks.length : Int)).toNat = enc (vs.set k ⟨vk.j, v.ks⟩) := by
    rw [t1, t2, t4, ← hvk]; exact edit_set hk v.ks
  have eCut : (enc vs).take ((at0 vs k : Int)).toNat ++ (enc vs).drop ((at0 vs k : Int) + 3 + (vk.ks.length : Int)).toNat = enc (vs.take k ++ vs.drop (k + 1)) := by
    rw [t2, t3, ← hvk]; exact edit_cut hk
  have eIns : (enc vs).take ((at0 vs k : Int)).toNat ++ enc1 v ++ (enc vs).drop ((at0 vs k : Int)).toNat = enc (vs.take k ++ v :: vs.drop k) := by
    rw [t3]; exact edit_ins hk v
  have eHead : (enc1 vs[k]).take (Int.toNat 1) ++ [(v.ks.length : Int) / 256 % 256, (v.ks.length : Int) % 256] ++ v.ks = enc1 ⟨vk.j, v.ks⟩ := by
    rw [t4, hvk]; exact head_set vk v.ks
  have hjK : vk.j < 8 := by rw [← hvk]; exact (hok _ (List.getElem_mem hk)).1
  have ivN : IsVec ({ cls := .type "tuple", data := .seq #[.str (nameOf v.j) tN1, .bytes bN tN2, .bytes cN tN3] nN } : Obj) v := ⟨_, _, _, _, _, _, rfl, hbN, hcN, hjN, hkN⟩
  have okSet : ∀ x ∈ vs.set k ⟨vk.j, v.ks⟩, x.j < 8 ∧ x.ks.length ≤ 300 := fun x hx => by
    rcases List.mem_or_eq_of_mem_set hx with hx | rfl
    · exact hok x hx
    · exact ⟨hjK, hkN⟩
  have okCut : ∀ x ∈ vs.take k ++ vs.drop (k + 1), x.j < 8 ∧ x.ks.length ≤ 300 := fun x hx => by
    rcases List.mem_append.mp hx with hx | hx
    · exact hok x (List.mem_of_mem_take hx)
    · exact hok x (List.mem_of_mem_drop hx)
  have okIns : ∀ x ∈ vs.take k ++ v :: vs.drop k, x.j < 8 ∧ x.ks.length ≤ 300 := fun x hx => by
    rcases List.mem_append.mp hx with hx | hx
    · exact hok x (List.mem_of_mem_take hx)
    rcases List.mem_cons.mp hx with rfl | hx
    · exact ⟨hjN, hkN⟩
    · exact hok x (List.mem_of_mem_drop hx)
  have ivS : ∀ (t1 t2 t3 : Tok) (n : Nat) (c : Array UInt8) (_ : Unit), KBw.bInts c = (enc1 vs[k]).take (Int.toNat 1) ++ [(v.ks.length : Int) / 256 % 256, (v.ks.length : Int) % 256] ++ v.ks → IsVec ({ cls := .type "tuple", data := .seq #[.str (nameOf vk.j) t1, .bytes bN t2, .bytes c t3] n } : Obj) ⟨vk.j, v.ks⟩ := fun t1 t2 t3 n c _ hc => ⟨_, _, _, _, _, _, rfl, hbN, hc.trans eHead, hjK, hkN⟩
  k_steps
  · (with_reducible rename Fr _ _ _ _ => F7)
    (with_reducible rename News _ _ _ _ => N7)
    rename (_ < _ ∧ _) => l1
    rename (KBw.bInts _ = List.take _ (enc1 _) ++ _ ++ _) => iH
    rename (KBw.bInts _ = _ ++ List.drop _ _) => iR
    refine ret (vs.set k ⟨vk.j, v.ks⟩) _ _ _ _ _ _ _ _ _ F7 (news_hd N7) (.inr (allLt_lt l1.2)) (iR.trans eSet) okSet (RowsL.set (hrows.mono fun q hq => .tail _ hq) (.head _) (ivS _ _ _ _ _ () iH) k) (by rw [List.length_set]; omega) rfl
  · (with_reducible rename Fr _ _ _ _ => F7)
    (with_reducible rename News _ _ _ _ => N7)
    rename (KBw.bInts _ = _ ++ List.drop _ _) => iR
    refine ret (vs.take k ++ vs.drop (k + 1)) _ _ _ _ _ _ _ _ _ F7 N7 (.inl rfl) (iR.trans eCut) okCut (RowsL.app ((hrows.mono fun q hq => .tail _ hq).take k) ((hrows.mono fun q hq => .tail _ hq).drop (k + 1))) (by rw [List.length_append, List.length_take, List.length_drop]; omega) rfl
  · (with_reducible rename Fr _ _ _ _ => F7)
    (with_reducible rename News _ _ _ _ => N7)
    rename (KBw.bInts _ = _ ++ List.drop _ _) => iR
    refine ret (vs.take k ++ v :: vs.drop k) _ _ _ _ _ _ _ _ _ F7 N7 (.inl rfl) (iR.trans eIns) okIns (RowsL.app ((hrows.mono fun q hq => .tail _ hq).take k) (.cons (.head _) ivN ((hrows.mono fun q hq => .tail _ hq).drop k))) (by rw [List.length_append, List.length_cons, List.length_take, List.length_drop]; omega) rfl
end Mine
end

/-! Reading, from the law's frame. -/
section
open PySem PySem.W PyProof.Rows PySem.Calls
set_option Elab.async false
set_option maxRecDepth 100000
set_option maxHeartbeats 2000000
namespace Mine
theorem anewLawR : True := by
  w_top off
  trivial
theorem led_assoc {L R : Addr} {its : List Value} {nR : Nat} {objs tn top : List (Addr × Obj)} {o1 o2 o3 : Obj} : top ++ lawLed L R its nR objs tn o1 o2 o3 = (top ++ ((L + 1 + 1 + 1, o1) :: (L + 1 + 1, o2) :: (L + 1, o3) :: (R, W.listOf its.toArray nR) :: objs)) ++ tn := by
  simp [lawLed]
theorem law_at_turn {L l R : Addr} {o1 o2 o3 : Obj} {vs : List Vec} {b : Array UInt8} {its : List Value} {nR : Nat} {objs tn tn' : List (Addr × Obj)} {v1 : Option Value} (Z : LawAt L l R vs b its objs tn o1 o2 o3 v1) (htn : TnOk parsPos parsQual tn')
    (off : ∀ q ∈ (L + 1 + 1 + 1, o1) :: (L + 1 + 1, o2) :: (L + 1, o3) :: (R, W.listOf its.toArray nR) :: objs, ∀ z ∈ tn', z.1 ≠ q.1) : LawAt L l R vs b its objs tn' o1 o2 o3 v1 := by
  refine ⟨Z.hb, Z.ok, Z.d1, Z.d2, Z.d3, Z.rows, htn, Z.cR, fun q hq => ?_, fun q hq z hz => off q (.tail _ (.tail _ (.tail _ (.tail _ hq)))) z hz⟩
  rcases List.mem_append.mp hq with hq | hq
  · exact Z.cells q (List.mem_append_left _ hq)
  · exact ⟨off _ (.tail _ (.tail _ (.head _))) q hq, off _ (.tail _ (.head _)) q hq, off _ (.head _) q hq, off (R, _) (.tail _ (.tail _ (.tail _ (.head _)))) q hq⟩
theorem law_off {L l R : Addr} {o1 o2 o3 : Obj} {vs : List Vec} {b : Array UInt8} {its : List Value} {nR : Nat} {objs tn : List (Addr × Obj)} {v1 : Option Value} (Z : LawAt L l R vs b its objs tn o1 o2 o3 v1) : ∀ q ∈ (L + 1 + 1 + 1, o1) :: (L + 1 + 1, o2) :: (L + 1, o3) :: (R, W.listOf its.toArray nR) :: objs, ∀ z ∈ tn, z.1 ≠ q.1 := fun q hq z hz => by
  have c := Z.cells z (List.mem_append_right _ hz)
  rcases List.mem_cons.mp hq with rfl | hq
  · exact c.2.2.1
  rcases List.mem_cons.mp hq with rfl | hq
  · exact c.2.1
  rcases List.mem_cons.mp hq with rfl | hq
  · exact c.1
  rcases List.mem_cons.mp hq with rfl | hq
  · exact c.2.2.2
  exact Z.off q hq z hz
section
variable {prog : Program} {w : World} {A₀ : Around} {s : Shared} {h₀ base : Heap} {p : Program} {loose : List Str} {mean : ExcName → Option Value} {mg mb : Str → Option Value}
  {L l R : Addr} {o1 o2 o3 : Obj} {vs vs' : List Vec} {b b' : Array UInt8} {t : Tok} {its : List Value} {nR dp un : Nat} {gd : Option (List Code)} {objs tn top : List (Addr × Obj)} {v1 : Option Value} {m : Str → Option Value} {Q E : Value → Shared → Prop} {po st : Bool} {cs : Option (Vec × List Int)}
theorem law_read (B : Below A₀ base [] h₀) (X : (hd.heap_39 w.params).In h₀) (T : Top p loose mean mg mb h₀) (X₀ : Root w p loose mean mg mb base) (hdp : dp + 20 < recursionLimit) (hun : un + 200 < cLine)
    (F : Fr h₀ L s.heap m) (N : News h₀ L s.heap (top ++ lawLed L R its nR objs tn o1 o2 o3)) (Z : LawAt L l R vs b its objs tn o1 o2 o3 v1) (htop : ∀ q ∈ top, ∀ z ∈ tn, z.1 ≠ q.1) (hb : KBw.bInts b' = enc vs' ++ cutOf cs) (hvs : VsOk vs') (hcs : CsOk st cs)
    (ret : ∀ g r h' tk' tn', Fr h₀ L h' m → News h₀ L h' (top ++ lawLed L R its nR objs tn' o1 o2 o3) → (∀ tl, (∀ q ∈ tl, h'.get? q.1 = some q.2 ∧ g.get? q.1 = none) → News h₀ L h' (tl ++ (top ++ lawLed L R its nR objs tn' o1 o2 o3))) → LawAt L l R vs b its objs tn' o1 o2 o3 v1 → (∀ q ∈ top, ∀ z ∈ tn', z.1 ≠ q.1) → ReadPost prog w st po vs' cs g tn' r h' → Q r { s with heap := h', toks := tk' }) :
    wpAny (model prog w) ((ATop dp un gd []).deeper (lawEnv L)) (call (.ref 141) [.bytes b' t, .bool po, .bool st]) Q E s := by
  rw [led_assoc] at N
  refine read_use (dp := dp + 1) (un := un + 3) (gd := gd) (env := lawEnv L) rfl rfl rfl B F X N T X₀ Z.htn ?off (by omega) (by omega) hb hvs hcs fun g r h' tk' tn' F' N' mk' htn' off' po' => ?_
  case off =>
    intro q hq z hz
    rcases List.mem_append.mp hq with hq | hq
    · exact htop q hq z hz
    · exact law_off Z q hq z hz
  refine ret g r h' tk' tn' F' (by rw [led_assoc]; exact N') (fun tl htl => ?_) (law_at_turn Z htn' fun q hq z hz => off' q (List.mem_append_right _ hq) z hz) (fun q hq z hz => off' q (List.mem_append_left _ hq) z hz) po'
  rw [led_assoc, ← List.append_assoc]
  exact (mk' tl htl).1
/-- told: the two dicts that are due -/
theorem law_read_parts (B : Below A₀ base [] h₀) (X : (hd.heap_39 w.params).In h₀) (T : Top p loose mean mg mb h₀) (X₀ : Root w p loose mean mg mb base) (hdp : dp + 20 < recursionLimit) (hun : un + 200 < cLine)
    (F : Fr h₀ L s.heap m) (N : News h₀ L s.heap (top ++ lawLed L R its nR objs tn o1 o2 o3)) (Z : LawAt L l R vs b its objs tn o1 o2 o3 v1) (htop : ∀ q ∈ top, ∀ z ∈ tn, z.1 ≠ q.1) (hb : KBw.bInts b' = enc vs' ++ cutOf cs) (hvs : VsOk vs') (hcs : CsOk st cs)
    (h1 : st = true → ∀ v ∈ vs', v.j < 6) (h2 : cs = none ∨ po = true)
    (ret : ∀ t' d1 d2 p1 p2 kvF kvP n h' tk' tn', Fr h₀ L h' m → News h₀ L h' ((t', ({ cls := .type "tuple", data := .seq #[.ref d1, .ref d2] n } : Obj)) :: (d2, p2) :: (d1, p1) :: (top ++ lawLed L R its nR objs tn' o1 o2 o3)) → LawAt L l R vs b its objs tn' o1 o2 o3 v1 → (∀ q ∈ top, ∀ z ∈ tn', z.1 ≠ q.1) →
      (d1 == sysModules) = false → (d2 == sysModules) = false → p1.IsDictOf (PySem.strKind prog w) kvF → p2.IsDictOf (PySem.strKind prog w) kvP → Pair2 PB kvF (dueF vs') → Pair2 PI kvP (dueP vs') → Q (.ref t') { s with heap := h', toks := tk' }) :
    wpAny (model prog w) ((ATop dp un gd []).deeper (lawEnv L)) (call (.ref 141) [.bytes b' t, .bool po, .bool st]) Q E s := by
  refine law_read B X T X₀ hdp hun F N Z htop hb hvs hcs fun g r h' tk' tn' F' N' mk' Z' off' po' => ?_
  rcases po' with ⟨_, _, t', d1, d2, p1, p2, kvF, kvP, n, rfl, _, q3, _, lo1, lo2, hF, hP, pF, pP⟩ | ⟨q1, ⟨v, hv, q2⟩, _⟩ | ⟨q1, q2, _⟩
  · exact ret t' d1 d2 p1 p2 kvF kvP n h' tk' tn' F' (mk' [_, _, _] fun q hq => q3 q (List.mem_append_left _ hq)) Z' off' lo1 lo2 hF hP pF pP
  · exact absurd (h1 q1 v hv) (by omega)
  · exact absurd h2 (by simp [q1, q2])
theorem law_read_odd (B : Below A₀ base [] h₀) (X : (hd.heap_39 w.params).In h₀) (T : Top p loose mean mg mb h₀) (X₀ : Root w p loose mean mg mb base) (hdp : dp + 20 < recursionLimit) (hun : un + 200 < cLine)
    (F : Fr h₀ L s.heap m) (N : News h₀ L s.heap (lawLed L R its nR objs tn o1 o2 o3)) (Z : LawAt L l R vs b its objs tn o1 o2 o3 v1) (hb : KBw.bInts b' = enc vs') (hvs : VsOk vs') (h1 : ∃ v ∈ vs', 6 ≤ v.j)
    (ret : ∀ h' tk' tn' t', Fr h₀ L h' m → News h₀ L h' (lawLed L R its nR objs tn' o1 o2 o3) → LawAt L l R vs b its objs tn' o1 o2 o3 v1 → Q (.str (Str.ofString "unknown") t') { s with heap := h', toks := tk' }) :
    wpAny (model prog w) ((ATop dp un gd []).deeper (lawEnv L)) (call (.ref 141) [.bytes b' t, .bool po, .bool true]) Q E s := by
  refine law_read (top := []) (cs := none) B X T X₀ hdp hun F N Z (fun _ h => nomatch h) (by simpa [cutOf] using hb) hvs (fun v r e => nomatch e) fun g r h' tk' tn' F' N' mk' Z' off' po' => ?_
  obtain ⟨v, hv, h6⟩ := h1
  rcases po' with ⟨q1, _⟩ | ⟨_, _, t', rfl⟩ | ⟨q1, _⟩
  · exact absurd (q1 rfl v hv) (by omega)
  · exact ret h' tk' tn' t' F' N' Z'
  · exact absurd rfl q1
theorem law_read_broken (B : Below A₀ base [] h₀) (X : (hd.heap_39 w.params).In h₀) (T : Top p loose mean mg mb h₀) (X₀ : Root w p loose mean mg mb base) (hdp : dp + 20 < recursionLimit) (hun : un + 200 < cLine)
    (F : Fr h₀ L s.heap m) (N : News h₀ L s.heap (lawLed L R its nR objs tn o1 o2 o3)) (Z : LawAt L l R vs b its objs tn o1 o2 o3 v1) {v : Vec} {r : List Int} (hb : KBw.bInts b' = enc vs' ++ cutOf (some (v, r))) (hvs : VsOk vs') (hcs : CsOk false (some (v, r)))
    (ret : ∀ h' tk' tn' t', Fr h₀ L h' m → News h₀ L h' (lawLed L R its nR objs tn' o1 o2 o3) → LawAt L l R vs b its objs tn' o1 o2 o3 v1 → Q (.str (Str.ofString "malformed") t') { s with heap := h', toks := tk' }) :
    wpAny (model prog w) ((ATop dp un gd []).deeper (lawEnv L)) (call (.ref 141) [.bytes b' t, .bool false, .bool false]) Q E s := by
  refine law_read (top := []) (cs := some (v, r)) B X T X₀ hdp hun F N Z (fun _ h => nomatch h) hb hvs hcs fun g r h' tk' tn' F' N' mk' Z' off' po' => ?_
  rcases po' with ⟨_, q1, _⟩ | ⟨q1, _⟩ | ⟨_, _, t', rfl⟩
  · simp at q1
  · cases q1
  · exact ret h' tk' tn' t' F' N' Z'
end
end Mine
end

/-! Cut within a value. -/
section
open PySem PySem.W PyProof.Rows PySem.Calls
set_option Elab.async false
set_option maxRecDepth 100000
set_option maxHeartbeats 1000000
namespace Mine
theorem anewLawW0 : True := by
  w_top off
  trivial
theorem cut_mid {vs : List Vec} {q x : Nat} (hq : q < vs.length) (hx : x ≤ vs[q].ks.length) : (enc vs).take (at0 vs q + 3 + x) = enc (vs.take q) ++ cutOf (some (vs[q], vs[q].ks.take x)) := by
  rw [enc_split hq, show at0 vs q + 3 + x = (enc (vs.take q)).length + (3 + x) by simp only [at0]; omega, List.take_length_add_append, List.take_append_of_le_length (by rw [enc1_len]; omega)]
  congr 1
  simp only [enc1, cutOf]
  rw [show 3 + x = ([kindOf vs[q].j, (vs[q].ks.length : Int) / 256, (vs[q].ks.length : Int) % 256]).length + x by simp, List.take_length_add_append]
  rfl
theorem sum_lens (vs : List Vec) : ((vs.map fun v => ((enc1 v).length : Int)).sum) = ((enc vs).length : Int) := by
  induction vs with
  | nil => rfl
  | cons v r ih => rw [List.map_cons, List.sum_cons, ih, enc_cons, List.length_append]; omega
theorem ints_get : ∀ {vs : List Value} {ns : List Int}, IntsAre vs ns → ∀ {k : Nat} (h : k < vs.length), ∃ a t, vs[k]? = some (.int a t) ∧ a ∈ ns
  | _, _, .cons x t r, 0, _ => ⟨x, t, rfl, .head _⟩
  | _, _, .cons _ _ r, k + 1, h => by
    obtain ⟨a, t, e, m⟩ := ints_get r (k := k) (by simpa using h)
    exact ⟨a, t, by simpa using e, .tail _ m⟩
section
variable {prog : Program} {w : World} {A : Around} {E : Value → Shared → Prop} {s : Shared} {h₀ : Heap} {L D R : Addr} {m : Str → Option Value} {news : List (Addr × Obj)} {ys its : List Value} {ns : List Int} {n : Nat} {value slice : PySem.Expr}
theorem ints_pick {x : Int} {u : Tok} {Q : Value → Shared → Prop} (N : News h₀ L s.heap news) (hm : (D, W.listOf ys.toArray n) ∈ news) (hi : IntsAre ys ns) (hpos : 0 < ys.length) (hz : ys.length ≤ 1000)
    (h : ∀ a t, a ∈ ns → Q (.int a t) s)
    (hs : subscripted slice false (.ref D) (.int (x.fmod (ys.length : Int)) u) = operate [.ref D, .int (x.fmod (ys.length : Int)) u] (getItem (.ref D) (.int (x.fmod (ys.length : Int)) u)) := by with_unfolding_all rfl) :
    wpAny (model prog w) A (subscriptTail value slice (.ref D) (.int (x.fmod (ys.length : Int)) u)) Q E s := by
  have h0 : 0 ≤ x.fmod (ys.length : Int) := Int.fmod_nonneg_of_pos _ (by omega)
  have h1 : x.fmod (ys.length : Int) < (ys.length : Int) := Int.fmod_lt_of_pos _ (by omega)
  obtain ⟨a, t, e, ha⟩ := ints_get hi (k := (x.fmod (ys.length : Int)).toNat) (by omega)
  have hL : s.heap.IsList D ys.toArray := ⟨_, (N _ hm).1, rfl, _, rfl⟩
  exact tail_any hL.typeIs slot_list_getitem.lookup (wpAny_getItem_list hL h0 (by omega) (by simpa using e) (h a t ha)) hs
theorem rows_take {k : Nat} {x : Int} {tx : Tok} {Q : Value → Shared → Prop} (F : Fr h₀ L s.heap m) (N : News h₀ L s.heap news) (hm : (R, W.listOf its.toArray n) ∈ news) (hx : x = (k : Int)) (hz : its.length ≤ 1000)
    (h : ∀ D h', Fr h₀ L h' m → News h₀ L h' ((D, W.listOf (its.take k).toArray 0) :: news) → (∀ p ∈ news, p.1 < D) → Q (.ref D) { s with heap := h' })
    (hs : subscripted slice false (.ref R) (.ref s.heap.objs.size) = operate [.ref s.heap.objs.size, .ref R] (getItem (.ref R) (.ref s.heap.objs.size)) := by with_unfolding_all rfl) (ht : ∀ r, letTemporaryGo value (.ref R) r = pure () := by intro _; with_unfolding_all rfl) :
    wpAny (model prog w) A (subscriptTail value slice (.ref R) (.ref s.heap.objs.size)) Q E { s with heap := s.heap.push { cls := .type "slice", data := .fields #[.none, .int x tx, .none] } } := by
  subst hx
  have e : slicePick its.toArray none (some (k : Int)) none = (its.take k).toArray := by
    rw [kmk_pick_nat its.toArray (lo := none) (hi := some (k : Int)) (a := 0) (b := min k its.length)]
    · simp [kmk_take_min]
    · rw [sliceBounds_plain, List.size_toArray]
      show (((0 : Nat) : Int), ((clipAt its.length (k : Int) : Nat) : Int), (1 : Int)) = _
      rw [clipAt_nat]
  exact kmk_slice F N ⟨_, (N _ hm).1, rfl, _, rfl⟩ .none (.int _ _) (fun D h' F' N' l1 => h D h' F' (by rw [e] at N'; exact N') l1) hs ht (by rw [List.size_toArray, sizeLine_eq]; omega)
end
end Mine
end

/-! The law up to its loop. -/
section
open PySem PySem.W PyProof.Rows PySem.Calls PyProof.Rows.LCg
set_option Elab.async false
set_option maxRecDepth 100000
set_option maxHeartbeats 2000000
namespace Mine
theorem anewLawA : True := by
  w_top off
  trivial
local macro_rules | `(tactic| k_all) => `(tactic| assumption)
local macro_rules | `(tactic| k_all) => `(tactic| exact tn_ne (by assumption) (by omega))
local macro_rules | `(tactic| walk_at "eval ListComp") => `(tactic| (k_here; refine halt ?_))
local macro_rules | `(tactic| walk_at "getMethod bytes") => `(tactic| (k_here; (with_reducible refine method_join ?_)))
local macro_rules | `(tactic| walk_at "call builtin:bytes.join") => `(tactic| (k_here; k_dflt (refine' call_join ?N ?m ?c ?d ?v ?z ?_; (case N => k_asm); (case m => k_mem); (case c => rfl); (case d => rfl); (case v => assumption); (case z => exact Nat.le_trans (by assumption) (by omega))); intro r8 t8 k8 i8; (try dsimp only)))
local macro_rules | `(tactic| walk_at "call ref") => `(tactic| (k_here; (with_reducible show wpAny _ _ (call (Value.ref 134) _) _ _ _); refine halt ?_))
local macro_rules | `(tactic| walk_at "execs cons") => `(tactic| (k_here; (with_reducible show wpAny _ _ (execs (Stmt.For _ _ _ _ _ :: _) _) _ _ _); refine halt ?_))
local macro_rules | `(tactic| walk_at "call ref") => `(tactic| (k_here; (with_reducible show wpAny _ _ (call (Value.ref 115) _) _ _ _); k_dflt (
  (refine' (draw_tel _ _ _ _ _).useZ ?k1 ?k2 ?k3 ?k4 ?k5 ?k6 ?k7 ?k8 ⟨_, _, stays_list (Fr.keep ?k9) ?kL, ?kI, ?kJ, ?ka, ?kb⟩ ?_; (case k1 => k_asm); (case k2 => k_asm); (case k3 => k_asm); (case k4 => k_asm); (case k5 => k_asm); (case k6 => exact rfl); (case k7 => (dsimp only [ATop, Around.deeper]; omega)); (case k8 => (dsimp only [ATop, Around.deeper]; omega)); (case k9 => k_asm); (case kL => assumption); (case kI => assumption); (case kJ => assumption); (case ka => omega); (case kb => omega));
  intro r9 h9 tk9 F9 N9 mk9 po9;
  obtain ⟨n9, t9, e9⟩ := po9;
  subst e9; clear mk9; (try dsimp only); (try k_sweep))))
local macro_rules | `(tactic| walk_at "call ref") => `(tactic| (k_here; (with_reducible show wpAny _ _ (call (Value.ref 122) _) _ _ _); k_dflt (
  (refine' (vector_tel _ _ _ _).useZ ?k1 ?k2 ?k3 ?k4 ?k5 ?k6 ?k7 ?k8 trivial ?_; (case k1 => k_asm); (case k2 => k_asm); (case k3 => k_asm); (case k4 => k_asm); (case k5 => k_asm); (case k6 => exact rfl); (case k7 => (dsimp only [ATop, Around.deeper]; omega)); (case k8 => (dsimp only [ATop, Around.deeper]; omega)));
  intro r9 h9 tk9 F9 N9 mk9 po9;
  obtain ⟨a9, o9, v9, e9, z9, i9⟩ := po9;
  subst e9; (have N10 := (mk9 _ z9).1); (have off9 := (mk9 _ z9).2 _ (.head _)); (simp only [List.cons_append, List.nil_append] at N10); clear N9 mk9 z9; (try dsimp only); (try k_sweep))))
local macro_rules | `(tactic| walk_at "storeName") => `(tactic| (k_here; (with_reducible show wpAny _ _ (storeName (compEnvC _ _ _ _) _ _) _ _ _); k_dflt (refine' comp_store ?F ?N ?U ?C ?_ ?a ?b; (case a => rfl); (case b => rfl); (case F => k_asm); (case N => k_asm); (case U => k_updF); (case C => assumption); k_whole); intro h8 oC8 F8 N8 C8; (try dsimp only at N8); (try k_sweep)))
local macro_rules | `(tactic| walk_at "eval Name") => `(tactic| (k_here; (with_reducible show wpAny _ _ (eval (Expr.Name _ _) (compEnvC _ _ _ _)) _ _ _); k_dflt (refine' LCgL.ld_own ?N ?m ?C ?x ?_ ?a ?b ?c; (case b => rfl); (case a => rfl); (case c => decide); (case N => k_asm); (case m => k_mem); (case C => assumption); (case x => rfl); k_whole)))
def HeadIv (L : Addr) (cells tn : List (Addr × Obj)) (i : Nat) (ys : List Value) (nw : List (Addr × Obj)) : Prop :=
  ∃ objs vs, nw = objs ++ (cells ++ tn) ∧ RowsL objs ys vs ∧ vs.length = i ∧ (∀ v ∈ vs, v.j < 8 ∧ v.ks.length ≤ 300) ∧ (∀ q ∈ objs, @Ne Nat q.1 (L + 1) ∧ @Ne Nat q.1 (L + 1 + 1) ∧ @Ne Nat q.1 (L + 1 + 1 + 1)) ∧ ∀ q ∈ objs, ∀ z ∈ tn, z.1 ≠ q.1
theorem fmod_small {a b : Int} (h : 0 < b) : 0 ≤ a.fmod b ∧ a.fmod b < b := ⟨Int.fmod_nonneg_of_pos _ h, Int.fmod_lt_of_pos _ h⟩
theorem law_head {prog : Program} {w : World} {dp un : Nat} {gd : Option (List Code)} {A₀ : Around} {base : Heap} {s : Shared} {p : Program} {loose : List Str} {mean : ExcName → Option Value} {mg mb : Str → Option Value} {tn : List (Addr × Obj)} {R : Result → Shared → Prop}
   {l : Addr} {vals : List Value} {ns : List Int}
   (htn : TnOk parsPos parsQual tn) (NT : ∀ q ∈ tn, s.heap.get? q.1 = some q.2) (X : (hd.heap_39 w.params).In (hid s.heap tn)) (T : Top p loose mean mg mb (hid s.heap tn)) (B : Below A₀ base [] (hid s.heap tn))
   (hdp : dp + 20 < recursionLimit) (hun : un + 200 < cLine) (X₀ : Root w p loose mean mg mb base) (hl : (hid s.heap tn).IsList l vals.toArray) (hi : IntsAre vals ns) (h63 : ns.length ≤ 63)
   (hnext : ∀ L Ra b t vs its nR objs tn' o1 o2 o3 v1 m h' tk', Fr (hid s.heap tn) L h' m → News (hid s.heap tn) L h' (lawLed L Ra its nR objs tn' o1 o2 o3) → LawAt L l Ra vs b its objs tn' o1 o2 o3 v1 → vs.length ≤ 3 → m (Str.ofString "raw") = some (.bytes b t) →
      wpAny (model prog w) ((ATop dp un gd []).deeper (lawEnv L)) (execs (lawBody.drop 3) (lawEnv L)) (fun fl s' => R (.ok (.ret (match fl with | .ret v => v | _ => .none))) s')
        (fun e s' => wpAny (model prog w) ((ATop dp un gd []).deeper (lawEnv L)) (leaving (lawEnv L) e) (fun _ s'' => R (.error e) s'') (fun e' s'' => R (.error e') s'') s')
        { s with heap := h', toks := tk' }) :
   codeAny (model prog w) (ATop dp un gd []) (.call (.ref 146) ⟨[.ref l], []⟩) R s := by
  refine' code_enterC (K := hd.heap_39 _) NT X T ?k6 ?k7 ?k8 ?k9 ?kB ?kD ?_ ?c2 ?c3 ?c4
  case k6 => k_is
  case k7 => k_is
  case k8 => dsimp only [ATop]; omega
  case k9 => first | exact BindsTo.of_eq rfl | exact binds_K (X.keeps hid_stays) rfl (by k_is) rfl rfl rfl
  case kB => exact rfl
  case kD => decide +kernel
  case c2 => exact rfl
  case c3 => exact rfl
  case c4 => exact rfl
  intro L' h' tk' cells' F' N' Y' l1
  obtain ⟨o1', o2', o3', hE', d1', d2', d3'⟩ := CellsAre.three Y'
  subst hE'
  replace d1' : o1'.data = .cell none := d1'
  replace d2' : o2'.data = .cell none := d2'
  replace d3' : o3'.data = .cell (some (.ref l)) := d3'
  clear Y'
  replace F' : Fr (hid s.heap tn) L' h' (fun _ => none) := F'
  (try simp only [List.cons_append, List.nil_append] at N')
  (try dsimp only)
  all_goals try k_fold
  k_steps
  refine Halt.go ?_
  refine' comp_eval ?h2 ?h3 ?h4 ?_
  case h2 => with_unfolding_all rfl
  case h3 => exact rfl
  case h4 => decide
  k_steps
  (rename IsRange _ _ _ _ _ _ _ _ => rg9)
  (with_reducible rename Fr _ _ _ _ => F9)
  (with_reducible rename News _ _ _ _ => N9)
  rename Int => n9
  have hm9 := fmod_small (a := n9) (b := 4) (by decide)
  refine' compgo_range (HeadIv L' [(L' + 1 + 1 + 1, o1'), (L' + 1 + 1, o2'), (L' + 1, o3')] tn) ?klet rfl rg9 ?small (rangeSize_nat _ _) ?sz ?cell rfl F9 N9 ?h0 ?turn ?hRR
  case klet => intro I v; rfl
  case small => exact small_one (by decide) (by decide) (by omega) (by omega)
  case sz => rw [sizeLine_eq]; omega
  case cell => decide
  case h0 => refine ⟨[], [], rfl, .nil, rfl, ?_, ?_, ?_⟩ <;> simp
  case turn =>
    rintro i ti ys I oI C oC D m₂ nw h tk E' hin ⟨objs, vs, rfl, hrows, hvl, hok, hcl, hoff⟩ hC F₂ N₂ offn ⟨ne1, ne2, ne3⟩
    replace N₂ := news_sub (l' := (D, lst ys) :: (C, oC) :: (I, oI) :: (L' + 1 + 1 + 1, o1') :: (L' + 1 + 1, o2') :: (L' + 1, o3') :: (objs ++ tn)) N₂ (by
      intro q hq
      simp only [List.mem_append, List.mem_cons, List.not_mem_nil, or_false] at hq ⊢
      grind)
    replace ne1 := neN ne1
    replace ne3 := neN ne3
    have a1 := neN (offn (L' + 1 + 1 + 1, o1') (by simp)).2.1
    have a2 := neN (offn (L' + 1 + 1, o2') (by simp)).2.1
    have a3 := neN (offn (L' + 1, o3') (by simp)).2.1
    have offC : ∀ q ∈ objs ++ tn, q.1 ≠ C := fun q hq => (offn q (by simp only [List.mem_append, List.mem_cons, List.not_mem_nil, or_false] at hq ⊢; grind)).2.1
    dsimp only at a1 a2 a3
    k_sweep
    k_steps
    (with_reducible rename IsVec _ _ => i9)
    (with_reducible rename News _ _ _ _ => N10)
    (with_reducible rename Fr _ _ _ _ => F10)
    (with_reducible rename NsObj _ _ => C10)
    rename (∀ q ∈ (D, lst ys) :: _, _ ≠ _) => off9
    rename Vec => v9
    rename Addr => a9
    have i9' := i9
    obtain ⟨_, _, _, _, _, _, _, _, _, hj9, hk9⟩ := i9'
    refine cend_of (nw := (_ :: objs) ++ ([(L' + 1 + 1 + 1, o1'), (L' + 1 + 1, o2'), (L' + 1, o3')] ++ tn)) F10 C10 (news_sub N10 ?sub) ?offI ⟨_ :: objs, vs ++ [v9], rfl, RowsL.app (hrows.mono fun q hq => .tail _ hq) (.cons (.head _) i9 .nil), by rw [List.length_append, hvl]; rfl, ?ok, ?cl, ?off⟩
    case sub =>
      intro q hq
      simp only [List.mem_append, List.mem_cons, List.not_mem_nil, or_false] at hq ⊢
      grind
    case offI =>
      intro q hq
      rcases List.mem_cons.mp hq with rfl | hq
      · exact ⟨off9 (I, oI) (by simp), off9 (C, _) (.tail _ (.head _)), off9 (D, lst ys) (by simp)⟩
      · exact offn q hq
    case ok =>
      intro v hv
      rcases List.mem_append.mp hv with hv | hv
      · exact hok v hv
      · rw [List.mem_singleton.mp hv]; exact ⟨hj9, hk9⟩
    case cl =>
      intro q hq
      rcases List.mem_cons.mp hq with rfl | hq
      · exact ⟨off9 (L' + 1, o3') (by simp), off9 (L' + 1 + 1, o2') (by simp), off9 (L' + 1 + 1 + 1, o1') (by simp)⟩
      · exact hcl q hq
    case off =>
      intro q hq z hz
      rcases List.mem_cons.mp hq with rfl | hq
      · exact (off9 z (by simp [hz])).symm
      · exact hoff q hq z hz
  case hRR =>
    rintro D C h tk m' ys nw hM ⟨objs, vs, rfl, hrows, hvl, hok, hcl, hoff⟩
    refine made_eval hM fun h' F₂ N₂ offn => ?_
    replace N₂ := news_sub (l' := (L' + 1 + 1 + 1, o1') :: (L' + 1 + 1, o2') :: (L' + 1, o3') :: (D, W.listOf ys.toArray ys.length) :: (objs ++ tn)) N₂ (by
      intro q hq
      simp only [List.mem_append, List.mem_cons, List.not_mem_nil, or_false] at hq ⊢
      grind)
    have a1 := neN (offn (L' + 1 + 1 + 1, o1') (by simp))
    have a2 := neN (offn (L' + 1 + 1, o2') (by simp))
    have a3 := neN (offn (L' + 1, o3') (by simp))
    have e1 : ∀ q ∈ objs ++ tn, q.1 ≠ L' + 1 + 1 + 1 := fun q hq => by
      rcases List.mem_append.mp hq with hq | hq
      · exact (hcl q hq).2.2
      · exact tn_ne l1 (by omega) q hq
    have e2 : ∀ q ∈ objs ++ tn, q.1 ≠ L' + 1 + 1 := fun q hq => by
      rcases List.mem_append.mp hq with hq | hq
      · exact (hcl q hq).2.1
      · exact tn_ne l1 (by omega) q hq
    have e3 : ∀ q ∈ objs ++ tn, q.1 ≠ L' + 1 := fun q hq => by
      rcases List.mem_append.mp hq with hq | hq
      · exact (hcl q hq).1
      · exact tn_ne l1 (by omega) q hq
    have e4 : ∀ q ∈ objs ++ tn, q.1 ≠ D := fun q hq => offn q (by simp only [List.mem_append, List.mem_cons, List.not_mem_nil, or_false] at hq ⊢; grind)
    dsimp only at a1 a2 a3
    try dsimp only
    try k_sweep
    k_steps
    refine Halt.go ?_
    rename Obj => o8
    rename (o8.data = _) => d8
    refine' comp_eval ?h5 ?h6 ?h7 ?_
    case h5 => with_unfolding_all rfl
    case h6 => exact rfl
    case h7 => decide
    have hil := hrows.length
    have hsz : enc vs = (vs.map enc1).flatten := rfl
    have hsz := enc_le vs fun v hv => (hok v hv).2
    k_steps
    (with_reducible rename Fr _ _ _ _ => F11)
    (with_reducible rename News _ _ _ _ => N11)
    try dsimp only
    refine' compgo_list (lo := W.listOf ys.toArray ys.length) (its := ys) (m := ?m2) (news := ?news2) (fun i ys nw => nw = ?news2 ∧ ByteVals ys ((vs.take i).map enc1)) rfl rfl rfl rfl (.inr ?kin2) ?sz2 (by decide) rfl F11 N11 ⟨rfl, .nil⟩ ?turn2 ?hRR2
    case sz2 => rw [sizeLine_eq]; omega
    case kin2 =>
      rintro i ys nw ⟨rfl, _⟩
      simp
    case turn2 =>
      rintro i v ys₂ I oI C oC D₂ m₂ nw h tk E' hv ⟨rfl, hys⟩ hC F₂ N₂ offn ⟨ne1, ne2, ne3⟩
      have hiv : i < vs.length := by rw [← hil]; exact (List.getElem?_eq_some_iff.mp hv).1
      obtain ⟨a, o, q1, q2, q3⟩ := hrows.get (List.getElem?_eq_getElem hiv)
      rw [hv] at q1; cases q1
      obtain ⟨t1, b1, t2, c1, t3, n3, rfl, hb1, hc1, hj1, hk1⟩ := q3
      have hT : IsTup h a #[.str (nameOf vs[i].j) t1, .bytes b1 t2, .bytes c1 t3] := ⟨_, (N₂ _ (List.mem_append_left _ (.tail _ (.tail _ (.tail _ (.tail _ (List.mem_append_left _ q2))))))).1, rfl, n3, rfl⟩
      replace N₂ := news_in N₂
      simp only [List.cons_append, List.nil_append] at N₂
      have offn' := offn
      obtain ⟨⟨a4, a5, a6⟩, offn⟩ := List.forall_mem_cons.mp offn
      obtain ⟨⟨b4, b5, b6⟩, offn⟩ := List.forall_mem_cons.mp offn
      obtain ⟨⟨c4, c5, c6⟩, offn⟩ := List.forall_mem_cons.mp offn
      obtain ⟨⟨g4, g5, g6⟩, offn⟩ := List.forall_mem_cons.mp offn
      have offC : ∀ q ∈ objs ++ tn, q.1 ≠ C := fun q hq => (offn q hq).2.1
      replace ne1 := neN ne1
      replace ne3 := neN ne3
      replace a5 := neN a5
      replace b5 := neN b5
      replace c5 := neN c5
      replace g5 := neN g5
      k_sweep
      k_steps
      refine cend_of (by k_asm) (by assumption) (by k_asm) offn' ⟨rfl, ?_⟩
      rw [take_next hiv, List.map_append]
      exact hys.snoc hc1
    case hRR2 =>
      rintro D₂ C h tk m' ys₂ nw hM ⟨rfl, hys⟩
      refine made_eval hM fun h' F₂ N₂ offn => ?_
      rw [hil, List.take_length] at hys
      try dsimp only
      try k_sweep
      k_steps
      refine Halt.go ?_
      (with_reducible rename Fr _ _ _ _ => F12)
      (with_reducible rename News _ _ _ _ => N12)
      rename (KBw.bInts _ = _) => i8
      have hbr : KBw.bInts _ = enc vs := i8
      have e5 : ∀ q ∈ objs ++ tn, @Ne Nat q.1 (L' + 1) ∧ @Ne Nat q.1 (L' + 1 + 1) ∧ @Ne Nat q.1 (L' + 1 + 1 + 1) ∧ @Ne Nat q.1 D := fun q hq => ⟨e3 q hq, e2 q hq, e1 q hq, e4 q hq⟩
      refine wpAny_call ?_
      refine (good_N hbr ⟨by omega, hok⟩).use (news := (L' + 1 + 1 + 1, o1') :: (L' + 1 + 1, o8) :: (L' + 1, o3') :: (D, W.listOf ys.toArray ys.length) :: objs) rfl rfl rfl B F12 X ?N T X₀ htn ?koff (by (dsimp only [ATop, Around.deeper]; omega)) (by (dsimp only [ATop, Around.deeper]; omega)) ?kpre ?kret
      case N => exact news_sub N12 fun q hq => .tail _ hq
      case koff =>
        intro q hq z hz
        rcases List.mem_cons.mp hq with rfl | hq
        · exact e1 z (List.mem_append_right _ hz)
        rcases List.mem_cons.mp hq with rfl | hq
        · exact e2 z (List.mem_append_right _ hz)
        rcases List.mem_cons.mp hq with rfl | hq
        · exact e3 z (List.mem_append_right _ hz)
        rcases List.mem_cons.mp hq with rfl | hq
        · exact e4 z (List.mem_append_right _ hz)
        exact hoff q hq z hz
      case kpre =>
        intro g Fg Ng
        exact ⟨ys, ⟨_, (Ng (D, _) (.tail _ (.tail _ (.tail _ (.head _))))).1, rfl, _, rfl⟩, hrows.inn fun q hq => (Ng q (.tail _ (.tail _ (.tail _ (.tail _ hq))))).1⟩
      case kret =>
        rintro g r h6 tk6 tn6 Fg6 Ng6 st6 F6 mk6 htn6 rfl
        obtain ⟨N6, off6⟩ := mk6 [] (fun _ hq => nomatch hq)
        simp only [List.cons_append, List.nil_append] at N6 off6
        try dsimp only
        try k_sweep
        k_steps
        refine Halt.go ?_
        refine hnext _ D _ _ vs ys _ objs tn6 o1' o8 o3' none _ _ _ F6 N6 ⟨hbr, hok, d1', d8, d3', hrows, htn6, ⟨a3.symm, a2.symm, a1.symm⟩, ?c6, ?f6⟩ (by omega) rfl
        case c6 =>
          intro q hq
          rcases List.mem_append.mp hq with hq | hq
          · exact e5 q (List.mem_append_left _ hq)
          · exact ⟨off6 q hq _ (.tail _ (.tail _ (.head _))), off6 q hq _ (.tail _ (.head _)), off6 q hq _ (.head _), off6 q hq (D, _) (.tail _ (.tail _ (.tail _ (.head _))))⟩
        case f6 =>
          intro q hq z hz
          exact off6 z hz q (.tail _ (.tail _ (.tail _ (.tail _ hq))))
end Mine
end

/-! A turn of the law's loop. -/
section
open PySem PySem.W PyProof.Rows PySem.Calls PyProof.Rows.LCg
set_option Elab.async false
set_option maxRecDepth 100000
set_option maxHeartbeats 2000000
namespace Mine
theorem anewLawT2 : True := by
  w_top off
  trivial
local macro_rules | `(tactic| k_all) => `(tactic| assumption)
local macro_rules | `(tactic| k_ne) => `(tactic| (refine neN ?_; (try dsimp only); first | assumption | (refine Ne.symm ?_; assumption) | exact Nat.ne_of_lt (by assumption) | exact Nat.ne_of_gt (by assumption) | omega))
local macro_rules | `(tactic| walk_at "call ref") => `(tactic| (k_here; (with_reducible show wpAny _ _ (call (Value.ref 115) _) _ _ _); k_dflt (
  (refine' (draw_tel _ _ _ _ _).useZ ?k1 ?k2 ?k3 ?k4 ?k5 ?k6 ?k7 ?k8 ⟨_, _, stays_list (Fr.keep ?k9) ?kL, ?kI, ?kJ, ?ka, ?kb⟩ ?_; (case k1 => k_asm); (case k2 => k_asm); (case k3 => k_asm); (case k4 => k_asm); (case k5 => k_asm); (case k6 => exact rfl); (case k7 => (dsimp only [ATop, Around.deeper]; omega)); (case k8 => (dsimp only [ATop, Around.deeper]; omega)); (case k9 => k_asm); (case kL => assumption); (case kI => assumption); (case kJ => assumption); (case ka => omega); (case kb => omega));
  intro r9 h9 tk9 F9 N9 mk9 po9;
  obtain ⟨n9, t9, e9⟩ := po9;
  subst e9; clear mk9; (try dsimp only); (try k_sweep))))
local macro_rules | `(tactic| walk_at "call ref") => `(tactic| (k_here; (with_reducible show wpAny _ _ (call (Value.ref 122) _) _ _ _); refine halt ?_))
local macro_rules | `(tactic| walk_at "execs cons") => `(tactic| (k_here; (with_reducible show wpAny _ _ (execs (Stmt.If (Expr.UnaryOp _ _ _) _ _ _ :: _) _) _ _ _); refine halt ?_))
local macro_rules | `(tactic| walk_at "eval ListComp") => `(tactic| (k_here; refine halt ?_))
local macro_rules | `(tactic| walk_at "call builtin:sorted") => `(tactic| (k_here; refine halt ?_))
local macro_rules | `(tactic| walk_at "compareOp Eq ref ref") => `(tactic| (k_here; k_dflt (refine' names_eq_nil ?N ?m1 ?S ?hn ?m2 ?c ?d ?u ?_; (case N => k_asm); (case m1 => k_mem); (case S => assumption); (case hn => assumption); (case m2 => k_mem); (case c => exact rfl); (case d => exact rfl); (case u => (dsimp only [ATop, Around.deeper]; omega)))))
local macro_rules | `(tactic| walk_at "call builtin:list.append") => `(tactic| (k_here; (with_reducible show wpAny _ _ (call (Value.builtin _) [Value.ref _, _]) _ _ _); k_dflt (refine' rows_append ?k1 ?k2 ?k3 ?k4 ?_; (case k1 => k_asm); (case k2 => k_asm); (case k3 => k_upd); (case k4 => assumption); k_whole); intro h' F' N'; (try k_sweep)))
local macro_rules | `(tactic| walk_at "call builtin:len") => `(tactic| (k_here; (with_reducible show wpAny _ _ (call (Value.builtin _) [Value.ref _]) _ _ _); refine halt ?_))
local macro_rules | `(tactic| lcg_sub) => `(tactic| (intro q hq; (repeat (first | exact hq | refine List.Mem.tail _ ?_)); done))
local macro_rules | `(tactic| walk_at "subscriptTail") => `(tactic| (k_here; (with_reducible show wpAny _ _ (subscriptTail _ _ (Value.ref _) (Value.str _ _)) _ _ _); k_dflt (refine' kda_item (knd := PySem.strKind _ _) ?N ?m ?d (strKind_is _ _ _ _) ?v ?_ ?s ?g; (case N => k_asm); (case m => k_mem); (case d => assumption); (case v => assumption); (case s => with_unfolding_all rfl); (case g => (intro _; with_unfolding_all rfl)); k_whole)))
local macro_rules | `(tactic| walk_at "storeName") => `(tactic| (k_here; (with_reducible show wpAny _ _ (storeName (compEnvC _ _ _ _) _ _) _ _ _); k_dflt (refine' comp_store ?F ?N ?U ?C ?_ ?a ?b; (case a => rfl); (case b => rfl); (case F => k_asm); (case N => k_asm); (case U => k_updF); (case C => assumption); k_whole); intro h8 oC8 F8 N8 C8; (try dsimp only at N8); (try k_sweep)))
local macro_rules | `(tactic| walk_at "eval Name") => `(tactic| (k_here; (with_reducible show wpAny _ _ (eval (Expr.Name _ _) (compEnvC _ _ _ _)) _ _ _); k_dflt (refine' LCgL.ld_own ?N ?m ?C ?x ?_ ?a ?b ?c; (case b => rfl); (case a => rfl); (case c => decide); (case N => k_asm); (case m => k_mem); (case C => assumption); (case x => rfl); k_whole)))
local macro_rules | `(tactic| walk_at "subscriptTail") => `(tactic| (k_here; (with_reducible show wpAny _ _ (subscriptTail _ _ (Value.ref _) (Value.int _ _)) _ _ _); k_dflt (refine' rows_item ?N ?m ?r ?u ?x ?l ?z ?_ ?s; (case N => k_asm); (case m => k_mem); (case r => assumption); (case u => (intro q hq; repeat (first | exact List.mem_append_left _ hq | refine List.Mem.tail _ ?_))); (case x => first | exact Int.zero_add _ | exact rfl); (case l => assumption); (case z => assumption); (case s => with_unfolding_all rfl); k_whole); intro a9 o9 ha9 hv9 hT9; (obtain ⟨u1', b', u2', c', u3', n', eo', hb', hc', hj', hk'⟩ := hv9); subst eo'; (dsimp only at hT9)))
def HitsIv (vs : List Vec) (k : Nat) (x : Str) (led : List (Addr × Obj)) (i : Nat) (ys : List Value) (nw : List (Addr × Obj)) : Prop :=
  nw = led ∧ ys.length ≤ i ∧ ∃ ns, IntsAre ys ns ∧ (∀ a ∈ ns, ∃ q : Nat, a = (q : Int) ∧ ∃ h : q < vs.length, nameOf vs[q].j = x) ∧ (k < i → (k : Int) ∈ ns)
local macro_rules | `(tactic| walk_at "execs cons") => `(tactic| (k_here; (with_reducible show wpAny _ _ (execs (Stmt.If (Expr.Compare _ _ _ _) _ _ _ :: _) _) _ _ _); refine halt ?_))
local macro_rules | `(tactic| walk_at "call builtin:max") => `(tactic| (k_here; refine halt ?_))
theorem law_turn {prog : Program} {w : World} {dp un : Nat} {gd : Option (List Code)} {A₀ : Around} {base h₀ : Heap} {s : Shared} {p : Program} {loose : List Str} {mean : ExcName → Option Value} {mg mb : Str → Option Value}
   {L l R I : Addr} {oI o1 o2 o3 : Obj} {vs : List Vec} {b : Array UInt8} {t ti : Tok} {its : List Value} {nR i : Nat} {objs tn : List (Addr × Obj)} {v1 : Option Value} {m : Str → Option Value} {Q : Flow → Shared → Prop} {E : Value → Shared → Prop} {vals : List Value} {ns : List Int}
   (B : Below A₀ base [] h₀) (X : (hd.heap_39 w.params).In h₀) (T : Top p loose mean mg mb h₀) (X₀ : Root w p loose mean mg mb base) (hdp : dp + 20 < recursionLimit) (hun : un + 200 < cLine) (hl : h₀.IsList l vals.toArray) (hi : IntsAre vals ns) (h63 : ns.length ≤ 63)
   (F : Fr h₀ L s.heap m) (N : News h₀ L s.heap (lawLed L R its nR ((I, oI) :: objs) tn o1 o2 o3)) (Z : LawAt L l R vs b its ((I, oI) :: objs) tn o1 o2 o3 v1) (hrows : RowsL objs its vs) (hI : ∀ q ∈ objs, q.1 ≠ I) (hlen : vs.length ≤ 3 + i) (hi8 : i < 8) (hraw : m (Str.ofString "raw") = some (.bytes b t)) (hk : m (Str.ofString "k") = some (.int (i : Int) ti))
   (ret : ∀ R' vs' b' its' nR' objs' tn' o1' o2' o3' v1' m' h' tk' t', Fr h₀ L h' m' → News h₀ L h' (lawLed L R' its' nR' ((I, oI) :: objs') tn' o1' o2' o3') → LawAt L l R' vs' b' its' ((I, oI) :: objs') tn' o1' o2' o3' v1' → RowsL objs' its' vs' → (∀ q ∈ objs', q.1 ≠ I) → vs'.length ≤ 3 + (i + 1) → m' (Str.ofString "raw") = some (.bytes b' t') → Q .next { s with heap := h', toks := tk' }) :
   wpAny (model prog w) ((ATop dp un gd []).deeper (lawEnv L)) (execs lawFor (lawEnv L)) Q E s := by
  dsimp only [lawEnv]
  generalize hsc : lawScope = sc
  conv at hsc => lhs; whnf
  subst hsc
  generalize hbd : lawFor = bd
  conv at hbd => lhs; whnf
  subst hbd
  rw [m_at hraw] at F
  rw [m_at hk] at F
  have d1 := Z.d1
  have d2 := Z.d2
  have d3 := Z.d3
  dsimp only [lawLed, List.cons_append] at N
  have c1 := neN Z.cR.1
  have c2 := neN Z.cR.2.1
  have c3 := neN Z.cR.2.2
  obtain ⟨c4, c5, c6, c7⟩ := Z.cells (I, oI) (.head _)
  have e1 : ∀ q ∈ objs ++ tn, q.1 ≠ L + 1 + 1 + 1 := fun q hq => (Z.cells q (.tail _ hq)).2.2.1
  have e4 : ∀ q ∈ objs ++ tn, q.1 ≠ R := fun q hq => (Z.cells q (.tail _ hq)).2.2.2
  k_steps
  refine Halt.go ?_
  (with_reducible rename Fr _ _ _ _ => F1)
  (with_reducible rename News _ _ _ _ => N1)
  refine (vector_tel prog w _ _).useZ (A₀ := A₀) B F1 X N1 T rfl (by (dsimp only [ATop, Around.deeper]; omega)) (by (dsimp only [ATop, Around.deeper]; omega)) trivial fun r h2 tk2 F2 N2 mk2 po2 => ?_
  obtain ⟨aN, o, v, rfl, z2, tN1, bN, tN2, cN, tN3, nN, rfl, hbN, hcN, hjN, hkN⟩ := po2
  obtain ⟨N2', offN⟩ := mk2 _ z2
  replace offN := offN _ (.head _)
  simp only [List.cons_append, List.nil_append] at N2'
  clear N2 mk2 z2 F1 N1
  have fN1 := neN (offN (L + 1 + 1 + 1, o1) (by simp))
  have fN2 := neN (offN (L + 1 + 1, o2) (by simp))
  have fN3 := neN (offN (L + 1, o3) (by simp))
  have fN4 := neN (offN (R, W.listOf its.toArray nR) (by simp))
  have fN5 := neN (offN (I, oI) (by simp))
  have fN6 : ∀ q ∈ objs ++ tn, aN ≠ q.1 := fun q hq => offN q (.tail _ (.tail _ (.tail _ (.tail _ (.tail _ hq)))))
  dsimp only at fN1 fN2 fN3 fN4 fN5 c4 c5 c6 c7
  clear offN
  try dsimp only
  k_sweep
  k_steps
  refine call_meth (by k_asm) (by k_mem) ?_
  (with_reducible rename Fr _ _ _ _ => F3)
  (with_reducible rename News _ _ _ _ => N3)
  rename (_ < _ ∧ _) => l3
  refine parse_use (news := _ :: _ :: _ :: _ :: _ :: _ :: _ :: objs) (kw := []) (fun s X => parse_binds1 X) rfl rfl rfl B F3 X N3 T X₀ Z.htn ?off1 (by (dsimp only [ATop, Around.deeper]; omega)) (by (dsimp only [ATop, Around.deeper]; omega)) Z.hb ⟨by omega, Z.ok⟩ ?_
  case off1 =>
    have cz := fun z (hz : z ∈ tn) => Z.cells z (List.mem_append_right _ hz)
    have l4 := allLt_mem l3.2.2.2.2.2.2
    exact off_cons (fun z hz => l4 z (List.mem_append_right _ hz)) (off_cons (fun z hz => (fN6 z (List.mem_append_right _ hz)).symm) (off_cons (fun z hz => (cz z hz).2.2.1) (off_cons (fun z hz => (cz z hz).2.1) (off_cons (fun z hz => (cz z hz).1) (off_cons (fun z hz => (cz z hz).2.2.2) (off_cons (fun z hz => Z.off _ (.head _) z hz) fun q hq z hz => Z.off q (.tail _ hq) z hz))))))
  intro t4 d1' d2' oF oP kvF kvP n4 h4 tk4 tn4 F4 N4 htn4 a1 a2 a3 lo1 lo2 hF hP pF pP
  replace N4 := news_sub (l' := (t4, ({ cls := .type "tuple", data := .seq #[.ref d1', .ref d2'] n4 } : Obj)) :: (d2', oP) :: (d1', oF) :: (aN, ({ cls := .type "tuple", data := .seq #[.str (nameOf v.j) tN1, .bytes bN tN2, .bytes cN tN3] nN } : Obj)) :: (L + 1 + 1 + 1, o1) :: (L + 1 + 1, o2) :: (L + 1, o3) :: (R, W.listOf its.toArray nR) :: (I, oI) :: (objs ++ tn4)) N4 (by
    intro q hq
    simp only [List.mem_append, List.mem_cons] at hq ⊢
    grind)
  have mN := fun (q : Addr × Obj) (hq : q ∈ objs) => a2 q (.tail _ (.tail _ (.tail _ (.tail _ (.tail _ (.tail _ (.tail _ hq)))))))
  have e1' : ∀ q ∈ objs ++ tn4, q.1 ≠ L + 1 + 1 + 1 := fun q hq => by
    rcases List.mem_append.mp hq with hq | hq
    · exact e1 q (List.mem_append_left _ hq)
    · exact a2 (L + 1 + 1 + 1, o1) (by simp) q hq
  have e2' : ∀ q ∈ objs ++ tn4, @Ne Nat q.1 (L + 1) ∧ @Ne Nat q.1 (L + 1 + 1) ∧ @Ne Nat q.1 (L + 1 + 1 + 1) ∧ @Ne Nat q.1 R := fun q hq => by
    rcases List.mem_append.mp hq with hq | hq
    · exact Z.cells q (.tail _ (List.mem_append_left _ hq))
    · exact ⟨a2 (L + 1, o3) (by simp) q hq, a2 (L + 1 + 1, o2) (by simp) q hq, a2 (L + 1 + 1 + 1, o1) (by simp) q hq, a2 (R, W.listOf its.toArray nR) (by simp) q hq⟩
  have e4' : ∀ q ∈ objs ++ tn4, q.1 ≠ R := fun q hq => (e2' q hq).2.2.2
  have gN : ∀ z ∈ tn4, z.1 ≠ aN := fun z hz => a2 (aN, _) (.tail _ (.head _)) z hz
  have gI : ∀ z ∈ tn4, z.1 ≠ I := fun z hz => a2 (I, oI) (by simp) z hz
  obtain ⟨f1, f2, f3⟩ := a3 (L + 1 + 1 + 1, o1) (by simp)
  obtain ⟨f4, f5, f6⟩ := a3 (R, W.listOf its.toArray nR) (by simp)
  replace f1 := neN f1
  replace f2 := neN f2
  replace f3 := neN f3
  replace f4 := neN f4
  replace f5 := neN f5
  replace f6 := neN f6
  dsimp only at f1 f2 f3 f4 f5 f6
  have hkF : kvF.length = (dueF vs).length := pF.length
  have hdl := (due_len vs).1
  clear F3 N3 l3 a1 a2 a3 fN6 e1 e4
  try dsimp only
  k_sweep
  k_steps
  refine Halt.go ?_
  (with_reducible rename Fr _ _ _ _ => F5)
  (with_reducible rename News _ _ _ _ => N5)
  refine sorted_names rfl F5 N5 (by k_mem) hF lo1 (by omega) fun D h6 tk6 vsN ssN nD F6 N6 l6 hSN hPerm => ?_
  replace l6 := allLt_of l6
  simp only [AllLt, and_true] at l6
  obtain ⟨l61, l62, l63, l64, l65, l66, l67, l68, l69, l60⟩ := l6
  have hmem : ∀ x ∈ ssN, x ∈ (dueF vs).map (·.1) := fun x hx => by rw [← pF.keys]; exact hPerm.mem_iff.mp hx
  have hnN : ∀ x ∈ ssN, ∃ j, j < 8 ∧ x = nameOf j := fun x hx => due_names vs (fun v hv => (Z.ok v hv).1) x (hmem x hx)
  have hlN : vsN.length = ssN.length := hSN.length
  have hlS : ssN.length ≤ 20 := by rw [hPerm.length_eq, List.length_map]; omega
  have hbE : KBw.bInts b = enc vs := Z.hb
  have hszE := enc_le vs fun v hv => (Z.ok v hv).2
  have hszN := enc1_len v
  have hlR := hrows.length
  have hz1000 : its.length ≤ 1000 := by rw [hlR]; exact Nat.le_trans hlen (by omega)
  have hlenS : (vs ++ [v]).length ≤ 3 + (i + 1) := by rw [List.length_append]; exact Nat.succ_le_succ hlen
  have enS : enc vs ++ enc1 v = enc (vs ++ [v]) := by rw [enc_app, enc_cons, enc_nil, List.append_nil]
  have okS : ∀ x ∈ vs ++ [v], x.j < 8 ∧ x.ks.length ≤ 300 := fun x hx => by
    rcases List.mem_append.mp hx with hx | hx
    · exact Z.ok x hx
    · rw [List.mem_singleton.mp hx]; exact ⟨hjN, hkN⟩
  have ivN : IsVec ({ cls := .type "tuple", data := .seq #[.str (nameOf v.j) tN1, .bytes bN tN2, .bytes cN tN3] nN } : Obj) v := ⟨_, _, _, _, _, _, rfl, hbN, hcN, hjN, hkN⟩
  try dsimp only
  k_sweep
  k_steps
  iterate 2
    · refine Halt.go ?_
      (with_reducible rename Fr _ _ _ _ => F7)
      (with_reducible rename News _ _ _ _ => N7)
      refine turn_close (its := its ++ [.ref aN]) (vs := vs ++ [v]) (objs := objs) (tn := tn4) B X T X₀ hdp hun hi8 F7 N7 (by lcg_sub) (Eq.trans (by assumption) enS) okS d1 d2 d3 (RowsL.app (hrows.mono fun q hq => .tail _ hq) (.cons (.head _) ivN .nil)) htn4 Z.cR ⟨c4, c5, c6, c7⟩ ⟨fN3, fN2, fN1, fN4⟩ e2' fN5 hI gI gN mN hlenS rfl ret
  refine Halt.go ?_
  have hneN : ssN ≠ [] := by assumption
  have hposN : 0 < vsN.length := by rw [hlN]; exact List.length_pos_iff.mpr hneN
  have hzN : vsN.length ≤ 1000 := by omega
  refine rows_len (by k_asm) (by k_mem) hzN fun tD kD => ?_
  try dsimp only
  k_steps
  refine names_item (by k_asm) (by k_mem) hSN hmem pF pP hposN hzN fun k hk vk tK bK tK1 tK2 hvk hlast hvF hbK hvP => ?_
  have hkK : vk.ks.length ≤ 300 := by rw [← hvk]; exact (Z.ok _ (List.getElem_mem hk)).2
  have hjK : vk.j < 8 := by rw [← hvk]; exact (Z.ok _ (List.getElem_mem hk)).1
  have hend : at0 vs k + 3 + vk.ks.length ≤ (enc vs).length := by have := end_le hk; rw [hvk] at this; exact this
  try dsimp only
  k_steps
  refine Halt.go ?_
  refine' comp_eval ?h5 ?h6 ?h7 ?_
  case h5 => with_unfolding_all rfl
  case h6 => exact rfl
  case h7 => decide
  k_steps
  refine Halt.go ?_
  refine rows_len (by k_asm) (by k_mem) hz1000 fun tR kR => ?_
  try dsimp only
  k_steps
  (rename IsRange _ _ _ _ _ _ _ _ => rg9)
  (with_reducible rename Fr _ _ _ _ => F9)
  (with_reducible rename News _ _ _ _ => N9)
  rename Obj => oM
  rename (oM.data = _) => dM
  replace N9 := news_sub (l' := (aN, ({ cls := .type "tuple", data := .seq #[.str (nameOf v.j) tN1, .bytes bN tN2, .bytes cN tN3] nN } : Obj)) :: (L + 1 + 1 + 1, oM) :: (L + 1 + 1, o2) :: (L + 1, o3) :: (R, W.listOf its.toArray nR) :: (I, oI) :: (objs ++ tn4)) N9 (by lcg_sub)
  try dsimp only
  refine' compgo_range (news := ?nws) (HitsIv vs k (nameOf vk.j) ?nws) ?klet rfl rg9 ?small (rangeSize_nat _ _) ?sz ?cell rfl F9 N9 ?h0 ?turn ?hRR
  case klet => intro I v; rfl
  case small => exact small_one (by decide) (by decide) (by omega) (by omega)
  case sz => rw [sizeLine_eq]; omega
  case cell => decide
  case h0 => exact ⟨rfl, Nat.le_refl _, [], .nil, fun _ h => (nomatch h), fun h => absurd h (Nat.not_lt_zero _)⟩
  case turn =>
    rintro q tq ys I₂ oI₂ C oC D₂ m₂ nw h tk E' hin ⟨rfl, hyl, nsH, hysH, hHits, hHas⟩ hC F₂ N₂ offn ⟨ne1, ne2, ne3⟩
    have hiv : q < vs.length := by omega
    replace N₂ := news_in N₂
    simp only [List.cons_append, List.nil_append] at N₂
    have offn' := offn
    have offC : ∀ q ∈ objs ++ tn4, q.1 ≠ C := fun q hq => (offn q (.tail _ (.tail _ (.tail _ (.tail _ (.tail _ (.tail _ hq))))))).2.1
    replace ne1 := neN ne1
    replace ne3 := neN ne3
    have g2 := neN (offn _ (.head _)).2.1
    have g3 := neN (offn _ (.tail _ (.head _))).2.1
    have g4 := neN (offn _ (.tail _ (.tail _ (.head _)))).2.1
    have g5 := neN (offn _ (.tail _ (.tail _ (.tail _ (.head _))))).2.1
    have g6 := neN (offn _ (.tail _ (.tail _ (.tail _ (.tail _ (.head _)))))).2.1
    have g7 := neN (offn _ (.tail _ (.tail _ (.tail _ (.tail _ (.tail _ (.head _))))))).2.1
    clear offn
    dsimp only at g2 g3 g4 g5 g6 g7
    k_sweep
    k_steps
    · rename ((_ == _) = true) => hEq
      replace hEq := eq_of_beq hEq
      refine cend_of (by k_asm) (by assumption) (by k_asm) offn' ⟨rfl, ?l1, nsH ++ [0 + (q : Int)], IntsAre.append hysH (.cons _ _ .nil), ?l2, ?l3⟩
      case l1 => rw [List.length_append]; exact Nat.succ_le_succ hyl
      case l2 =>
        intro a ha
        rcases List.mem_append.mp ha with ha | ha
        · exact hHits a ha
        · rw [List.mem_singleton.mp ha]; exact ⟨q, Int.zero_add _, hiv, hEq⟩
      case l3 =>
        intro hkq
        rcases Nat.lt_or_ge k q with h' | h'
        · exact List.mem_append_left _ (hHas h')
        · have : k = q := Nat.le_antisymm (Nat.le_of_lt_succ hkq) h'
          rw [this]
          exact List.mem_append_right _ (by rw [Int.zero_add]; exact .head _)
    · rename ((_ == _) = false) => hEq
      refine cend_of (by k_asm) (by assumption) (by k_asm) offn' ⟨rfl, Nat.le_succ_of_le hyl, nsH, hysH, hHits, fun hkq => ?_⟩
      rcases Nat.lt_or_ge k q with h' | h'
      · exact hHas h'
      · have : k = q := Nat.le_antisymm (Nat.le_of_lt_succ hkq) h'
        subst this
        rw [hvk] at hEq
        simp at hEq
  case hRR =>
    rintro D₂ C h tk m' ys nw hM ⟨rfl, hyl, nsH, hysH, hHits, hHas⟩
    refine made_eval hM fun h' F₂ N₂ offn => ?_
    replace hHas := hHas (by omega)
    have hposH : 0 < nsH.length := List.length_pos_of_mem hHas
    clear hM
    try dsimp only
    k_sweep
    k_steps
    refine Halt.go ?_
    refine kso_max (vs := ys) F₂ N₂ ⟨_, (N₂ _ (.head _)).1, rfl, _, rfl⟩ hysH hposH rfl fun h7 M tM tk7 F7 N7 hM1 hM2 => ?_
    have eM : M = (k : Int) := by
      obtain ⟨q, rfl, hq, hn⟩ := hHits M hM1
      have l1 := hM2 _ hHas
      have l2 : ¬ k < q := fun h' => hlast q hq h' hn
      omega
    subst eM
    replace N7 := news_tl N7
    have kN1 : aN ≠ L + 1 + 1 + 1 := fN1
    try dsimp only
    k_sweep
    k_steps
    refine Halt.go ?_
    (with_reducible rename Fr _ _ _ _ => F8)
    (with_reducible rename News _ _ _ _ => N8)
    refine law_edit (l := l) (vs := vs) (v := v) (vk := vk) (k := k) B X T hdp hun F8 N8 dM d2 hrows Z.hb Z.ok (by omega) hbN hcN hjN hkN hk hvk c1 c2 c3 c7 fN4 e4' rfl rfl rfl rfl rfl rfl fun vs' its' nR' aX oX b' t' m' h' tk' F9 N9 hX hb' ok' rows' len' hraw' => ?_
    try dsimp only
    refine turn_close (l := l) (nR := nR') (its := its') (vs := vs') (objs := objs) (tn := tn4) (aX := aX) (oX := oX) B X T X₀ hdp hun hi8 F9 N9 ?sub hb' ok' dM d2 d3 rows' htn4 Z.cR ⟨c4, c5, c6, c7⟩ ?cX e2' ?xI hI gI ?gX mN (by omega) hraw' ret
    case sub =>
      intro q hq
      rcases List.mem_cons.mp hq with rfl | hq
      · exact .tail _ (.head _)
      rcases List.mem_cons.mp hq with rfl | hq
      · exact .tail _ (.tail _ (.head _))
      rcases List.mem_cons.mp hq with rfl | hq
      · exact .tail _ (.tail _ (.tail _ (.head _)))
      rcases List.mem_cons.mp hq with rfl | hq
      · exact .tail _ (.tail _ (.tail _ (.tail _ (.head _))))
      rcases List.mem_cons.mp hq with rfl | hq
      · exact .tail _ (.tail _ (.tail _ (.tail _ (.tail _ (.head _)))))
      rcases List.mem_cons.mp hq with rfl | hq
      · exact .head _
      exact .tail _ (.tail _ (.tail _ (.tail _ (.tail _ (.tail _ hq)))))
    case cX =>
      rcases hX with rfl | hX
      · exact ⟨fN3, fN2, fN1, fN4⟩
      · exact ⟨Nat.ne_of_gt (hX (L + 1, o3) (.tail _ (.tail _ (.head _)))), Nat.ne_of_gt (hX (L + 1 + 1, o2) (.tail _ (.head _))), Nat.ne_of_gt (hX (L + 1 + 1 + 1, oM) (.head _)), Nat.ne_of_gt (hX (R, _) (.tail _ (.tail _ (.tail _ (.head _)))))⟩
    case xI =>
      rcases hX with rfl | hX
      · exact fN5
      · exact Nat.ne_of_gt (hX (I, oI) (.tail _ (.tail _ (.tail _ (.tail _ (.head _))))))
    case gX =>
      intro z hz
      rcases hX with rfl | hX
      · exact gN z hz
      · exact Nat.ne_of_lt (hX z (.tail _ (.tail _ (.tail _ (.tail _ (.tail _ (List.mem_append_right _ hz)))))))
end Mine
end

/-! Strict reading. -/
section
open PySem PySem.W PyProof.Rows PySem.Calls PyProof.Rows.LCg
set_option Elab.async false
set_option maxRecDepth 100000
set_option maxHeartbeats 2000000
namespace Mine
theorem anewLawU : True := by
  w_top off
  trivial
local macro_rules | `(tactic| k_all) => `(tactic| assumption)
local macro_rules | `(tactic| k_ne) => `(tactic| (refine neN ?_; (try dsimp only); first | assumption | (refine Ne.symm ?_; assumption) | exact Nat.ne_of_lt (by assumption) | exact Nat.ne_of_gt (by assumption) | omega))
local macro_rules | `(tactic| lcg_sub) => `(tactic| (intro q hq; (repeat (first | exact hq | refine List.Mem.tail _ ?_)); done))
local macro_rules | `(tactic| walk_at "eval ListComp") => `(tactic| (k_here; refine halt ?_))
local macro_rules | `(tactic| walk_at "call ref") => `(tactic| (k_here; (with_reducible show wpAny _ _ (call (Value.ref 141) _) _ _ _); refine halt ?_))
local macro_rules | `(tactic| walk_at "call ref") => `(tactic| (k_here; (with_reducible show wpAny _ _ (call (Value.ref 129) _) _ _ _); refine halt ?_))
local macro_rules | `(tactic| walk_at "execs cons") => `(tactic| (k_here; (with_reducible show wpAny _ _ (execs (Stmt.For _ _ _ _ _ :: _) _) _ _ _); refine halt ?_))
local macro_rules | `(tactic| walk_at "storeName") => `(tactic| (k_here; (with_reducible show wpAny _ _ (storeName (compEnvC _ _ _ _) _ _) _ _ _); k_dflt (refine' comp_store ?F ?N ?U ?C ?_ ?a ?b; (case a => rfl); (case b => rfl); (case F => k_asm); (case N => k_asm); (case U => k_updF); (case C => assumption); k_whole); intro h8 oC8 F8 N8 C8; (try dsimp only at N8); (try k_sweep)))
local macro_rules | `(tactic| walk_at "eval Name") => `(tactic| (k_here; (with_reducible show wpAny _ _ (eval (Expr.Name _ _) (compEnvC _ _ _ _)) _ _ _); k_dflt (refine' LCgL.ld_own ?N ?m ?C ?x ?_ ?a ?b ?c; (case b => rfl); (case a => rfl); (case c => decide); (case N => k_asm); (case m => k_mem); (case C => assumption); (case x => rfl); k_whole)))
local macro_rules | `(tactic| walk_at "compareOp NotEq ref ref") => `(tactic| (k_here; k_dflt (refine' names_ne_nil ?N ?m1 ?S ?hn ?m2 ?c ?d ?u ?_; (case N => k_asm); (case m1 => k_mem); (case S => assumption); (case hn => assumption); (case m2 => k_mem); (case c => exact rfl); (case d => exact rfl); (case u => (dsimp only [ATop, Around.deeper]; omega)))))
theorem odd_any {j : Nat} (hj : j < 8) : ([Str.ofString "xE0", Str.ofString "x06"].any fun x => x == nameOf j) = decide (6 ≤ j) := by
  have h : ∀ j : Fin 8, ([Str.ofString "xE0", Str.ofString "x06"].any fun x => x == nameOf j.val) = decide (6 ≤ j.val) := by decide +kernel
  exact h ⟨j, hj⟩
local macro_rules | `(tactic| walk_at "compareOp NotEq ref ref") => `(tactic| (k_here; k_dflt (refine' parts_ne (prog := _) (w := _) (vs := _) ?N ?m1 ?m2 (Parts.of ?N1 ?q1 ?q2 ?q3 ?q4 ?q5 ?q6 ?q7 ?q8) (Parts.of ?N2 ?r1 ?r2 ?r3 ?r4 ?r5 ?r6 ?r7 ?r8) ?u ?_ ?v; (case N => k_asm); (case m1 => k_mem); (case m2 => k_mem); (case N1 => k_asm); (case N2 => k_asm); (case q1 => k_mem); (case q2 => k_mem); (case r1 => k_mem); (case r2 => k_mem); (case q3 => assumption); (case q4 => assumption); (case r3 => assumption); (case r4 => assumption); (case q5 => assumption); (case q6 => assumption); (case r5 => assumption); (case r6 => assumption); (case q7 => assumption); (case q8 => assumption); (case r7 => assumption); (case r8 => assumption); (case u => (dsimp only [ATop, Around.deeper]; omega)); (case v => (dsimp only [ATop, Around.deeper, Around.in1]; omega)))))
def OddIv (vs : List Vec) (led : List (Addr × Obj)) (i : Nat) (ys : List Value) (nw : List (Addr × Obj)) : Prop :=
  nw = led ∧ ∃ ss, StrsAre ys ss ∧ (∀ x ∈ ss, ∃ j, j < 8 ∧ x = nameOf j) ∧ (ss = [] ↔ ∀ v ∈ vs.take i, v.j < 6)
/-- behind the loop: strict reading -/
theorem law_strict {prog : Program} {w : World} {dp un : Nat} {gd : Option (List Code)} {A₀ : Around} {base h₀ : Heap} {s : Shared} {p : Program} {loose : List Str} {mean : ExcName → Option Value} {mg mb : Str → Option Value}
   {L l R : Addr} {o1 o2 o3 : Obj} {vs : List Vec} {b : Array UInt8} {t : Tok} {its : List Value} {nR : Nat} {objs tn : List (Addr × Obj)} {v1 : Option Value} {m : Str → Option Value} {Q : Flow → Shared → Prop} {E : Value → Shared → Prop}
   (B : Below A₀ base [] h₀) (X : (hd.heap_39 w.params).In h₀) (T : Top p loose mean mg mb h₀) (X₀ : Root w p loose mean mg mb base) (hdp : dp + 20 < recursionLimit) (hun : un + 200 < cLine)
   (F : Fr h₀ L s.heap m) (N : News h₀ L s.heap (lawLed L R its nR objs tn o1 o2 o3)) (Z : LawAt L l R vs b its objs tn o1 o2 o3 v1) (hlen : vs.length ≤ 20) (hraw : m (Str.ofString "raw") = some (.bytes b t))
   (ret : ∀ m' h' tk' tn', Fr h₀ L h' m' → News h₀ L h' (lawLed L R its nR objs tn' o1 o2 o3) → LawAt L l R vs b its objs tn' o1 o2 o3 v1 → m' (Str.ofString "raw") = some (.bytes b t) →
     wpAny (model prog w) ((ATop dp un gd []).deeper (lawEnv L)) (execs (lawBody.drop 6) (lawEnv L)) Q E { s with heap := h', toks := tk' }) :
   wpAny (model prog w) ((ATop dp un gd []).deeper (lawEnv L)) (execs (lawBody.drop 4) (lawEnv L)) Q E s := by
  dsimp only [lawEnv]
  generalize hsc : lawScope = sc
  conv at hsc => lhs; whnf
  subst hsc
  generalize hbd : lawBody.drop 4 = bd
  conv at hbd => lhs; whnf
  subst hbd
  rw [m_at hraw] at F
  have d2 := Z.d2
  dsimp only [lawLed] at N
  have c1 := neN Z.cR.1
  have c2 := neN Z.cR.2.1
  have c3 := neN Z.cR.2.2
  have hil := Z.rows.length
  k_steps
  refine Halt.go ?_
  refine' comp_eval ?h5 ?h6 ?h7 ?_
  case h5 => with_unfolding_all rfl
  case h6 => exact rfl
  case h7 => decide
  k_steps
  (with_reducible rename Fr _ _ _ _ => F1)
  (with_reducible rename News _ _ _ _ => N1)
  try dsimp only
  refine' compgo_list (lo := W.listOf its.toArray nR) (its := its) (news := ?news) (OddIv vs ?news) rfl rfl rfl rfl (.inr ?kin) ?sz (by decide) rfl F1 N1 ⟨rfl, [], .nil, fun _ h => (nomatch h), by simp⟩ ?turn ?hRR
  case sz => rw [sizeLine_eq]; omega
  case kin =>
    rintro i ys nw ⟨rfl, _⟩
    exact .tail _ (.tail _ (.tail _ (.head _)))
  case turn =>
    rintro i v ys I oI C oC D m₂ nw h tk E' hv ⟨rfl, ss, hS, hnm, hodd⟩ hC F₂ N₂ offn ⟨ne1, ne2, ne3⟩
    have hiv : i < vs.length := by rw [← hil]; exact (List.getElem?_eq_some_iff.mp hv).1
    obtain ⟨a, o, q1, q2, q3⟩ := Z.rows.get (List.getElem?_eq_getElem hiv)
    rw [hv] at q1; cases q1
    obtain ⟨t1, b1, t2, cc, t3, n3, rfl, hb1, hc1, hj1, hk1⟩ := q3
    have hT : IsTup h a #[.str (nameOf vs[i].j) t1, .bytes b1 t2, .bytes cc t3] := ⟨_, (N₂ _ (List.mem_append_left _ (.tail _ (.tail _ (.tail _ (.tail _ (List.mem_append_left _ q2))))))).1, rfl, n3, rfl⟩
    replace N₂ := news_in N₂
    simp only [List.cons_append, List.nil_append] at N₂
    have offn' := offn
    have offC : ∀ q ∈ objs ++ tn, q.1 ≠ C := fun q hq => (offn q (.tail _ (.tail _ (.tail _ (.tail _ hq))))).2.1
    replace ne1 := neN ne1
    replace ne3 := neN ne3
    have g2 := neN (offn _ (.head _)).2.1
    have g3 := neN (offn _ (.tail _ (.head _))).2.1
    have g4 := neN (offn _ (.tail _ (.tail _ (.head _)))).2.1
    have g5 := neN (offn _ (.tail _ (.tail _ (.tail _ (.head _))))).2.1
    dsimp only at g2 g3 g4 g5
    clear offn
    k_sweep
    k_steps
    · rename (List.any _ _ = true) => hq
      rw [odd_any hj1] at hq
      refine cend_of (by k_asm) (by assumption) (news_sub (by k_asm) (by lcg_sub)) offn' ⟨rfl, ss ++ [nameOf vs[i].j], StrsAre.append' hS (.cons _ _ .nil), ?n1, ?n2⟩
      case n1 =>
        intro x hx
        rcases List.mem_append.mp hx with hx | hx
        · exact hnm x hx
        · rw [List.mem_singleton.mp hx]; exact ⟨_, hj1, rfl⟩
      case n2 =>
        refine ⟨fun e => by simp at e, fun e => ?_⟩
        have := e vs[i] (by rw [take_next hiv]; exact List.mem_append_right _ (.head _))
        have := of_decide_eq_true hq
        omega
    · rename (List.any _ _ = false) => hq
      rw [odd_any hj1] at hq
      have hq' := of_decide_eq_false hq
      refine cend_of (by k_asm) (by assumption) (news_sub (by k_asm) (by lcg_sub)) offn' ⟨rfl, ss, hS, hnm, hodd.trans ?n3⟩
      rw [take_next hiv]
      refine ⟨fun e x hx => ?_, fun e x hx => e x (List.mem_append_left _ hx)⟩
      rcases List.mem_append.mp hx with hx | hx
      · exact e x hx
      · rw [List.mem_singleton.mp hx]; omega
  case hRR =>
    rintro D C h tk m' ys nw hM ⟨rfl, ss, hS, hnm, hodd⟩
    refine made_eval hM fun h' F₂ N₂ offn => ?_
    rw [hil, List.take_length] at hodd
    clear hM
    try dsimp only
    k_sweep
    k_steps
    · have h6 : ∀ v ∈ vs, v.j < 6 := hodd.mp (by assumption)
      refine Halt.go ?_
      (with_reducible rename Fr _ _ _ _ => F3)
      (with_reducible rename News _ _ _ _ => N3)
      replace N3 := news_sub (l' := lawLed L R its nR objs tn o1 o2 o3) N3 (by lcg_sub)
      refine (due_tel prog w R vs).useZ (A₀ := A₀) B F3 X N3 T rfl (by (dsimp only [ATop, Around.deeper]; omega)) (by (dsimp only [ATop, Around.deeper]; omega)) ⟨⟨its, ⟨_, (N3 (R, _) (.tail _ (.tail _ (.tail _ (.head _))))).1, rfl, _, rfl⟩, Z.rows.inn fun q hq => (N3 q (.tail _ (.tail _ (.tail _ (.tail _ (List.mem_append_left _ hq)))))).1⟩, by omega⟩ fun r4 h4 tk4 F4 N4 mk4 po4 => ?_
      obtain ⟨t4, e1, e2, q1, q2, kvF, kvP, n4, rfl, z4, lo1, lo2, hF, hP, pF, pP⟩ := po4
      obtain ⟨N4', off4⟩ := mk4 _ z4
      clear N4 mk4 z4
      try dsimp only
      k_sweep
      dsimp only [lawLed, List.cons_append, List.nil_append] at N4'
      k_steps
      refine Halt.go ?_
      (with_reducible rename Fr _ _ _ _ => F5)
      (with_reducible rename News _ _ _ _ => N5)
      refine law_read_parts (top := [_, _, _]) (cs := none) B X T X₀ hdp hun F5 N5 Z ?ht1 (by simpa [cutOf] using Z.hb) ⟨hlen, Z.ok⟩ (fun v r e => nomatch e) (fun _ => h6) (.inl rfl) fun t6 f1 f2 p1 p2 kwF kwP n6 h6' tk6 tn6 F6 N6 Z6 off6 lo3 lo4 hF6 hP6 pF6 pP6 => ?_
      case ht1 =>
        intro q hq z hz
        exact (off4 q hq z (.tail _ (.tail _ (.tail _ (.tail _ (List.mem_append_right _ hz)))))).symm
      try dsimp only
      k_sweep
      dsimp only [lawLed, List.cons_append, List.nil_append] at N6
      k_steps
      refine Halt.go ?_
      (with_reducible rename Fr _ _ _ _ => F7)
      (with_reducible rename News _ _ _ _ => N7)
      replace N7 := news_tl (news_tl (news_tl N7))
      refine law_read_parts (top := [_, _, _]) (cs := none) B X T X₀ hdp hun F7 N7 Z6 off6 (by simpa [cutOf] using Z.hb) ⟨hlen, Z.ok⟩ (fun v r e => nomatch e) (fun _ => h6) (.inl rfl) fun t8 g1 g2 p3 p4 kuF kuP n8 h8 tk8 tn8 F8 N8 Z8 off8 lo5 lo6 hF8 hP8 pF8 pP8 => ?_
      try dsimp only
      k_sweep
      dsimp only [lawLed, List.cons_append, List.nil_append] at N8
      clear hF6 hP6 pF6 pP6
      k_steps
      refine Halt.go ?_
      (with_reducible rename Fr _ _ _ _ => F9)
      (with_reducible rename News _ _ _ _ => N9)
      exact ret _ _ _ _ F9 (news_sub N9 (by lcg_sub)) Z8 rfl
    · have h6 : ∃ v ∈ vs, 6 ≤ v.j := by
        refine Classical.byContradiction fun hno => (by assumption : ¬ ss = []) (hodd.mpr fun v hv => ?_)
        exact Nat.lt_of_not_le fun h => hno ⟨v, hv, h⟩
      refine Halt.go ?_
      (with_reducible rename Fr _ _ _ _ => F3)
      (with_reducible rename News _ _ _ _ => N3)
      replace N3 := news_sub (l' := lawLed L R its nR objs tn o1 o2 o3) N3 (by lcg_sub)
      refine law_read_odd B X T X₀ hdp hun F3 N3 Z Z.hb ⟨hlen, Z.ok⟩ h6 fun h4 tk4 tn4 t4 F4 N4 Z4 => ?_
      try dsimp only
      k_sweep
      k_steps
      refine Halt.go ?_
      (with_reducible rename Fr _ _ _ _ => F5)
      (with_reducible rename News _ _ _ _ => N5)
      refine law_read_odd B X T X₀ hdp hun F5 N5 Z4 Z.hb ⟨hlen, Z.ok⟩ h6 fun h6' tk6 tn6 t6 F6 N6 Z6 => ?_
      try dsimp only
      k_sweep
      k_steps
      refine Halt.go ?_
      (with_reducible rename Fr _ _ _ _ => F9)
      (with_reducible rename News _ _ _ _ => N9)
      exact ret _ _ _ _ F9 N9 Z6 rfl
end Mine
end

/-! Names back to numbers. -/
section
open PySem PySem.W PyProof.Rows PySem.Calls PyProof.Rows.LCg
set_option Elab.async false
set_option maxRecDepth 100000
set_option maxHeartbeats 2000000
namespace Mine
theorem anewLawV : True := by
  w_top off
  trivial
local macro_rules | `(tactic| k_all) => `(tactic| assumption)
local macro_rules | `(tactic| k_ne) => `(tactic| (refine neN ?_; (try dsimp only); first | assumption | (refine Ne.symm ?_; assumption) | exact Nat.ne_of_lt (by assumption) | exact Nat.ne_of_gt (by assumption) | omega))
local macro_rules | `(tactic| lcg_sub) => `(tactic| (intro q hq; (repeat (first | exact hq | refine List.Mem.tail _ ?_)); done))
local macro_rules | `(tactic| walk_at "call ref") => `(tactic| (k_here; (with_reducible show wpAny _ _ (call (Value.ref 108) _) _ _ _); refine halt ?_))
local macro_rules | `(tactic| walk_at "execs cons") => `(tactic| (k_here; (with_reducible show wpAny _ _ (execs (Stmt.Assign _ _ _ :: _) _) _ _ _); refine halt ?_))
def NumsJ (l L : Addr) (o2 o3 : Obj) (R : Addr) (its : List Value) (nR : Nat) (rest : List (Addr × Obj)) (rawv : Value) (m : Str → Option Value) (nw : List (Addr × Obj)) : Prop :=
  m (Str.ofString "raw") = some rawv ∧ ∃ o1 v1, o1.data = .cell v1 ∧ nw = (L + 1 + 1 + 1, o1) :: (L + 1 + 1, o2) :: (L + 1, o3) :: (R, W.listOf its.toArray nR) :: rest
/-- the names lead back to their numbers -/
theorem law_nums {prog : Program} {w : World} {dp un : Nat} {gd : Option (List Code)} {A₀ : Around} {base h₀ : Heap} {s : Shared} {p : Program} {loose : List Str} {mean : ExcName → Option Value} {mg mb : Str → Option Value}
   {L l R : Addr} {o1 o2 o3 : Obj} {vs : List Vec} {b : Array UInt8} {t : Tok} {its : List Value} {nR : Nat} {objs tn : List (Addr × Obj)} {v1 : Option Value} {m : Str → Option Value} {Q : Flow → Shared → Prop} {E : Value → Shared → Prop} (hE : PassesOwn (model prog w) ((ATop dp un gd []).deeper (lawEnv L)) (lawEnv L) E)
   (B : Below A₀ base [] h₀) (X : (hd.heap_39 w.params).In h₀) (T : Top p loose mean mg mb h₀) (hdp : dp + 20 < recursionLimit) (hun : un + 200 < cLine)
   (F : Fr h₀ L s.heap m) (N : News h₀ L s.heap (lawLed L R its nR objs tn o1 o2 o3)) (Z : LawAt L l R vs b its objs tn o1 o2 o3 v1) (hraw : m (Str.ofString "raw") = some (.bytes b t))
   (ret : ∀ m' h' tk' o1' v1', Fr h₀ L h' m' → News h₀ L h' (lawLed L R its nR objs tn o1' o2 o3) → LawAt L l R vs b its objs tn o1' o2 o3 v1' → m' (Str.ofString "raw") = some (.bytes b t) →
     wpAny (model prog w) ((ATop dp un gd []).deeper (lawEnv L)) (execs (lawBody.drop 7) (lawEnv L)) Q E { s with heap := h', toks := tk' }) :
   wpAny (model prog w) ((ATop dp un gd []).deeper (lawEnv L)) (execs (lawBody.drop 6) (lawEnv L)) Q E s := by
  dsimp only [lawEnv] at hE ⊢
  generalize hsc : lawScope = sc
  conv at hsc => lhs; whnf
  subst hsc
  generalize hbd : lawBody.drop 6 = bd
  conv at hbd => lhs; whnf
  subst hbd
  rw [m_at hraw] at F
  have d2 := Z.d2
  dsimp only [lawLed] at N
  have c1 := neN Z.cR.1
  have c2 := neN Z.cR.2.1
  have c3 := neN Z.cR.2.2
  k_steps
  with_unfolding_all refine' For_turns (hE := hE) F ?_
  k_steps
  refine Halt.go ?_
  refine (kinds_tel prog w).useZ (A₀ := A₀) B F X N T rfl (by (dsimp only [ATop, Around.deeper]; omega)) (by (dsimp only [ATop, Around.deeper]; omega)) trivial fun r h2 tk2 F2 N2 mk2 po2 => ?_
  obtain ⟨l2, vals2, n2, tl2, rfl, z2, hlen2, hl2, hj2⟩ := po2
  obtain ⟨N2', off2⟩ := mk2 _ z2
  clear N2 mk2
  replace N2' := news_in N2'
  try dsimp only
  refine' turns_list (lo := W.listOf vals2.toArray n2) (vs := vals2) (n := n2) (fun _ => NumsJ l L o2 o3 R its nR (objs ++ tn ++ tl2) (.bytes b t)) rfl rfl rfl rfl rfl (.inr ?kin) F2 N2' ⟨?j1, o1, v1, Z.d1, ?j2⟩ ?turn ?done
  case kin =>
    rintro i m₁ n₁ ⟨_, o1', v1', _, rfl⟩
    exact .tail _ (.tail _ (.tail _ (.tail _ (List.mem_append_right _ hl2))))
  case j1 => exact rfl
  case j2 => simp only [List.cons_append, List.append_assoc]
  case turn =>
    rintro i v I oI m₁ news₁ h tk hv ⟨hm1, o1', v1', dc1, rfl⟩ hI F₁ N₁
    have hi8 : i < 8 := by rw [← hlen2]; exact (List.getElem?_eq_some_iff.mp hv).1
    obtain ⟨a, t1, t3, n3, q1, q2⟩ := hj2 i hi8
    rw [hv] at q1; cases q1
    have hT : IsTup h a #[.int (kindOf i) t1, .str (nameOf i) t3] := ⟨_, (N₁ _ (List.mem_append_left _ (.tail _ (.tail _ (.tail _ (.tail _ (List.mem_append_right _ q2))))))).1, rfl, n3, rfl⟩
    replace N₁ := news_in N₁
    simp only [List.cons_append, List.nil_append] at N₁
    have hI1 := neN (hI _ (.head _))
    have hI2 := neN (hI _ (.tail _ (.head _)))
    dsimp only at hI1 hI2
    have e1 : ∀ q ∈ objs ++ tn ++ tl2, q.1 ≠ L + 1 + 1 + 1 := fun q hq => by
      rcases List.mem_append.mp hq with hq | hq
      · exact (Z.cells q hq).2.2.1
      · exact off2 q hq (L + 1 + 1 + 1, o1) (.head _)
    have offI : ∀ o : Obj, ∀ p ∈ (L + 1 + 1 + 1, o) :: (L + 1 + 1, o2) :: (L + 1, o3) :: (R, W.listOf its.toArray nR) :: (objs ++ tn ++ tl2), p.1 ≠ I := fun o p hp => by
      rcases List.mem_cons.mp hp with rfl | hp
      · exact hI1
      · exact hI p (.tail _ hp)
    rw [m_at hm1] at F₁
    k_sweep
    k_steps
    refine call_meth (by k_asm) (by k_mem) ?_
    (with_reducible rename Fr _ _ _ _ => F3)
    (with_reducible rename News _ _ _ _ => N3)
    rename (Obj.data _ = Data.cell (some (Value.str _ _))) => d3
    refine (num_code prog w i hi8 t3).use (A₀ := A₀) B F3 X N3 T rfl (by (dsimp only [ATop, Around.deeper]; omega)) (by (dsimp only [ATop, Around.deeper]; omega)) trivial fun r h4 tk4 F4 N4 po4 => ?_
    by_cases h6 : i < 6
    · rw [if_pos h6] at po4
      obtain ⟨t5, rfl⟩ := po4
      try dsimp only
      k_sweep
      k_steps
      · exfalso
        rename (List.any _ _ = true) => hq
        rw [odd_any hi8] at hq
        have := of_decide_eq_true hq
        omega
      · exfalso
        have hq : kindOf i ≠ kindOf i := by assumption
        exact hq rfl
      · (with_reducible rename Fr _ _ _ _ => F7)
        (with_reducible rename News _ _ _ _ => N7)
        exact ⟨_, _, _, _, rfl, F7, news_in (nw := [(I, oI)]) (news_sub N7 (by lcg_sub)), offI _, rfl, _, _, d3, rfl⟩
    · rw [if_neg h6] at po4
      subst po4
      try dsimp only
      k_sweep
      k_steps
      · (with_reducible rename Fr _ _ _ _ => F7)
        (with_reducible rename News _ _ _ _ => N7)
        exact ⟨_, _, _, _, rfl, F7, news_in (nw := [(I, oI)]) (news_sub N7 (by lcg_sub)), offI _, rfl, _, _, d3, rfl⟩
      · exfalso
        rename (List.any _ _ = false) => hq
        rw [odd_any hi8] at hq
        have := of_decide_eq_false hq
        omega
  case done =>
    rintro m₁ news₁ h tk ⟨hm1, o1', v1', dc1, rfl⟩ F₁ N₁
    refine ret m₁ h tk o1' v1' F₁ (news_sub N₁ ?sub) ⟨Z.hb, Z.ok, dc1, Z.d2, Z.d3, Z.rows, Z.htn, Z.cR, Z.cells, Z.off⟩ hm1
    intro q hq
    dsimp only [lawLed] at hq
    rcases List.mem_cons.mp hq with rfl | hq
    · exact .head _
    rcases List.mem_cons.mp hq with rfl | hq
    · exact .tail _ (.head _)
    rcases List.mem_cons.mp hq with rfl | hq
    · exact .tail _ (.tail _ (.head _))
    rcases List.mem_cons.mp hq with rfl | hq
    · exact .tail _ (.tail _ (.tail _ (.head _)))
    exact .tail _ (.tail _ (.tail _ (.tail _ (List.mem_append_left _ hq))))
end Mine
end

/-! The octets cut off. -/
section
open PySem PySem.W PyProof.Rows PySem.Calls PyProof.Rows.LCg
set_option Elab.async false
set_option maxRecDepth 100000
set_option maxHeartbeats 2000000
namespace Mine
theorem anewLawW : True := by
  w_top off
  trivial
local macro_rules | `(tactic| k_all) => `(tactic| assumption)
local macro_rules | `(tactic| k_ne) => `(tactic| (refine neN ?_; (try dsimp only); first | assumption | (refine Ne.symm ?_; assumption) | exact Nat.ne_of_lt (by assumption) | exact Nat.ne_of_gt (by assumption) | omega))
local macro_rules | `(tactic| lcg_sub) => `(tactic| (intro q hq; (repeat (first | exact hq | refine List.Mem.tail _ ?_)); done))
local macro_rules | `(tactic| walk_at "call ref") => `(tactic| (k_here; (with_reducible show wpAny _ _ (call (Value.ref 115) _) _ _ _); k_dflt (
  (refine' (draw_tel _ _ _ _ _).useZ ?k1 ?k2 ?k3 ?k4 ?k5 ?k6 ?k7 ?k8 ⟨_, _, stays_list (Fr.keep ?k9) ?kL, ?kI, ?kJ, ?ka, ?kb⟩ ?_; (case k1 => k_asm); (case k2 => k_asm); (case k3 => k_asm); (case k4 => k_asm); (case k5 => k_asm); (case k6 => exact rfl); (case k7 => (dsimp only [ATop, Around.deeper]; omega)); (case k8 => (dsimp only [ATop, Around.deeper]; omega)); (case k9 => k_asm); (case kL => assumption); (case kI => assumption); (case kJ => assumption); (case ka => omega); (case kb => omega));
  intro r9 h9 tk9 F9 N9 mk9 po9;
  obtain ⟨n9, t9, e9⟩ := po9;
  subst e9; clear mk9; (try dsimp only); (try k_sweep))))
local macro_rules | `(tactic| walk_at "exec Assign cons ListComp") => `(tactic| (k_here; refine halt ?_))
local macro_rules | `(tactic| walk_at "eval ListComp") => `(tactic| (k_here; refine halt ?_))
local macro_rules | `(tactic| walk_at "call ref") => `(tactic| (k_here; (with_reducible show wpAny _ _ (call (Value.ref 141) _) _ _ _); refine halt ?_))
local macro_rules | `(tactic| walk_at "call ref") => `(tactic| (k_here; (with_reducible show wpAny _ _ (call (Value.ref 129) _) _ _ _); refine halt ?_))
local macro_rules | `(tactic| walk_at "call builtin:len") => `(tactic| (k_here; (with_reducible show wpAny _ _ (call (Value.builtin _) [Value.ref _]) _ _ _); refine halt ?_))
local macro_rules | `(tactic| walk_at "call builtin:sum") => `(tactic| (k_here; refine halt ?_))
local macro_rules | `(tactic| walk_at "storeName") => `(tactic| (k_here; (with_reducible show wpAny _ _ (storeName (compEnvC _ _ _ _) _ _) _ _ _); k_dflt (refine' comp_store ?F ?N ?U ?C ?_ ?a ?b; (case a => rfl); (case b => rfl); (case F => k_asm); (case N => k_asm); (case U => k_updF); (case C => assumption); k_whole); intro h8 oC8 F8 N8 C8; (try dsimp only at N8); (try k_sweep)))
local macro_rules | `(tactic| walk_at "eval Name") => `(tactic| (k_here; (with_reducible show wpAny _ _ (eval (Expr.Name _ _) (compEnvC _ _ _ _)) _ _ _); k_dflt (refine' LCgL.ld_own ?N ?m ?C ?x ?_ ?a ?b ?c; (case b => rfl); (case a => rfl); (case c => decide); (case N => k_asm); (case m => k_mem); (case C => assumption); (case x => rfl); k_whole)))
local macro_rules | `(tactic| walk_at "subscriptTail") => `(tactic| (k_here; (with_reducible show wpAny _ _ (subscriptTail _ _ (Value.ref _) (Value.int _ _)) _ _ _); k_dflt (refine' rows_item ?N ?m ?r ?u ?x ?l ?z ?_ ?s; (case N => k_asm); (case m => k_mem); (case r => assumption); (case u => (intro q hq; repeat (first | exact List.mem_append_left _ hq | refine List.Mem.tail _ ?_))); (case x => first | exact Int.zero_add _ | exact rfl); (case l => assumption); (case z => assumption); (case s => with_unfolding_all rfl); k_whole); intro a9 o9 ha9 hv9 hT9; (obtain ⟨u1', b', u2', c', u3', n', eo', hb', hc', hj', hk'⟩ := hv9); subst eo'; (dsimp only at hT9)))
local macro_rules | `(tactic| walk_at "subscriptTail Name BinOp ref int") => `(tactic| (k_here; (with_reducible show wpAny _ _ (subscriptTail _ _ (Value.ref _) (Value.int (Int.fmod _ _) _)) _ _ _); k_dflt (refine' ints_pick ?N ?m ?i ?p ?z ?_ ?s; (case N => k_asm); (case m => k_mem); (case i => assumption); (case p => assumption); (case z => assumption); (case s => with_unfolding_all rfl); k_whole); intro a9 t9 ha9))
local macro_rules | `(tactic| walk_at "subscriptTail Name Slice ref ref") => `(tactic| (k_here; (with_reducible show wpAny _ _ (subscriptTail _ (Expr.Slice none (some _) none _) (Value.ref _) (Value.ref _)) _ _ _); k_dflt (refine' rows_take (s := ⟨_, _, _, _, _⟩) ?F ?N ?m ?x ?z ?_ ?s ?t; (case F => k_asm); (case N => k_asm); (case m => k_mem); (case x => exact rfl); (case z => assumption); (case s => with_unfolding_all rfl); (case t => (intro _; with_unfolding_all rfl))); intro D9 h9 F9 N9 l9; (k_lt l9); (try dsimp only); (try k_sweep)))
local macro_rules | `(tactic| walk_at "subscriptTail") => `(tactic| (k_here; (with_reducible show wpAny _ _ (subscriptTail _ (Expr.Slice none (some _) none _) (Value.bytes _ _) (Value.ref _)) _ _ _); (refine' slice_to (s := ⟨_, _, _, _, _⟩) ?kF ?kN ?k1 ?k2 ?k3 ?_; (case kF => k_asm); (case kN => k_asm); (case k1 => assumption); (case k2 => omega); (case k3 => first | assumption | omega)); intro h8 b8 t8 k8 F8 N8 i8 z8; (try dsimp only); (try k_sweep)))
theorem fmod_in {a b : Int} (h : 0 < b) : 0 ≤ a.fmod b ∧ a.fmod b < b := ⟨Int.fmod_nonneg_of_pos _ h, Int.fmod_lt_of_pos _ h⟩
local macro_rules | `(tactic| walk_at "compareOp NotEq ref ref") => `(tactic| (k_here; k_dflt (refine' parts_ne (prog := _) (w := _) (vs := _) ?N ?m1 ?m2 (Parts.of ?N1 ?q1 ?q2 ?q3 ?q4 ?q5 ?q6 ?q7 ?q8) (Parts.of ?N2 ?r1 ?r2 ?r3 ?r4 ?r5 ?r6 ?r7 ?r8) ?u ?_ ?v; (case N => k_asm); (case m1 => k_mem); (case m2 => k_mem); (case N1 => k_asm); (case N2 => k_asm); (case q1 => k_mem); (case q2 => k_mem); (case r1 => k_mem); (case r2 => k_mem); (case q3 => assumption); (case q4 => assumption); (case r3 => assumption); (case r4 => assumption); (case q5 => assumption); (case q6 => assumption); (case r5 => assumption); (case r6 => assumption); (case q7 => assumption); (case q8 => assumption); (case r7 => assumption); (case r8 => assumption); (case u => (dsimp only [ATop, Around.deeper]; omega)); (case v => (dsimp only [ATop, Around.deeper, Around.in1]; omega)))))
def FullIv (vs : List Vec) (led : List (Addr × Obj)) (i : Nat) (ys : List Value) (nw : List (Addr × Obj)) : Prop :=
  nw = led ∧ ys.length ≤ i ∧ ∃ ns, IntsAre ys ns ∧ ∀ a ∈ ns, ∃ q : Nat, a = (q : Int) ∧ ∃ h : q < vs.length, vs[q].ks ≠ []
theorem made_localP {prog : Program} {w : World} {A : Around} {E : Value → Shared → Prop} {s : Shared} {h₀ : Heap} {L : Addr} {m : Str → Option Value} {env : Env} {ys : List Value} {nw : List (Addr × Obj)} {D C : Addr} {m' : Str → Option Value} {y : Str} {py : Pos} {P : Shared → Prop} (hLe : env.locals = L) (M : Made h₀ L m ys nw D C m' s.heap)
    (hy : env.kindOf y = some .local) (hp : (env.scope.kind == .class || (env.scope.kind == .module && env.locals != env.globals)) = false)
    (h : ∀ h' tk, Fr h₀ L h' (fun z => if z = y then some (.ref D) else m z) → News h₀ L h' ((D, lst ys) :: nw) → (∀ p ∈ nw, p.1 ≠ D) → P { s with heap := h', toks := tk }) :
    compPost (model prog w) A E (some (assign (.Name y py) env)) (fun _ s' => P s') (.ref D) C (.ok .next) s := made_local (Q := fun _ s' => P s') hLe M hy hp h
theorem ne_of_list {b : Array UInt8} {ks : List Int} (hb : KBw.bInts b = ks) (h : (b.toList != (#[] : Array UInt8).toList) = true) : ks ≠ [] := by
  intro e
  rw [e] at hb
  have : b.toList = [] := by simpa [KBw.bInts] using hb
  simp [this] at h
theorem law_cut {prog : Program} {w : World} {dp un : Nat} {gd : Option (List Code)} {A₀ : Around} {base h₀ : Heap} {s : Shared} {p : Program} {loose : List Str} {mean : ExcName → Option Value} {mg mb : Str → Option Value}
   {L l R : Addr} {o1 o2 o3 : Obj} {vs : List Vec} {b : Array UInt8} {t : Tok} {its : List Value} {nR : Nat} {objs tn : List (Addr × Obj)} {v1 : Option Value} {m : Str → Option Value} {Q : Flow → Shared → Prop} {E : Value → Shared → Prop} {vals : List Value} {ns : List Int}
   (B : Below A₀ base [] h₀) (X : (hd.heap_39 w.params).In h₀) (T : Top p loose mean mg mb h₀) (X₀ : Root w p loose mean mg mb base) (hdp : dp + 20 < recursionLimit) (hun : un + 200 < cLine) (hl : h₀.IsList l vals.toArray) (hi : IntsAre vals ns) (h63 : ns.length ≤ 63)
   (F : Fr h₀ L s.heap m) (N : News h₀ L s.heap (lawLed L R its nR objs tn o1 o2 o3)) (Z : LawAt L l R vs b its objs tn o1 o2 o3 v1) (hlen : vs.length ≤ 20) (hraw : m (Str.ofString "raw") = some (.bytes b t))
   (ret : ∀ m' h' tk' tn', Fr h₀ L h' m' → TnOk parsPos parsQual tn' → News h₀ L h' tn' → Q (.ret (.bool true)) { s with heap := h', toks := tk' }) :
   wpAny (model prog w) ((ATop dp un gd []).deeper (lawEnv L)) (execs (lawBody.drop 7) (lawEnv L)) Q E s := by
  dsimp only [lawEnv]
  generalize hsc : lawScope = sc
  conv at hsc => lhs; whnf
  subst hsc
  generalize hbd : lawBody.drop 7 = bd
  conv at hbd => lhs; whnf
  subst hbd
  rw [m_at hraw] at F
  have d2 := Z.d2
  have d3 := Z.d3
  have hb := Z.hb
  have hrows := Z.rows
  dsimp only [lawLed] at N
  have c1 := neN Z.cR.1
  have c2 := neN Z.cR.2.1
  have c3 := neN Z.cR.2.2
  have hil := Z.rows.length
  have hz1000 : its.length ≤ 1000 := by omega
  k_steps
  refine Halt.go ?_
  refine' comp_assign ?h1 ?h2 ?h3 ?h4 ?_
  case h1 => with_unfolding_all rfl
  case h2 => with_unfolding_all rfl
  case h3 => exact rfl
  case h4 => decide
  k_steps
  refine Halt.go ?_
  refine rows_len (by k_asm) (by k_mem) hz1000 fun tR kR => ?_
  try dsimp only
  k_steps
  (rename IsRange _ _ _ _ _ _ _ _ => rg9)
  (with_reducible rename Fr _ _ _ _ => F9)
  (with_reducible rename News _ _ _ _ => N9)
  try dsimp only
  refine' compgo_range (news := ?nws) (FullIv vs ?nws) ?klet rfl rg9 ?small (rangeSize_nat _ _) ?sz ?cell rfl F9 N9 ?h0 ?turn ?hRR
  case klet => intro I v; rfl
  case small => exact small_one (by decide) (by decide) (by omega) (by omega)
  case sz => rw [sizeLine_eq]; omega
  case cell => decide
  case h0 => exact ⟨rfl, Nat.le_refl _, [], .nil, fun _ h => (nomatch h)⟩
  case turn =>
    rintro q tq ys I₂ oI₂ C oC D₂ m₂ nw h tk E' hin ⟨rfl, hyl, nsH, hysH, hHits⟩ hC F₂ N₂ offn ⟨ne1, ne2, ne3⟩
    have hiv : q < vs.length := by omega
    replace N₂ := news_in N₂
    simp only [List.cons_append, List.nil_append] at N₂
    have offn' := offn
    have offC : ∀ q ∈ objs ++ tn, q.1 ≠ C := fun q hq => (offn q (.tail _ (.tail _ (.tail _ (.tail _ hq))))).2.1
    replace ne1 := neN ne1
    replace ne3 := neN ne3
    have g2 := neN (offn _ (.head _)).2.1
    have g3 := neN (offn _ (.tail _ (.head _))).2.1
    have g4 := neN (offn _ (.tail _ (.tail _ (.head _)))).2.1
    have g5 := neN (offn _ (.tail _ (.tail _ (.tail _ (.head _))))).2.1
    dsimp only at g2 g3 g4 g5
    clear offn
    k_sweep
    k_steps
    · rename ((_ != _) = true) => hq
      rename (KBw.bInts _ = vs[q].ks) => hbq
      refine cend_of (by k_asm) (by assumption) (by k_asm) offn' ⟨rfl, ?l1, nsH ++ [0 + (q : Int)], IntsAre.append hysH (.cons _ _ .nil), ?l2⟩
      case l1 => rw [List.length_append]; exact Nat.succ_le_succ hyl
      case l2 =>
        intro a ha
        rcases List.mem_append.mp ha with ha | ha
        · exact hHits a ha
        · rw [List.mem_singleton.mp ha]; exact ⟨q, Int.zero_add _, hiv, ne_of_list hbq hq⟩
    · exact cend_of (by k_asm) (by assumption) (by k_asm) offn' ⟨rfl, Nat.le_succ_of_le hyl, nsH, hysH, hHits⟩
  case hRR =>
    rintro D C h tk m' ys nw hM ⟨rfl, hyl, nsH, hysH, hHits⟩
    refine' made_localP (s := ⟨h, _, _, _, _⟩) ?ma hM ?mb ?mc ?_
    case ma => exact rfl
    case mb => exact rfl
    case mc => exact rfl
    intro h' tk2 F₂ N₂ offn
    have hyz : ys.length ≤ 1000 := by omega
    clear hM
    try dsimp only
    k_sweep
    k_steps
    · try dsimp only
      (with_reducible rename Fr _ _ _ _ => F3)
      (with_reducible rename News _ _ _ _ => N3)
      exact ret _ _ _ tn F3 Z.htn (news_sub N3 (fun q hq => .tail _ (.tail _ (.tail _ (.tail _ (.tail _ (.tail _ (List.mem_append_right _ hq))))))))
    · refine Halt.go ?_
      have hneF : nsH ≠ [] := of_decide_eq_false (by assumption)
      have hlF := hysH.length
      have hposF : 0 < ys.length := by rw [hlF]; exact List.length_pos_iff.mpr hneF
      refine rows_len (by k_asm) (by k_mem) hyz fun tF kF => ?_
      try dsimp only
      k_steps
      rename (_ ∈ nsH) => hA
      obtain ⟨q, eq, hq, hne⟩ := hHits _ hA
      subst eq
      refine Halt.go ?_
      (with_reducible rename Fr _ _ _ _ => F3)
      (with_reducible rename News _ _ _ _ => N3)
      replace N3 := news_sub (l' := (L + 1 + 1 + 1, o1) :: (L + 1 + 1, o2) :: (L + 1, o3) :: (R, W.listOf its.toArray nR) :: (objs ++ tn)) N3 (by lcg_sub)
      clear offn
      refine' comp_eval ?h5 ?h6 ?h7 ?_
      case h5 => with_unfolding_all rfl
      case h6 => exact rfl
      case h7 => decide
      k_steps
      (with_reducible rename Fr _ _ _ _ => F4)
      (with_reducible rename News _ _ _ _ => N4)
      rename Addr => D4
      have hrT := hrows.take q
      have hilT := hrT.length
      have hlT : (vs.take q).length = q := by rw [List.length_take]; omega
      try dsimp only
      refine' compgo_list (lo := W.listOf (its.take q).toArray 0) (its := its.take q) (news := ?nws4) (fun i ys nw => nw = ?nws4 ∧ IntsAre ys (((vs.take q).take i).map fun v => ((enc1 v).length : Int))) rfl rfl rfl rfl (.inr ?kin4) ?sz4 (by decide) rfl F4 N4 ⟨rfl, .nil⟩ ?turn4 ?hRR4
      case sz4 => rw [sizeLine_eq]; omega
      case kin4 =>
        rintro i ys nw ⟨rfl, _⟩
        exact .head _
      case turn4 =>
        rintro i v ys I oI C oC D₂ m₂ nw h tk E' hv ⟨rfl, hyS⟩ hC F₂ N₂ offn ⟨ne1, ne2, ne3⟩
        have hiv : i < (vs.take q).length := by rw [← hilT]; exact (List.getElem?_eq_some_iff.mp hv).1
        obtain ⟨a, o, q1, q2, q3⟩ := hrT.get (List.getElem?_eq_getElem hiv)
        rw [hv] at q1; cases q1
        obtain ⟨t1, b1, t2, cc, t3, n3, rfl, hb1, hc1, hj1, hk1⟩ := q3
        have hcl : (enc1 (vs.take q)[i]).length ≤ 303 := by rw [enc1_len]; omega
        have hT : IsTup h a #[.str (nameOf (vs.take q)[i].j) t1, .bytes b1 t2, .bytes cc t3] := ⟨_, (N₂ _ (List.mem_append_left _ (.tail _ (.tail _ (.tail _ (.tail _ (.tail _ (List.mem_append_left _ q2)))))))).1, rfl, n3, rfl⟩
        replace N₂ := news_in N₂
        simp only [List.cons_append, List.nil_append] at N₂
        have offn' := offn
        have offC : ∀ q ∈ objs ++ tn, q.1 ≠ C := fun q hq => (offn q (.tail _ (.tail _ (.tail _ (.tail _ (.tail _ hq)))))).2.1
        replace ne1 := neN ne1
        replace ne3 := neN ne3
        have g1 := neN (offn _ (.head _)).2.1
        have g2 := neN (offn _ (.tail _ (.head _))).2.1
        have g3 := neN (offn _ (.tail _ (.tail _ (.head _)))).2.1
        have g4 := neN (offn _ (.tail _ (.tail _ (.tail _ (.head _))))).2.1
        have g5 := neN (offn _ (.tail _ (.tail _ (.tail _ (.tail _ (.head _)))))).2.1
        dsimp only at g1 g2 g3 g4 g5
        clear offn
        k_sweep
        k_steps
        refine cend_of (by k_asm) (by assumption) (by k_asm) offn' ⟨rfl, ?_⟩
        rw [take_next hiv, List.map_append]
        exact IntsAre.append hyS (.cons _ _ .nil)
      case hRR4 =>
        rintro D5 C h tk m' ys5 nw hM ⟨rfl, hyS⟩
        refine made_eval hM fun h' F₂ N₂ offn => ?_
        rw [hilT, List.take_length] at hyS
        clear hM
        try dsimp only
        k_sweep
        k_steps
        refine Halt.go ?_
        refine sumK rfl F₂ N₂ ⟨_, (N₂ _ (.head _)).1, rfl, _, rfl⟩ hyS fun h6 tk6 t6 F6 N6 => ?_
        rw [sum_lens]
        replace N6 := news_sub (l' := (L + 1 + 1 + 1, o1) :: (L + 1 + 1, o2) :: (L + 1, o3) :: (R, W.listOf its.toArray nR) :: (objs ++ tn)) N6 (by lcg_sub)
        have hkq : 0 < vs[q].ks.length := List.length_pos_iff.mpr hne
        have hkq3 : vs[q].ks.length ≤ 300 := (Z.ok _ (List.getElem_mem hq)).2
        rename Int => nb
        have hfm := fmod_in (a := nb.fdiv 8) (b := (vs[q].ks.length : Int)) (by omega)
        have hszE := enc_le vs fun v hv => (Z.ok v hv).2
        have hz1 : (enc vs).length ≤ 10000 := by omega
        try dsimp only
        k_sweep
        k_steps
        refine Halt.go ?_
        obtain ⟨x, hx⟩ := Int.eq_ofNat_of_zero_le hfm.1
        have hx2 : x < vs[q].ks.length := by omega
        rename (KBw.bInts _ = List.take _ (enc vs)) => i8
        have ex : (((enc (vs.take q)).length : Int) + 3 + (nb.fdiv 8).fmod (vs[q].ks.length : Int)).toNat = at0 vs q + 3 + x := by rw [hx]; simp only [at0]; omega
        rw [ex, cut_mid hq (Nat.le_of_lt hx2)] at i8
        have hokT : VsOk (vs.take q) := ⟨by omega, fun v hv => Z.ok v (List.mem_of_mem_take hv)⟩
        have hcsT : CsOk false (some (vs[q], vs[q].ks.take x)) := fun v r e => by
          cases e
          exact ⟨(Z.ok _ (List.getElem_mem hq)).1, hkq3, by rw [List.length_take]; omega, rfl⟩
        (with_reducible rename Fr _ _ _ _ => F7)
        (with_reducible rename News _ _ _ _ => N7)
        refine law_read_broken B X T X₀ hdp hun F7 N7 Z i8 hokT hcsT fun h8 tk8 tn8 t8 F8 N8 Z8 => ?_
        try dsimp only
        k_sweep
        k_steps
        refine Halt.go ?_
        (with_reducible rename Fr _ _ _ _ => F9)
        (with_reducible rename News _ _ _ _ => N9)
        refine law_read_parts (top := []) (cs := some (vs[q], vs[q].ks.take x)) B X T X₀ hdp hun F9 N9 Z8 (fun _ h => nomatch h) i8 hokT hcsT (fun e => nomatch e) (.inr rfl) fun t10 f1 f2 p1 p2 kwF kwP n10 h10 tk10 tn10 F10 N10 Z10 off10 lo3 lo4 hF10 hP10 pF10 pP10 => ?_
        dsimp only [lawLed, List.cons_append, List.nil_append] at N10
        try dsimp only
        k_sweep
        k_steps
        refine Halt.go ?_
        (with_reducible rename Fr _ _ _ _ => F11)
        (with_reducible rename News _ _ _ _ => N11)
        refine (due_tel prog w _ (vs.take q)).useZ (A₀ := A₀) B F11 X N11 T rfl (by (dsimp only [ATop, Around.deeper]; omega)) (by (dsimp only [ATop, Around.deeper]; omega)) ⟨⟨its.take q, ⟨_, (N11 _ (.head _)).1, rfl, _, rfl⟩, hrT.inn fun q hq => (N11 q (.tail _ (.tail _ (.tail _ (.tail _ (.tail _ (.tail _ (.tail _ (.tail _ (List.mem_append_left _ hq)))))))))).1⟩, by omega⟩ fun r12 h12 tk12 F12 N12 mk12 po12 => ?_
        obtain ⟨t12, e1, e2, q1, q2, kvF, kvP, n12, rfl, z12, lo1, lo2, hF, hP, pF, pP⟩ := po12
        obtain ⟨N12', off12⟩ := mk12 _ z12
        clear N12 mk12 z12
        try dsimp only
        k_sweep
        simp only [List.cons_append, List.nil_append] at N12'
        k_steps
        try dsimp only
        refine ret _ _ _ tn10 F12 Z10.htn (news_sub N12' fun q hq => ?_)
        repeat (first | exact List.mem_append_right _ hq | refine List.Mem.tail _ ?_)
end Mine
end

/-! The law, whole. -/
section
open PySem PySem.W PyProof.Rows PySem.Calls PyProof.Rows.LCg
set_option Elab.async false
set_option maxRecDepth 100000
set_option maxHeartbeats 2000000
namespace Mine
theorem anewLawZ : True := by
  w_top off
  trivial
local macro_rules | `(tactic| walk_at "exec For Name Call cons nil") => `(tactic| (k_here; (rename Fr _ _ _ _ => lF'); (with_unfolding_all refine' For_turns lF' ?_)))
local macro_rules | `(tactic| walk_at "pyIter ref") => `(tactic| (k_here; refine halt ?_))
local macro_rules | `(tactic| walk_at "execs cons") => `(tactic| (k_here; (with_reducible show wpAny _ _ (execs (Stmt.Assign _ _ _ :: _) _) _ _ _); refine halt ?_))
def LawJ (L l : Addr) (i : Nat) (m : Str → Option Value) (nw : List (Addr × Obj)) : Prop :=
  ∃ R vs b t its nR objs tn o1 o2 o3 v1, nw = lawLed L R its nR objs tn o1 o2 o3 ∧ LawAt L l R vs b its objs tn o1 o2 o3 v1 ∧ vs.length ≤ 3 + i ∧ m (Str.ofString "raw") = some (.bytes b t)
theorem law_at_add {L l R I : Addr} {oI o1 o2 o3 : Obj} {vs : List Vec} {b : Array UInt8} {its : List Value} {nR : Nat} {objs tn : List (Addr × Obj)} {v1 : Option Value} (Z : LawAt L l R vs b its objs tn o1 o2 o3 v1) (hI : ∀ p ∈ lawLed L R its nR objs tn o1 o2 o3, p.1 ≠ I) : LawAt L l R vs b its ((I, oI) :: objs) tn o1 o2 o3 v1 := by
  refine ⟨Z.hb, Z.ok, Z.d1, Z.d2, Z.d3, Z.rows.mono fun q hq => .tail _ hq, Z.htn, Z.cR, fun q hq => ?_, fun q hq z hz => ?_⟩
  · rcases List.mem_cons.mp hq with rfl | hq
    · exact ⟨(hI (L + 1, o3) (.tail _ (.tail _ (.head _)))).symm, (hI (L + 1 + 1, o2) (.tail _ (.head _))).symm, (hI (L + 1 + 1 + 1, o1) (.head _)).symm, (hI (R, _) (.tail _ (.tail _ (.tail _ (.head _))))).symm⟩
    · exact Z.cells q hq
  · rcases List.mem_cons.mp hq with rfl | hq
    · exact hI z (.tail _ (.tail _ (.tail _ (.tail _ (List.mem_append_right _ hz)))))
    · exact Z.off q hq z hz
theorem law_at_drop {L l R I : Addr} {oI o1 o2 o3 : Obj} {vs : List Vec} {b : Array UInt8} {its : List Value} {objs tn : List (Addr × Obj)} {v1 : Option Value} (Z : LawAt L l R vs b its ((I, oI) :: objs) tn o1 o2 o3 v1) (hrows : RowsL objs its vs) : LawAt L l R vs b its objs tn o1 o2 o3 v1 :=
  ⟨Z.hb, Z.ok, Z.d1, Z.d2, Z.d3, hrows, Z.htn, Z.cR, fun q hq => Z.cells q (.tail _ hq), fun q hq z hz => Z.off q (.tail _ hq) z hz⟩
theorem law_off_I {L l R I : Addr} {oI o1 o2 o3 : Obj} {vs : List Vec} {b : Array UInt8} {its : List Value} {nR : Nat} {objs tn : List (Addr × Obj)} {v1 : Option Value} (Z : LawAt L l R vs b its ((I, oI) :: objs) tn o1 o2 o3 v1) (hI : ∀ q ∈ objs, q.1 ≠ I) : ∀ p ∈ lawLed L R its nR objs tn o1 o2 o3, p.1 ≠ I := fun p hp => by
  have c := Z.cells (I, oI) (.head _)
  rcases List.mem_cons.mp hp with rfl | hp
  · exact c.2.2.1.symm
  rcases List.mem_cons.mp hp with rfl | hp
  · exact c.2.1.symm
  rcases List.mem_cons.mp hp with rfl | hp
  · exact c.1.symm
  rcases List.mem_cons.mp hp with rfl | hp
  · exact c.2.2.2.symm
  rcases List.mem_append.mp hp with hp | hp
  · exact hI p hp
  · exact Z.off (I, oI) (.head _) p hp
theorem law_code' {prog : Program} {w : World} {dp un : Nat} {gd : Option (List Code)} {A₀ : Around} {base : Heap} {s : Shared} {p : Program} {loose : List Str} {mean : ExcName → Option Value} {mg mb : Str → Option Value} {tn : List (Addr × Obj)} {R : Result → Shared → Prop}
   {l : Addr} {vals : List Value} {ns : List Int}
   (htn : TnOk parsPos parsQual tn) (NT : ∀ q ∈ tn, s.heap.get? q.1 = some q.2) (X : (hd.heap_39 w.params).In (hid s.heap tn)) (T : Top p loose mean mg mb (hid s.heap tn)) (B : Below A₀ base [] (hid s.heap tn))
   (hdp : dp + 20 < recursionLimit) (hun : un + 200 < cLine) (X₀ : Root w p loose mean mg mb base) (hl : (hid s.heap tn).IsList l vals.toArray) (hi : IntsAre vals ns) (h63 : ns.length ≤ 63)
   (hret : ∀ h' tk' tn', (hid s.heap tn).StaysIn h' → TnOk parsPos parsQual tn' → (∀ q ∈ tn', h'.get? q.1 = some q.2) → R (.ok (.ret (.bool true))) { s with heap := h', toks := tk' }) :
   codeAny (model prog w) (ATop dp un gd []) (.call (.ref 146) ⟨[.ref l], []⟩) R s := by
  refine law_head htn NT X T B hdp hun X₀ hl hi h63 fun L Ra b t vs its nR objs tn' o1 o2 o3 v1 m h' tk' F N Z hl3 hraw => ?_
  dsimp only [lawEnv]
  generalize hsc : lawScope = sc
  conv at hsc => lhs; whnf
  subst hsc
  generalize hbd : lawBody.drop 3 = bd
  conv at hbd => lhs; whnf
  subst hbd
  k_steps
  refine Halt.go ?_
  (rename IsRange _ _ _ _ _ _ _ _ => rg9)
  (with_reducible rename Fr _ _ _ _ => F1)
  (with_reducible rename News _ _ _ _ => N1)
  refine' turns_range (n := 8) (LawJ L l) rfl ?klet rfl rg9 ?small ?hn F1 N1 ⟨Ra, vs, b, t, its, nR, objs, tn', o1, o2, o3, v1, rfl, Z, hl3, hraw⟩ ?turn ?done
  case klet => intro I v; rfl
  case small => decide
  case hn => rfl
  case turn =>
    rintro i ti I oI m₁ news₁ h tk hi8 ⟨R', vs', b', t', its', nR', objs', tn'', p1, p2, p3, v1', rfl, Z', hlen', hraw'⟩ hI F₁ N₁
    rw [m_at hraw'] at F₁
    rw [Int.zero_add]
    k_sweep
    k_steps
    refine Halt.go ?_
    (with_reducible rename Fr _ _ _ _ => F2)
    (with_reducible rename News _ _ _ _ => N2)
    refine law_turn (nR := nR') (I := I) (oI := oI) (objs := objs') (tn := tn'') B X T X₀ hdp hun hl hi h63 F2 (news_sub N2 ?sub) (law_at_add Z' hI) Z'.rows ?hIo hlen' hi8 rfl rfl fun R2 vs2 b2 its2 nR2 objs2 tn2 p1' p2' p3' v2 m2 h2 tk2 t2 F3 N3 Z3 rows3 hI3 hlen3 hraw3 => ?_
    case sub =>
      intro q hq
      dsimp only [lawLed, List.cons_append] at hq
      rcases List.mem_cons.mp hq with rfl | hq
      · exact .head _
      rcases List.mem_cons.mp hq with rfl | hq
      · exact .tail _ (.head _)
      rcases List.mem_cons.mp hq with rfl | hq
      · exact .tail _ (.tail _ (.head _))
      rcases List.mem_cons.mp hq with rfl | hq
      · exact .tail _ (.tail _ (.tail _ (.head _)))
      rcases List.mem_cons.mp hq with rfl | hq
      · exact List.mem_append_right _ (.head _)
      · exact List.mem_append_left _ (.tail _ (.tail _ (.tail _ (.tail _ hq))))
    case hIo =>
      intro q hq
      exact hI q (.tail _ (.tail _ (.tail _ (.tail _ (List.mem_append_left _ hq)))))
    refine ⟨h2, tk2, m2, lawLed L R2 its2 nR2 objs2 tn2 p1' p2' p3', rfl, F3, news_sub N3 ?sub2, law_off_I Z3 hI3, R2, vs2, b2, t2, its2, nR2, objs2, tn2, p1', p2', p3', v2, rfl, law_at_drop Z3 rows3, hlen3, hraw3⟩
    case sub2 =>
      intro q hq
      rcases List.mem_append.mp hq with hq | hq
      · dsimp only [lawLed] at hq
        rcases List.mem_cons.mp hq with rfl | hq
        · exact .head _
        rcases List.mem_cons.mp hq with rfl | hq
        · exact .tail _ (.head _)
        rcases List.mem_cons.mp hq with rfl | hq
        · exact .tail _ (.tail _ (.head _))
        rcases List.mem_cons.mp hq with rfl | hq
        · exact .tail _ (.tail _ (.tail _ (.head _)))
        · exact .tail _ (.tail _ (.tail _ (.tail _ (.tail _ hq))))
      · rw [List.mem_singleton.mp hq]
        exact .tail _ (.tail _ (.tail _ (.tail _ (.head _))))
  case done =>
    rintro m₁ news₁ h tk ⟨R', vs', b', t', its', nR', objs', tn'', p1, p2, p3, v1', rfl, Z', hlen', hraw'⟩ F₁ N₁
    refine law_strict B X T X₀ hdp hun F₁ N₁ Z' (by omega) hraw' fun m₂ h2 tk2 tn2 F2 N2 Z2 hraw2 => ?_
    refine law_nums (by passes_own) B X T hdp hun F2 N2 Z2 hraw2 fun m₃ h3 tk3 q1 v3 F3 N3 Z3 hraw3 => ?_
    refine law_cut B X T X₀ hdp hun hl hi h63 F3 N3 Z3 (by omega) hraw3 fun m₄ h4 tk4 tn4 F4 htn4 N4 => ?_
    exact hret h4 tk4 tn4 F4.keep htn4 fun q hq => (N4 q hq).1
end Mine
end

/-! The claim. -/
section
open PySem PySem.W PyProof.Rows PySem.Calls
set_option Elab.async false
set_option maxRecDepth 100000
set_option maxHeartbeats 2000000
namespace Mine
theorem anewT13 : True := by
  w_top off
  trivial
theorem law_run : PySem.Challenge.rw_bb0011_01.Holds := hd (by
  k_fill
  intro w s₀ s₁ mg mb G Y fa o pm cd doc dV kV ho hd hcd hD hmg hg args vals as hpre hlay hrd hwl hlo
  have KX := km_in_of Y
  km_tabs Y
  have X := (Ground.X G).1
  have V := (Ground.X G).2
  refine Ground.open G ?_
  intro T B D TE TW
  try (refine guard_noD D (by decide +kernel) ?_; clear D)
  km_lay T hmg ho hd cd
  have h146 : mg (Str.ofString "law") = some (.ref 146) := mg_of KX (Top.g T) (by k_is)
  have e146 : fa = 146 := by
    have e := hmg.symm.trans h146
    cases e
    rfl
  subst e146
  clear hmg ho hd hcd hD B TE TW
  wrow_args hpre hlay hrd hwl hlo
  all_goals (
    refine enter_call ?_
    kn_posts)
  have X' := ghost_K hT9 KX (by kernel_rfl)
  have T' := ghost_top hT9 T
  have K' := ghost_below hT9
  (with_reducible rename Heap.IsList _ _ _ => hL9)
  (with_reducible rename IntsAre _ _ => hI9)
  rename (¬ _) => hn9
  refine law_code' (tn := [(65, tabObj #[])]) (.inl rfl) (fun q hq => ?_) X' T' K' (by decide +kernel) (by decide +kernel) ⟨X', T'⟩ (ghost_list hT9 hL9) hI9 (by omega) fun h' tk' tn' st htn N => ?_
  · rw [List.mem_singleton.mp hq]; exact hT8 65 (.head _)
  · refine ⟨⟨.inl ⟨_, .bool true, [], rfl, raisesW_false (by wrow_none_raised), .bool _, postW_of (by wrow_shape) (by wtm_val) (by w_fin), unshared_nil⟩, st, rfl, hg⟩, ?_⟩
    refine ⟨?_, trivial⟩
    rcases htn with rfl | ⟨c', oc, vs, t, rfl, _⟩
    · exact ⟨_, N _ (.head _)⟩
    · exact ⟨_, N _ (.head _)⟩)
end Mine
end

theorem PySem.Challenge.cw_bb0011_01_holds : PySem.Challenge.rw_bb0011_01.Holds :=
  Mine.law_run
