import PyProof.Rows.All
import Wide.All
import OpenK.AllK
import Wide.FinOn
import PySem.Challenge.RW_ae5029_01
open PySem PySem.W PyProof.Rows
set_option Elab.async false
set_option maxRecDepth 100000
set_option maxHeartbeats 8000000
namespace Mine
open_top hd for PySem.Challenge.rw_ae5029_01

-- part P1
section
open PySem
/-- a value laid into the tree: a whole number or a text -/
inductive Val where
  | int (i : Int)
  | str (x : Str)
  deriving DecidableEq

abbrev Code := List Bool

inductive Tr where
  | none
  | leaf (v : Val)
  | node (l r : Tr)

def ins : Tr → Code → Val → Tr
  | _, [], v => .leaf v
  | .node l r, b :: bs, v => if b then .node l (ins r bs v) else .node (ins l bs v) r
  | .none, b :: bs, v => if b then .node .none (ins .none bs v) else .node (ins .none bs v) .none
  | .leaf u, _ :: _, _ => .leaf u

/-- no value stands on the road of the code -/
def ok : Tr → Code → Prop
  | _, [] => True
  | .node l r, b :: bs => ok (if b then r else l) bs
  | .none, _ :: _ => True
  | .leaf _, _ :: _ => False

abbrev Row := Code × Val

/-- what goes on behind the bit -/
def sub (b : Bool) : List Row → List Row
  | [] => []
  | (c :: cs, v) :: r => if c = b then (cs, v) :: sub b r else sub b r
  | ([], _) :: r => sub b r

/-- what the law's _law_tree makes of the rows behind a bit -/
def mk : Nat → List Row → Tr
  | _, [] => .none
  | _, ([], v) :: _ => .leaf v
  | 0, (_ :: _, _) :: _ => .none
  | n + 1, (c :: cs, v) :: r => .node (mk n (sub false ((c :: cs, v) :: r))) (mk n (sub true ((c :: cs, v) :: r)))

/-- the whole tree -/
def build (n : Nat) (rows : List Row) : Tr := .node (mk n (sub false rows)) (mk n (sub true rows))

/-- neither begins the other -/
def Apart (c d : Code) : Prop := ¬ c <+: d ∧ ¬ d <+: c

def Free (rows : List Row) : Prop := rows.Pairwise fun a b => Apart a.1 b.1

theorem apart_nil_left {d : Code} : ¬ Apart [] d := fun h => h.1 List.nil_prefix
theorem apart_nil_right {d : Code} : ¬ Apart d [] := fun h => h.2 List.nil_prefix
theorem Apart.symm {c d : Code} (h : Apart c d) : Apart d c := ⟨h.2, h.1⟩
theorem apart_cons {b : Bool} {c d : Code} : Apart (b :: c) (b :: d) ↔ Apart c d := by
  unfold Apart; simp [List.cons_prefix_cons]

theorem sub_append (b : Bool) : ∀ r s : List Row, sub b (r ++ s) = sub b r ++ sub b s
  | [], _ => rfl
  | ([], v) :: r, s => by simp only [List.cons_append, sub]; exact sub_append b r s
  | (c :: cs, v) :: r, s => by
    simp only [List.cons_append, sub, sub_append b r s]
    split <;> simp

theorem sub_one (b d : Bool) (ds : Code) (v : Val) : sub b [(d :: ds, v)] = if d = b then [(ds, v)] else [] := by
  simp only [sub]
theorem sub_take (b : Bool) {r : List Row} {j : Nat} {d : Bool} {ds : Code} {v : Val} (h : r[j]? = some (d :: ds, v)) : sub b (r.take (j + 1)) = sub b (r.take j) ++ if d = b then [(ds, v)] else [] := by
  rw [List.take_add_one, h, sub_append]; simp only [Option.toList_some, sub_one]

theorem sub_length (b : Bool) : ∀ r : List Row, (sub b r).length ≤ r.length
  | [] => Nat.le_refl _
  | ([], _) :: r => Nat.le_succ_of_le (sub_length b r)
  | (c :: cs, _) :: r => by
    have := sub_length b r
    simp only [sub]
    split
    · simpa using this
    · exact Nat.le_succ_of_le this

theorem mem_sub {b : Bool} {x : Row} : ∀ {r : List Row}, x ∈ sub b r ↔ (b :: x.1, x.2) ∈ r
  | [] => by simp [sub]
  | ([], v) :: r => by simp only [sub, mem_sub (r := r), List.mem_cons, Prod.mk.injEq]; simp
  | (c :: cs, v) :: r => by
    simp only [sub]
    by_cases h : c = b
    · subst h; simp only [if_true, List.mem_cons, mem_sub (r := r)]
      constructor
      · rintro (rfl | h)
        · exact .inl rfl
        · exact .inr h
      · rintro (h | h)
        · refine .inl ?_
          simp only [Prod.mk.injEq, List.cons.injEq] at h
          exact Prod.ext h.1.2 h.2
        · exact .inr h
    · simp only [if_neg h, mem_sub (r := r), List.mem_cons]
      constructor
      · exact .inr
      · rintro (h' | h')
        · simp only [Prod.mk.injEq, List.cons.injEq] at h'
          exact absurd h'.1.1.symm h
        · exact h'

theorem free_sub {b : Bool} {r : List Row} (h : Free r) : Free (sub b r) := by
  induction r with
  | nil => exact .nil
  | cons x r ih =>
    obtain ⟨c, v⟩ := x
    have h1 := List.pairwise_cons.mp h
    cases c with
    | nil => exact ih h1.2
    | cons c cs =>
      simp only [sub]
      by_cases e : c = b
      · subst e
        simp only [if_true]
        refine List.pairwise_cons.mpr ⟨fun y hy => ?_, ih h1.2⟩
        exact apart_cons.mp (h1.1 _ (mem_sub.mp hy))
      · simp only [if_neg e]; exact ih h1.2

/-- a list of rows apart, the code of nothing among them: none is empty -/
theorem free_ne_nil {x : Row} {c : Code} {r : List Row} (hc : ∀ y ∈ r, Apart y.1 c) (hx : x ∈ r) : x.1 ≠ [] := fun e => by
  have := hc x hx; rw [e] at this; exact apart_nil_left this

theorem mk_one : ∀ (n : Nat) (c : Code) (v : Val), c.length ≤ n → mk n [(c, v)] = ins .none c v
  | n, [], v, _ => by cases n <;> rfl
  | 0, _ :: _, _, h => absurd h (by simp)
  | n + 1, b :: bs, v, h => by
    have ih := mk_one n bs v (by simpa using h)
    cases b
    · simp only [mk, sub, ins]; simp [ih]; cases n <;> rfl
    · simp only [mk, sub, ins]; simp [ih]; cases n <;> rfl

theorem mk_snoc : ∀ (n : Nat) (r : List Row) (c : Code) (v : Val), (∀ x ∈ r, x.1.length ≤ n) → c.length ≤ n → (∀ x ∈ r, Apart x.1 c) →
    mk n (r ++ [(c, v)]) = ins (mk n r) c v ∧ ok (mk n r) c := by
  intro n
  induction n with
  | zero =>
    intro r c v hl hc ha
    have ec : c = [] := List.length_eq_zero_iff.mp (Nat.le_zero.mp hc)
    subst ec
    cases r with
    | nil => exact ⟨rfl, trivial⟩
    | cons x r => exact absurd (ha x (.head _)) apart_nil_right
  | succ n ih =>
    intro r c v hl hc ha
    cases r with
    | nil =>
      refine ⟨?_, ?_⟩
      · rw [List.nil_append, mk_one _ _ _ hc]; rfl
      · cases c <;> exact trivial
    | cons x r =>
      obtain ⟨d, u⟩ := x
      cases d with
      | nil => exact absurd (ha _ (.head _)) apart_nil_left
      | cons d ds =>
        cases c with
        | nil => exact absurd (ha _ (.head _)) apart_nil_right
        | cons b bs =>
          have key : ∀ a : Bool, mk n (sub a (((d :: ds, u) :: r) ++ [(b :: bs, v)])) = if b = a then ins (mk n (sub a ((d :: ds, u) :: r))) bs v else mk n (sub a ((d :: ds, u) :: r)) := by
            intro a
            rw [sub_append]
            by_cases e : b = a
            · subst e
              simp only [if_true]
              have e2 : sub b [(b :: bs, v)] = [(bs, v)] := by simp [sub]
              rw [e2]
              refine (ih _ _ _ (fun x hx => ?_) (by simpa using hc) (fun x hx => ?_)).1
              · have := hl _ (mem_sub.mp hx); simpa using this
              · exact apart_cons.mp (ha _ (mem_sub.mp hx))
            · simp only [if_neg e]
              have e2 : sub a [(b :: bs, v)] = [] := by simp [sub, e]
              rw [e2, List.append_nil]
          have hok : ok (mk n (sub b ((d :: ds, u) :: r))) bs := by
            refine (ih _ _ v (fun x hx => ?_) (by simpa using hc) (fun x hx => ?_)).2
            · have := hl _ (mem_sub.mp hx); simpa using this
            · exact apart_cons.mp (ha _ (mem_sub.mp hx))
          have hL : mk (n + 1) ((d :: ds, u) :: r) = .node (mk n (sub false ((d :: ds, u) :: r))) (mk n (sub true ((d :: ds, u) :: r))) := rfl
          have hR : mk (n + 1) (((d :: ds, u) :: r) ++ [(b :: bs, v)]) = .node (mk n (sub false (((d :: ds, u) :: r) ++ [(b :: bs, v)]))) (mk n (sub true (((d :: ds, u) :: r) ++ [(b :: bs, v)]))) := rfl
          rw [hL, hR, key false, key true]
          cases b
          · exact ⟨by simp [ins], by simpa [ok] using hok⟩
          · exact ⟨by simp [ins], by simpa [ok] using hok⟩

/-- a row's value changed -/
def put (c : Code) (v : Val) (r : List Row) : List Row := r.map fun x => if x.1 = c then (x.1, v) else x

theorem sub_put {b : Bool} {c : Code} {v : Val} : ∀ r : List Row, sub b (put (b :: c) v r) = put c v (sub b r)
  | [] => rfl
  | ([], u) :: r => by
    have := sub_put (b := b) (c := c) (v := v) r
    simpa [put, sub] using this
  | (d :: ds, u) :: r => by
    have ih := sub_put (b := b) (c := c) (v := v) r
    by_cases e : d = b
    · subst e
      by_cases e2 : ds = c
      · subst e2; simp only [put, List.map_cons, sub, if_true] at ih ⊢; simp [ih]
      · simp only [put, List.map_cons, sub] at ih ⊢; simp [e2, ih, sub]
    · simp only [put, List.map_cons, sub] at ih ⊢
      simp [e, ih, sub]
theorem sub_put_ne {a b : Bool} {c : Code} {v : Val} (h : b ≠ a) : ∀ r : List Row, sub a (put (b :: c) v r) = sub a r
  | [] => rfl
  | ([], u) :: r => by
    have := sub_put_ne (c := c) (v := v) h r
    simpa [put, sub] using this
  | (d :: ds, u) :: r => by
    have ih := sub_put_ne (c := c) (v := v) h r
    by_cases e : d = a
    · subst e
      have : ¬ (d = b ∧ ds = c) := fun h' => h h'.1.symm
      simp only [put, List.map_cons, sub, List.cons.injEq] at ih ⊢
      simp [this, ih, sub]
    · simp only [put, List.map_cons, sub] at ih ⊢
      by_cases e2 : d = b ∧ ds = c
      · obtain ⟨rfl, rfl⟩ := e2; simp [ih, sub, e]
      · simp [e, ih, sub, e2]

theorem put_free {c : Code} {v : Val} {r : List Row} (h : Free r) : Free (put c v r) := by
  refine List.pairwise_map.mpr (h.imp fun {a b} hab => ?_)
  split <;> split <;> exact hab

theorem mk_put : ∀ (n : Nat) (r : List Row) (c : Code) (v : Val), (∀ x ∈ r, x.1.length ≤ n) → Free r → c ∈ r.map (·.1) →
    mk n (put c v r) = ins (mk n r) c v ∧ ok (mk n r) c := by
  intro n
  have base : ∀ (n : Nat) (r : List Row) (u v : Val) , mk n (put [] v (([], u) :: r)) = ins (mk n (([], u) :: r)) [] v ∧ ok (mk n (([], u) :: r)) [] := by
    intro n r u v
    cases n <;> exact ⟨by simp [put, mk, ins], by simp [ok]⟩
  induction n with
  | zero =>
    intro r c v hl hf hc
    obtain ⟨x, hx, rfl⟩ := List.mem_map.mp hc
    have ec : x.1 = [] := List.length_eq_zero_iff.mp (Nat.le_zero.mp (hl x hx))
    cases r with
    | nil => cases hx
    | cons y r =>
      obtain ⟨d, u⟩ := y
      have ed : d = [] := List.length_eq_zero_iff.mp (Nat.le_zero.mp (hl (d, u) (.head _)))
      subst ed
      rw [ec]; exact base _ _ _ _
  | succ n ih =>
    intro r c v hl hf hc
    cases r with
    | nil => cases hc
    | cons y r =>
      obtain ⟨d, u⟩ := y
      cases d with
      | nil =>
        have hr : r = [] := by
          cases r with
          | nil => rfl
          | cons z r => exact absurd ((List.pairwise_cons.mp hf).1 z (.head _)) apart_nil_left
        subst hr
        have ec : c = [] := by simpa using hc
        subst ec
        exact base _ _ _ _
      | cons d ds =>
        cases c with
        | nil =>
          exfalso
          obtain ⟨x, hx, ex⟩ := List.mem_map.mp hc
          rcases List.mem_cons.mp hx with rfl | hx
          · cases ex
          · have := (List.pairwise_cons.mp hf).1 x hx
            rw [ex] at this; exact apart_nil_right this
        | cons b bs =>
          have hsub : bs ∈ (sub b ((d :: ds, u) :: r)).map (·.1) := by
            obtain ⟨x, hx, ex⟩ := List.mem_map.mp hc
            refine List.mem_map.mpr ⟨(bs, x.2), mem_sub.mpr ?_, rfl⟩
            have : ((b :: bs, x.2) : Row) = x := Prod.ext ex.symm rfl
            rw [this]; exact hx
          have hlen : ∀ a, ∀ x ∈ sub a ((d :: ds, u) :: r), x.1.length ≤ n := fun a x hx => by
            have := hl _ (mem_sub.mp hx); simpa using this
          have hI := ih (sub b ((d :: ds, u) :: r)) bs v (hlen b) (free_sub hf) hsub
          have hL : mk (n + 1) ((d :: ds, u) :: r) = .node (mk n (sub false ((d :: ds, u) :: r))) (mk n (sub true ((d :: ds, u) :: r))) := rfl
          have hR : mk (n + 1) (put (b :: bs) v ((d :: ds, u) :: r)) = .node (mk n (sub false (put (b :: bs) v ((d :: ds, u) :: r)))) (mk n (sub true (put (b :: bs) v ((d :: ds, u) :: r)))) := by
            by_cases e : d = b ∧ ds = bs
            · obtain ⟨rfl, rfl⟩ := e; simp [put, mk]
            · simp [put, mk, e]
          rw [hL, hR]
          cases b
          · rw [sub_put, sub_put_ne (by decide), hI.1]
            exact ⟨by simp [ins], by simpa [ok] using hI.2⟩
          · rw [sub_put, sub_put_ne (by decide), hI.1]
            exact ⟨by simp [ins], by simpa [ok] using hI.2⟩

theorem build_snoc {n : Nat} {r : List Row} {c : Code} {v : Val} (hl : ∀ x ∈ r, x.1.length ≤ n + 1) (hc : c.length ≤ n + 1) (hn : c ≠ []) (ha : ∀ x ∈ r, Apart x.1 c) :
    build n (r ++ [(c, v)]) = ins (build n r) c v ∧ ok (build n r) c := by
  cases c with
  | nil => exact absurd rfl hn
  | cons b bs =>
    have hlen : ∀ a, ∀ x ∈ sub a r, x.1.length ≤ n := fun a x hx => by
      have := hl _ (mem_sub.mp hx); simpa using this
    have hI := mk_snoc n (sub b r) bs v (hlen b) (by simpa using hc) fun x hx => apart_cons.mp (ha _ (mem_sub.mp hx))
    unfold build
    rw [sub_append, sub_append]
    cases b
    · have e1 : sub false [(false :: bs, v)] = [(bs, v)] := by simp [sub]
      have e2 : sub true [(false :: bs, v)] = [] := by simp [sub]
      rw [e1, e2, hI.1, List.append_nil]
      exact ⟨by simp [ins], by simpa [ok] using hI.2⟩
    · have e1 : sub true [(true :: bs, v)] = [(bs, v)] := by simp [sub]
      have e2 : sub false [(true :: bs, v)] = [] := by simp [sub]
      rw [e1, e2, hI.1, List.append_nil]
      exact ⟨by simp [ins], by simpa [ok] using hI.2⟩

theorem build_put {n : Nat} {r : List Row} {c : Code} {v : Val} (hl : ∀ x ∈ r, x.1.length ≤ n + 1) (hn : c ≠ []) (hf : Free r) (hc : c ∈ r.map (·.1)) :
    build n (put c v r) = ins (build n r) c v ∧ ok (build n r) c := by
  cases c with
  | nil => exact absurd rfl hn
  | cons b bs =>
    have hlen : ∀ a, ∀ x ∈ sub a r, x.1.length ≤ n := fun a x hx => by
      have := hl _ (mem_sub.mp hx); simpa using this
    have hsub : bs ∈ (sub b r).map (·.1) := by
      obtain ⟨x, hx, ex⟩ := List.mem_map.mp hc
      refine List.mem_map.mpr ⟨(bs, x.2), mem_sub.mpr ?_, rfl⟩
      have : ((b :: bs, x.2) : Row) = x := Prod.ext ex.symm rfl
      rw [this]; exact hx
    have hI := mk_put n (sub b r) bs v (hlen b) (free_sub hf) hsub
    unfold build
    cases b
    · rw [sub_put, sub_put_ne (by decide), hI.1]
      exact ⟨by simp [ins], by simpa [ok] using hI.2⟩
    · rw [sub_put, sub_put_ne (by decide), hI.1]
      exact ⟨by simp [ins], by simpa [ok] using hI.2⟩
end

-- part L1
section
open PySem PySem.W PySem.Spec PySem.Calls PyProof.Rows
section
variable {prog : Program} {w : World} {A : Around} {E : Value → Shared → Prop} {s : Shared} {env : Env} {h₀ : Heap} {x : Str} {body : List Stmt} {Q : Flow → Shared → Prop}

/-- a for over a range by ones, by any invariant over the turn's number, the names, the ledger -/
theorem iter_rangeJ {r : Addr} {a₀ b₀ : Int} {t₀ u₀ v₀ : Tok} {n : Nat} {m₀ : Str → Option Value} {news : List (Addr × Obj)} (J : Nat → (Str → Option Value) → List (Addr × Obj) → Prop)
    (hh : A.handled = none) (hr : IsRange s.heap r a₀ b₀ 1 t₀ u₀ v₀) (hsmall : Builtin.Range.small a₀ b₀ 1 = true) (hsz : Builtin.Range.rangeSize a₀ b₀ 1 = (n : Int)) (F : Fr h₀ env.locals s.heap m₀) (N : News h₀ env.locals s.heap news) (hj : J 0 m₀ news)
    (turn : ∀ i t m₁ nx h tk own, i < n → OwnOff own (nx.map (·.1)) → J i m₁ nx → Fr h₀ env.locals h (fun y => if y = x then some (.int (a₀ + (i : Int)) t) else m₁ y) → News h₀ env.locals h (nx ++ own) →
      wpAny (model prog w) A (execs body env) (InvPostG h₀ env.locals (J (i + 1)) own { s with heap := h, toks := tk } Q) E { s with heap := h, toks := tk })
    (done : ∀ m₁ nx h tk, J n m₁ nx → Fr h₀ env.locals h m₁ → News h₀ env.locals h nx → Q .next { s with heap := h, toks := tk }) :
    wpAny (model prog w) A (pyIter (.ref r)) (fun it s₂ => LoopAtV prog w A h₀ env x body Q E it s₂) E s := by
  refine wpAny_pyIter_range hr hsmall ?_
  have W : Walks prog w A s.heap.objs.size [s.heap.objs.size] [s.heap.objs.size] n (fun i v => i < n ∧ ∃ t, v = .int (a₀ + i * 1) t)
      (fun i h => IsRangeIter h s.heap.objs.size (a₀ + (i : Nat) * 1) ((n : Int) - (i : Nat)) 1) := (Walks.range hh _ a₀ 1 n).bound
  refine kdr_loop J W (fun _ h => h) (fun _ h => h) ?_ ?_ ?_ ?_ (by show IsRangeIter _ _ _ _ _; rw [hsz]; simpa using Heap.get?_push_size _ rfl) (F.push _) (fun p hp => ⟨Heap.get?_push_of_some _ (N p hp).1, (N p hp).2⟩) hj ?_ ?_
  · intro i h hi b hb
    rw [List.mem_singleton.mp hb]
    exact ⟨_, hi⟩
  · intro hm
    exact absurd F.ns.lt ((List.mem_singleton.mp hm) ▸ Nat.lt_irrefl _)
  · intro b hb
    rw [List.mem_singleton.mp hb]
    exact next_is_new F
  · intro p hp hI
    exact absurd (Heap.lt_size (N p hp).1) ((List.mem_singleton.mp hI) ▸ Nat.lt_irrefl _)
  · rintro i v m₁ nx h tk own hi ⟨_, t, rfl⟩ hoff hJ F₁ N₁
    have e1 : a₀ + (i : Int) * 1 = a₀ + (i : Int) := by omega
    rw [e1] at F₁
    exact turn i t m₁ nx h tk own hi hoff hJ F₁ N₁
  · exact done

/-- the names' map with one name written out -/
theorem fr_at {L : Addr} {h : Heap} {m : Str → Option Value} (n : Str) (v : Value) (F : Fr h₀ L h m) (e : m n = some v) : Fr h₀ L h (fun y => if y = n then some v else m y) := by
  have : (fun y => if y = n then some v else m y) = m := by
    funext y
    by_cases hy : y = n
    · subst hy; simp [e]
    · simp [hy]
  rw [this]; exact F
end
section
variable {prog : Program} {w : World} {A : Around} {E : Value → Shared → Prop} {s : Shared} {h₀ : Heap} {L D : Addr} {m : Str → Option Value} {news news' : List (Addr × Obj)} {vs : List Value} {n : Nat} {k : Int} {t : Tok} {v : Value}
/-- a store into a list of the ledger, of any value -/
theorem set_any {Q : Unit → Shared → Prop} (F : Fr h₀ L s.heap m) (N : News h₀ L s.heap news) (U : Upd D (W.listOf vs.toArray n) (W.listOf (vs.set k.toNat v).toArray n) news news') (h0 : 0 ≤ k) (h1 : k < vs.length) (hfit : k < 2 ^ 63)
    (h : ∀ h', Fr h₀ L h' m → News h₀ L h' news' → Q () { s with heap := h' }) :
    wpAny (model prog w) A (setItem (.ref D) (.int k t) v) Q E s := by
  obtain ⟨pre, post, rfl, rfl, a, b⟩ := U.split
  have z := N (D, W.listOf vs.toArray n) (List.mem_append.mpr (.inr (.head _)))
  have hs : vs.toArray.size = vs.length := List.size_toArray ..
  refine ki_setAt z.1 h0 hfit (by omega) (h _ (F.change (Heap.SameBut.update ..) z.2.1 z.2.2) (ki_turn _ N a b ?_ ?_))
  · show vs.toArray.setIfInBounds k.toNat v = (vs.set k.toNat v).toArray
    apply Array.toList_inj.mp
    simp
  · simp
end
end

-- part L2
section
open PySem PySem.W PySem.Spec PySem.Calls PyProof.Rows
section
variable {prog : Program} {w : World} {A : Around} {E : Value → Shared → Prop} {s : Shared} {h₀ : Heap} {L a : Addr} {cn : Str} {cs : Scope} {ccd : Value} {cl : List (Str × Addr)} {Q : Flow → Shared → Prop}

/-- a turn's end, where the loop's own name is a cell -/
def CellEnd (h₀ : Heap) (L c : Addr) (J : (Str → Option Value) → List (Addr × Obj) → Prop) (own : List (Addr × Obj)) (s₁ : Shared) (Q : Flow → Shared → Prop) (f : Flow) (s₂ : Shared) : Prop :=
  match f with
  | .ret v => Q (.ret v) s₂
  | .brk => Q .next s₂
  | _ => ∃ h' tk m' o' ov rest' news', s₂ = { s₁ with heap := h', toks := tk } ∧ Fr h₀ L h' m' ∧ News h₀ L h' news' ∧ (c, o') ∈ news' ∧ o'.data = .cell ov ∧ (∀ p ∈ rest', p ∈ news') ∧ (∀ p ∈ own, p ∈ news') ∧
      (∀ p ∈ rest', p.1 ≠ c) ∧ OwnOff own (rest'.map (·.1)) ∧ J m' rest'

/-- a for over a written text, its name a cell -/
theorem for_cell {x txt : Str} {c : Addr} {px pos p2 : Pos} {kk : Nat} {body : List Stmt} {m₀ : Str → Option Value} {o₀ : Obj} {v₀ : Option Value} {rest₀ : List (Addr × Obj)} (J : Nat → (Str → Option Value) → List (Addr × Obj) → Prop)
    (hh : A.handled = none) (ha : txt.cps.all (· < 128) = true) (hk : cs.kind = .function) (hx : (envX cn cs L a ccd cl).kindOf x = some .cell) (hc : cl.lookup x = some c)
    (F : Fr h₀ L s.heap m₀) (N : News h₀ L s.heap ((c, o₀) :: rest₀)) (hd : o₀.data = .cell v₀) (hoff : ∀ p ∈ rest₀, p.1 ≠ c) (hj : J 0 m₀ rest₀)
    (turn : ∀ i ch m o t rest h tk own, txt.cps[i]? = some ch → J i m rest → o.data = .cell (some (.str ⟨#[ch]⟩ t)) → (∀ p ∈ rest, p.1 ≠ c) → OwnOff own (c :: rest.map (·.1)) → Fr h₀ L h m → News h₀ L h ((c, o) :: (rest ++ own)) →
      wpAny (model prog w) A (execs body (envX cn cs L a ccd cl)) (CellEnd h₀ L c (J (i + 1)) own { s with heap := h, toks := tk } Q) (fun _ _ => False) { s with heap := h, toks := tk })
    (done : ∀ m o ov rest h tk, J txt.cps.size m rest → o.data = .cell ov → Fr h₀ L h m → News h₀ L h ((c, o) :: rest) → Q .next { s with heap := h, toks := tk }) :
    wpAny (model prog w) A (exec (.For (.Name x px) (.Constant (.str txt) kk p2) body [] pos) (envX cn cs L a ccd cl)) Q E s := by
  refine wpAny_For (wpAny_Constant_str (wpAny_pyIter_ascii ha ?_)) (fun _ => rfl)
  dsimp only
  generalize hI : s.heap.objs.size = It
  have W := Walks.strAscii (prog := prog) (w := w) hh It txt s.toks
  have hst0 : (s.heap.push { cls := .type "str_ascii_iterator", data := .fields #[.str txt s.toks, .int 0 0] }).IsStrIter It "str_ascii_iterator" txt s.toks 0 := ⟨_, hI ▸ Heap.get?_push_size _ rfl, rfl, rfl⟩
  have hI0 : h₀.get? It = none := hI ▸ next_is_new F
  have hLI : L ≠ It := fun e => absurd F.ns.lt (by rw [hI, e]; exact Nat.lt_irrefl _)
  have hNI : ∀ p ∈ (c, o₀) :: rest₀, p.1 ≠ It := fun p hp e => absurd (Heap.lt_size (N p hp).1) (by rw [hI, e]; exact Nat.lt_irrefl _)
  refine codeAny_forLoop (fun k s' => ∃ h' tk i m' o ov rest, s' = { s with heap := h', toks := tk } ∧ i ≤ txt.cps.size ∧ k = txt.cps.size + 1 - i ∧ h'.IsStrIter It "str_ascii_iterator" txt s.toks i ∧ Fr h₀ L h' m' ∧ News h₀ L h' ((c, o) :: rest) ∧ o.data = .cell ov ∧ (∀ p ∈ rest, p.1 ≠ c) ∧
    (∀ p ∈ (c, o) :: rest, p.1 ≠ It) ∧ J i m' rest) ?_ (txt.cps.size + 1) ⟨_, s.toks + 1, 0, m₀, o₀, v₀, rest₀, rfl, Nat.zero_le _, rfl, hst0, F.push _, (fun p hp => ⟨Heap.get?_push_of_some _ (N p hp).1, (N p hp).2⟩), hd, hoff, hNI, hj⟩
  rintro k s' ⟨h', tk, i, m', o, ov, rest, rfl, hi, rfl, hst, F', N', hd', hoff', hnI, hJ⟩
  by_cases hlt : i < txt.cps.size
  · refine W.item i _ _ _ hlt hst fun v h₁ tk₁ hP hst₁ hk₁ => ?_
    obtain ⟨ch, u, hch, rfl⟩ := hP
    have F₁ := LCg.fr_but F' hk₁ hLI hI0
    have N₁ := LCg.news_but N' hk₁ hnI
    dsimp only
    have hmem := N₁ (c, o) (.head _)
    have hcI : c ≠ It := hnI (c, o) (.head _)
    refine wpAny_assign_Name (wpAny_storeName_cell hk hx hc ⟨o, hmem.1, hd'⟩ fun h₂ hv hs => ?_)
    obtain ⟨o', ho', hd₂⟩ := hv
    have F₂ : Fr h₀ L h₂ m' := F₁.change hs hmem.2.1 hmem.2.2
    have N₂ : News h₀ L h₂ ((c, o') :: rest) := fun p hp => by
      rcases List.mem_cons.mp hp with rfl | hp
      · exact ⟨ho', hmem.2⟩
      · have z := N₁ p (.tail _ hp)
        exact ⟨(hs.2 _ (hoff' p hp)).trans z.1, z.2⟩
    have hst₂ : h₂.IsStrIter It "str_ascii_iterator" txt s.toks (i + 1) := W.frame _ _ _ hst₁ fun b hb ob e => by
      rw [List.mem_singleton.mp hb] at e ⊢
      exact (hs.2 _ (Ne.symm hcI)).trans e
    have Nown : News h₀ L h₂ (ownOf h₀ [It] h₂) := news_ownOf (by simpa using hLI)
    have hown : ∀ p ∈ ownOf h₀ [It] h₂, p.1 = It := fun p hp => List.mem_singleton.mp (ownOf_sub p hp)
    have N₃ : News h₀ L h₂ ((c, o') :: (rest ++ ownOf h₀ [It] h₂)) := fun p hp => by
      rcases List.mem_cons.mp hp with rfl | hp
      · exact N₂ _ (.head _)
      · rcases List.mem_append.mp hp with hp | hp
        · exact N₂ _ (.tail _ hp)
        · exact Nown _ hp
    have hoffO : OwnOff (ownOf h₀ [It] h₂) (c :: rest.map (·.1)) := fun p hp b hb e => by
      rw [hown p hp] at e
      rcases List.mem_cons.mp hb with hb | hb
      · exact hcI (hb ▸ e.symm)
      · obtain ⟨q, hq, hq2⟩ := List.mem_map.mp hb
        exact hnI q (.tail _ hq) (hq2.trans e.symm)
    refine wpAny_mono (turn i ch m' o' u rest h₂ _ _ hch hJ hd₂ hoff' hoffO F₂ N₃) (fun f s₃ h₃ => ?_) fun _ _ e => e.elim
    have fin : (∃ h'' tk'' m'' o'' ov'' rest'' news'', s₃ = { s with heap := h'', toks := tk'' } ∧ Fr h₀ L h'' m'' ∧ News h₀ L h'' news'' ∧ (c, o'') ∈ news'' ∧ o''.data = .cell ov'' ∧ (∀ p ∈ rest'', p ∈ news'') ∧ (∀ p ∈ ownOf h₀ [It] h₂, p ∈ news'') ∧
        (∀ p ∈ rest'', p.1 ≠ c) ∧ OwnOff (ownOf h₀ [It] h₂) (rest''.map (·.1)) ∧ J (i + 1) m'' rest'') →
        ∃ m, m < txt.cps.size + 1 - i ∧ ∃ h' tk i m' o ov rest, s₃ = { s with heap := h', toks := tk } ∧ i ≤ txt.cps.size ∧ m = txt.cps.size + 1 - i ∧ h'.IsStrIter It "str_ascii_iterator" txt s.toks i ∧ Fr h₀ L h' m' ∧ News h₀ L h' ((c, o) :: rest) ∧ o.data = .cell ov ∧ (∀ p ∈ rest, p.1 ≠ c) ∧
          (∀ p ∈ (c, o) :: rest, p.1 ≠ It) ∧ J i m' rest := by
      rintro ⟨h'', tk'', m'', o'', ov'', rest'', news'', rfl, F'', N'', hc'', hd'', hr'', ho'', hoff'', hoo, hJ''⟩
      have hstE : h''.IsStrIter It "str_ascii_iterator" txt s.toks (i + 1) := W.frame _ _ _ hst₂ fun b hb ob e => by
        have hb := List.mem_singleton.mp hb
        subst hb
        exact (N'' _ (ho'' _ (mem_ownOf (List.mem_singleton.mpr rfl) hI0 e))).1
      refine ⟨_, by omega, h'', tk'', i + 1, m'', o'', ov'', rest'', rfl, hlt, rfl, hstE, F'', ?_, hd'', hoff'', ?_, hJ''⟩
      · intro p hp
        rcases List.mem_cons.mp hp with rfl | hp
        · exact N'' _ hc''
        · exact N'' _ (hr'' p hp)
      · intro p hp e
        rcases List.mem_cons.mp hp with rfl | hp
        · exact hcI e
        · obtain ⟨oI, hoI, _⟩ := id hst₂
          exact hoo (It, oI) (mem_ownOf (List.mem_singleton.mpr rfl) hI0 hoI) p.1 (List.mem_map.mpr ⟨p, hp, rfl⟩) e.symm
    cases f with
    | ret v => exact h₃
    | brk => exact h₃
    | next => exact fin h₃
    | cont => exact fin h₃
  · obtain rfl : i = txt.cps.size := Nat.le_antisymm hi (Nat.not_lt.mp hlt)
    refine W.done _ _ _ hst fun h₁ tk₁ hk₁ => wpAny_execs_nil ?_
    exact done m' o ov rest h₁ tk₁ hJ hd' (LCg.fr_but F' hk₁ hLI hI0) (LCg.news_but N' hk₁ hnI)
end
end

-- part L3
section
open PySem PySem.W PySem.Spec PySem.Calls PyProof.Rows
section
variable {prog : Program} {w : World} {A : Around} {s : Shared} {h₀ : Heap} {L : Addr} {m : Str → Option Value} {env : Env}

theorem compEnd_mono {s₁ : Shared} {I C D : Addr} {oI oC oD : Obj} {S : List (Addr × Obj) → Prop} {r r' : Value → List (Addr × Obj) → Prop} {y : Value} {s₂ : Shared}
    (h : LCg.CompEnd h₀ L m s₁ I oI C oC D oD S r y s₂) (k : ∀ y n, r y n → r' y n) : LCg.CompEnd h₀ L m s₁ I oI C oC D oD S r' y s₂ :=
  let ⟨h', tk, nw, e, F, N, o, hs, hr⟩ := h
  ⟨h', tk, nw, e, F, N, o, hs, k _ _ hr⟩

/-- a comprehension with a test, by an invariant over the turn's number, the items made, the ledger -/
theorem compT_ind {ct elt : Expr} {x : Str} {scope : Scope} {cl : List (Str × Addr)} {S : List (Addr × Obj) → Prop} {P : Nat → Value → Prop} {Fin : List Value → List (Addr × Obj) → Prop} {n : Nat} {news₀ : List (Addr × Obj)}
    (I : Nat → List Value → List (Addr × Obj) → Prop) (h0 : I 0 [] news₀)
    (step : ∀ i ys news v It oI C oC D m₂ h tk, i < n → I i ys news → P i v → LCg.NsObj oC m₂ → m₂ x = some v → Fr h₀ L h m → News h₀ L h ((It, oI) :: (C, oC) :: (D, LCg.lst ys) :: news) → LCg.Off3 It C D news → ((@Ne Nat It C) ∧ (@Ne Nat It D) ∧ (@Ne Nat C D)) →
      wpAny (model prog w) A (isTrue ct (compEnvC scope cl C env) (eval ct (compEnvC scope cl C env))) (fun ok s' => if ok = true then
        wpAny (model prog w) A (eval elt (compEnvC scope cl C env)) (LCg.CompEnd h₀ L m { s with heap := h, toks := tk } It oI C oC D (LCg.lst ys) S (fun y news' => I (i + 1) (ys ++ [y]) news')) (fun _ _ => False) s'
        else LCg.CompEnd h₀ L m { s with heap := h, toks := tk } It oI C oC D (LCg.lst ys) S (fun _ news' => I (i + 1) ys news') Value.none s') (fun _ _ => False) { s with heap := h, toks := tk })
    (fin : ∀ ys news, I n ys news → Fin ys news) : LCt.CompRestT prog w A h₀ L m env ct elt x scope cl s S P Fin n 0 [] news₀ := by
  have key : ∀ k i ys news, i + k = n → I i ys news → LCt.CompRestT prog w A h₀ L m env ct elt x scope cl s S P Fin k i ys news := by
    intro k
    induction k with
    | zero => intro i ys news e hI; rw [Nat.add_zero] at e; subst e; exact fin ys news hI
    | succ k ih =>
      intro i ys news e hI
      refine LCt.CompRestT.succ fun v It oI C oC D m₂ h tk E' hP hC hx F N off ne => ?_
      refine wpAny_mono (step i ys news v It oI C oC D m₂ h tk (by omega) hI hP hC hx F N off ne) (fun ok s' h₁ => ?_) fun _ _ e => e.elim
      cases ok with
      | true =>
        simp only [if_true] at h₁ ⊢
        exact wpAny_mono h₁ (fun y s'' h₂ => compEnd_mono h₂ fun y nw hy => ih _ _ _ (by omega) hy) fun _ _ e => e.elim
      | false =>
        simp only [Bool.false_eq_true, if_false] at h₁ ⊢
        exact compEnd_mono h₁ fun y nw hy => ih _ _ _ (by omega) hy
  exact key n 0 [] news₀ (Nat.zero_add n) h0

/-- a comprehension without a test -/
theorem comp_ind {elt : Expr} {x : Str} {scope : Scope} {cl : List (Str × Addr)} {S : List (Addr × Obj) → Prop} {P : Nat → Value → Prop} {Fin : List Value → List (Addr × Obj) → Prop} {n : Nat} {news₀ : List (Addr × Obj)}
    (I : Nat → List Value → List (Addr × Obj) → Prop) (h0 : I 0 [] news₀)
    (step : ∀ i ys news v It oI C oC D m₂ h tk, i < n → I i ys news → P i v → LCg.NsObj oC m₂ → m₂ x = some v → Fr h₀ L h m → News h₀ L h ((It, oI) :: (C, oC) :: (D, LCg.lst ys) :: news) → LCg.Off3 It C D news → ((@Ne Nat It C) ∧ (@Ne Nat It D) ∧ (@Ne Nat C D)) →
      wpAny (model prog w) A (eval elt (compEnvC scope cl C env)) (LCg.CompEnd h₀ L m { s with heap := h, toks := tk } It oI C oC D (LCg.lst ys) S (fun y news' => I (i + 1) (ys ++ [y]) news')) (fun _ _ => False) { s with heap := h, toks := tk })
    (fin : ∀ ys news, I n ys news → Fin ys news) : LCg.CompRest prog w A h₀ L m env elt x scope cl s S P Fin n 0 [] news₀ := by
  have key : ∀ k i ys news, i + k = n → I i ys news → LCg.CompRest prog w A h₀ L m env elt x scope cl s S P Fin k i ys news := by
    intro k
    induction k with
    | zero => intro i ys news e hI; rw [Nat.add_zero] at e; subst e; exact fin ys news hI
    | succ k ih =>
      intro i ys news e hI
      refine LCg.CompRest.succ fun v It oI C oC D m₂ h tk E' hP hC hx F N off ne => ?_
      exact wpAny_mono (step i ys news v It oI C oC D m₂ h tk (by omega) hI hP hC hx F N off ne) (fun y s'' h₂ => compEnd_mono h₂ fun y nw hy => ih _ _ _ (by omega) hy) fun _ _ e => e.elim
  exact key n 0 [] news₀ (Nat.zero_add n) h0

/-- the turn's end: one object made, handed on -/
theorem compEnd_new {s₁ : Shared} {It C D q : Addr} {oI oC oD oq : Obj} {S : List (Addr × Obj) → Prop} {r : Value → List (Addr × Obj) → Prop} {y : Value} {h' : Heap} {tk : Nat} {all : List (Addr × Obj)} (nw : List (Addr × Obj))
    (F : Fr h₀ L h' m) (N : News h₀ L h' all) (hs : ∀ p ∈ (It, oI) :: (C, oC) :: (D, oD) :: (q, oq) :: nw, p ∈ all) (hI : @LT.lt Nat _ It q) (hC : @LT.lt Nat _ C q) (hD : @LT.lt Nat _ D q) (off : LCg.Off3 It C D nw) (hS : S ((q, oq) :: nw)) (hr : r y ((q, oq) :: nw)) :
    LCg.CompEnd h₀ L m s₁ It oI C oC D oD S r y { s₁ with heap := h', toks := tk } :=
  LCg.CompEnd.intro F N ((q, oq) :: nw) hs ⟨⟨Nat.ne_of_gt hI, Nat.ne_of_gt hC, Nat.ne_of_gt hD⟩, off⟩ hS hr
/-- the turn's end: nothing made -/
theorem compEnd_old {s₁ : Shared} {It C D : Addr} {oI oC oD : Obj} {S : List (Addr × Obj) → Prop} {r : Value → List (Addr × Obj) → Prop} {y : Value} {h' : Heap} {tk : Nat} {nw : List (Addr × Obj)}
    (F : Fr h₀ L h' m) (N : News h₀ L h' ((It, oI) :: (C, oC) :: (D, oD) :: nw)) (off : LCg.Off3 It C D nw) (hS : S nw) (hr : r y nw) :
    LCg.CompEnd h₀ L m s₁ It oI C oC D oD S r y { s₁ with heap := h', toks := tk } := LCg.CompEnd.intro F N nw (fun _ hp => hp) off hS hr
end
theorem led1 {q1 q2 q3 a c p r : Addr × Obj} {t2 t3 : List (Addr × Obj)} (ha : a ∈ t3) : ∀ x ∈ q1 :: q2 :: q3 :: a :: c :: (t2 ++ (p :: r :: t3)), x ∈ q1 :: q2 :: q3 :: (t2 ++ (c :: p :: r :: t3)) := by
  intro x hx; grind
theorem led2 {d q1 q2 q3 a c p r : Addr × Obj} {t2 t3 : List (Addr × Obj)} : ∀ x ∈ q1 :: q2 :: q3 :: d :: (t2 ++ (c :: p :: r :: t3)), x ∈ d :: q1 :: q2 :: q3 :: a :: c :: (t2 ++ (p :: r :: t3)) := by
  intro x hx; grind
theorem led3 {d c p r : Addr × Obj} {t2 t3 : List (Addr × Obj)} : ∀ x ∈ d :: p :: c :: (t2 ++ (r :: t3)), x ∈ d :: (t2 ++ (c :: p :: r :: t3)) := by
  intro x hx; grind
theorem led4 {z d p c r : Addr × Obj} {t2 t t3 own : List (Addr × Obj)} : ∀ x ∈ c :: p :: (t ++ (r :: t3) ++ own), x ∈ z :: d :: p :: c :: (t2 ++ (r :: (t ++ t3 ++ own))) := by
  intro x hx; grind
theorem led5 {d c p r a : Addr × Obj} {t2 t3 : List (Addr × Obj)} (ha : a ∈ t2) : ∀ x ∈ d :: p :: a :: c :: (t2 ++ (r :: t3)), x ∈ d :: (t2 ++ (c :: p :: r :: t3)) := by
  intro x hx; grind
theorem led6 {z d p a c r : Addr × Obj} {t2 t t3 own : List (Addr × Obj)} : ∀ x ∈ c :: p :: (t ++ (r :: t3) ++ own), x ∈ z :: d :: p :: a :: c :: (t2 ++ (r :: (t ++ t3 ++ own))) := by
  intro x hx; grind
theorem led7 {d p : Addr × Obj} {t l : List (Addr × Obj)} : ∀ x ∈ (p :: t) ++ l, x ∈ d :: p :: (t ++ l) := by
  intro x hx; grind
theorem allLt_mem {d : Addr} : ∀ {l : List (Addr × Obj)}, AllLt d l → ∀ q ∈ l, @LT.lt Nat _ q.1 d
  | [], _, _, h => nomatch h
  | _ :: _, x, q, h => by
    rcases List.mem_cons.mp h with rfl | h
    · exact x.1
    · exact allLt_mem x.2 q h
theorem off1_mem {D : Addr} : ∀ {l : List (Addr × Obj)}, LCg.Off1 D l → ∀ q ∈ l, @Ne Nat q.1 D
  | [], _, _, h => nomatch h
  | _ :: _, x, q, h => by
    rcases List.mem_cons.mp h with rfl | h
    · exact x.1
    · exact off1_mem x.2 q h
theorem led8 {z d p a c r : Addr × Obj} {t2 t3 : List (Addr × Obj)} : ∀ x ∈ d :: p :: a :: c :: (t2 ++ (r :: t3)), x ∈ z :: d :: p :: a :: c :: (t2 ++ (r :: t3)) := by
  intro x hx; grind
theorem led9 {d p a c r : Addr × Obj} {tn t2 t3 : List (Addr × Obj)} : ∀ x ∈ p :: d :: c :: (tn ++ (t2 ++ (r :: t3))), x ∈ tn ++ (d :: p :: a :: c :: (t2 ++ (r :: t3))) := by
  intro x hx; grind
theorem led10 {d p c r : Addr × Obj} {tn t2 t t3 own : List (Addr × Obj)} : ∀ x ∈ c :: p :: (tn ++ t ++ (r :: t3) ++ own), x ∈ p :: d :: c :: (tn ++ (t2 ++ (r :: (t ++ t3 ++ own)))) := by
  intro x hx; grind
theorem News.sub {h₀ h : Heap} {L : Addr} {l l' : List (Addr × Obj)} (N : News h₀ L h l) (hs : ∀ p ∈ l', p ∈ l) : News h₀ L h l' := fun p hp => N p (hs p hp)
end

-- part L4
section
open PySem PySem.W PySem.Spec PySem.Calls PyProof.Rows
section
variable {prog : Program} {w : World} {A : Around} {E : Value → Shared → Prop} {s : Shared} {h₀ : Heap} {L : Addr} {m : Str → Option Value} {env : Env} {K : Type} [DecidableEq K] {knd : KeyKind prog w K}

/-- a comprehension over a dict of the ledger, whatever its keys -/
theorem ListComp_dict {elt iter : Expr} {x : Str} {px : Pos} {scope : Scope} {cl : List (Str × Addr)} {pos : Pos} {Q : Value → Shared → Prop}
    (hclos : closureFor scope env = pure cl) (hcell : ∀ y ∈ scope.names, y.2 ≠ .cell) (hkind : scope.kind = .function)
    (hnames : ∀ y ∈ scope.names, y.2 = .local → scope.names.lookup y.1 = some .local) (hx : scope.names.lookup x = some .local) (hh : A.handled = none)
    (h : wpAny (model prog w) A (eval iter env) (fun xv s₁ => ∃ d o kvs news, xv = .ref d ∧ (d == sysModules) = false ∧ Fr h₀ L s₁.heap m ∧ News h₀ L s₁.heap news ∧ (d, o) ∈ news ∧ o.IsDictOf knd kvs ∧ kvs.length ≤ sizeLine ∧
      ∀ s₂ : Shared, (∃ g, s₂ = { s₁ with heap := g }) → LCg.CompRest prog w A h₀ L m env elt x scope cl s₂ (fun nw => (d, o) ∈ nw) (fun i v => ∃ k y, kvs[i]? = some (k, y) ∧ knd.is k v = true) (LCg.FinE h₀ L m s₂ Q) kvs.length 0 [] news) E s)
    (hs : ∀ x, foldedSetIterable iter env x = pure x := by intro _; rfl) :
    wpAny (model prog w) A (eval (.ListComp elt [⟨.Name x px, iter, [], 0⟩] scope pos) env) Q E s := by
  rw [eval_ListComp]
  refine wpAny_comprehension_free (use := none) rfl hs hclos hkind hnames (wpAny_mono h (fun xv s₁ h₁ => ?_) fun _ _ e => e)
  obtain ⟨d, o, kvs, news, rfl, hds, F, N, hm, hd, hsz, R⟩ := h₁
  obtain ⟨es, ep, hex, hdata, hkeys, hpairs, hnd⟩ := id hd
  have hdo := (N _ hm).1
  have hat : s₁.heap.DictAt knd d kvs ep := ⟨o, es, hdo, hex, hdata, hkeys, hpairs, hnd⟩
  have hlt : d < s₁.heap.objs.size := Heap.lt_size hdo
  refine wpAny_pyIter_dict hds hat ?_
  have up : ∀ b o', s₁.heap.get? b = some o' → (s₁.heap.push { cls := .type "dict_keyiterator", data := .fields #[.ref d, .int 0 0, .int kvs.length 0, .int ep 0] }).get? b = some o' := fun b o' e => Heap.get?_push_of_some _ e
  refine LCg.block_U (S := fun nw => (d, o) ∈ nw) (Walks.dictKeys hh s₁.heap.objs.size d (Nat.ne_of_lt hlt) kvs ep) hsz (fun i h st => by obtain ⟨o, e, _⟩ := st.1; exact ⟨o, e⟩)
    (fun i h h' o' nw st e e' k N' hS => ⟨by obtain ⟨o2, q, r⟩ := st.1; rw [e] at q; cases q; exact ⟨o', e', r⟩, ⟨o, es, (N' _ hS).1, hex, hdata, hkeys, hpairs, hnd⟩⟩)
    hcell hkind hx ⟨⟨_, Heap.get?_push_size _ rfl, rfl, rfl⟩, hat.at' fun o' e => up _ _ e⟩ (fun b hb => ?_)
    (F.keeps up) (N.grown up) (Nat.ne_of_lt F.ns.lt) (next_is_new F) (fun p hp => Nat.ne_of_lt (Heap.lt_size (N p hp).1)) hm (R _ ⟨_, rfl⟩) ?_
  · show b < (s₁.heap.push _).objs.size
    rw [Heap.size_push]
    rcases List.mem_cons.mp hb with rfl | hb
    · exact Nat.lt_succ_self _
    · rw [List.mem_singleton.mp hb]; exact Nat.lt_succ_of_lt hlt
  · intro D C h tk m' ys news' F' N' o1 hn hC₀ hD₀ hCL hDL hCD offC fin
    refine ⟨m', hn, fun h'' hs'' => fin D h'' tk (F'.change hs'' hCL hC₀) (fun p hp => ?_) o1⟩
    refine ⟨hs''.extBut _ _ ?_ (N' p hp).1, (N' p hp).2⟩
    rcases List.mem_cons.mp hp with rfl | hp
    · exact Ne.symm hCD
    · exact offC p hp
end
end

-- part H1
section
open PySem PySem.W PySem.Spec PySem.Calls PyProof.Rows
/-- a code as the program's text -/
def enc (c : Code) : Str := ⟨(c.map fun b => if b then 49 else 48).toArray⟩
theorem enc_length (c : Code) : (enc c).length = c.length := by simp [enc, Str.length]
theorem one_str : Str.ofString "1" = ⟨#[49]⟩ := by decide
theorem zero_str : Str.ofString "0" = ⟨#[48]⟩ := by decide
theorem enc_item {c : Code} {i : Nat} (h : i < c.length) : Txt.item (enc c) (i : Int) = ⟨#[if c.getD i false then 49 else 48]⟩ := by
  refine item_meets (by omega) ?_
  simp [enc, h, List.getD]
theorem enc_head {d : Bool} {ds : Code} (b : Bool) : (Txt.item (enc (d :: ds)) 0 == (⟨#[if b then 49 else 48]⟩ : Str)) = (d == b) := by
  have := enc_item (c := d :: ds) (i := 0) (by simp)
  rw [show ((0 : Nat) : Int) = 0 from rfl] at this
  rw [this]
  simp only [List.getD_cons_zero]
  cases d <;> cases b <;> decide
theorem enc_tail {d : Bool} {ds : Code} : Txt.slice (enc (d :: ds)) (some 1) none = enc ds := by
  rw [slice_from_eq (b := ((enc (d :: ds)).length : Int)) (by omega) (by rw [enc_length]; simp only [List.length_cons]; omega) rfl, enc_length]
  simp only [enc, List.map_cons, List.length_cons]
  have : (((ds.length + 1 : Nat) : Int) - 1).toNat = (ds.map fun b => if b = true then 49 else 48).length := by rw [List.length_map]; omega
  rw [this]
  show (⟨(List.take _ (List.map (fun b => if b = true then 49 else 48) ds)).toArray⟩ : Str) = _
  rw [List.take_length]
theorem enc_item_one {c : Code} {i : Nat} (h : i < c.length) : (Txt.item (enc c) (i : Int) == Str.ofString "1") = c.getD i false := by
  rw [enc_item h, one_str]
  cases c.getD i false <;> decide

/-- a value as the program holds it -/
inductive VIn : Value → Val → Prop
  | int (i : Int) (t : Tok) : VIn (.int i t) (.int i)
  | str (x : Str) (t : Tok) (h : PyData.strOk x = true) : VIn (.str x t) (.str x)

/-- the pairs at hand (f), a tree in them, the pairs it is made of -/
inductive TF (f : Addr → Value × Value) : Value → Tr → List Addr → Prop
  | none : TF f .none .none []
  | leaf {v : Value} {u : Val} : VIn v u → TF f v (.leaf u) []
  | node {a : Addr} {l r : Tr} {fl fr : List Addr} : TF f (f a).1 l fl → TF f (f a).2 r fr → TF f (.ref a) (.node l r) (a :: (fl ++ fr))

abbrev nd (f : Addr → Value × Value) (a : Addr) : Addr × Obj := (a, W.listOf [(f a).1, (f a).2].toArray 0)
def nds (f : Addr → Value × Value) (fp : List Addr) : List (Addr × Obj) := fp.map (nd f)

theorem TF.congr {f g : Addr → Value × Value} {v : Value} {t : Tr} {fp : List Addr} (h : TF f v t fp) : (∀ a ∈ fp, g a = f a) → TF g v t fp := by
  induction h with
  | none => exact fun _ => .none
  | leaf h => exact fun _ => .leaf h
  | @node a l r fl fr _ _ ihl ihr =>
    intro e
    have ea := e a (.head _)
    refine .node ?_ ?_
    · rw [ea]; exact ihl fun b hb => e b (.tail _ (List.mem_append_left _ hb))
    · rw [ea]; exact ihr fun b hb => e b (.tail _ (List.mem_append_right _ hb))

theorem nds_congr {f g : Addr → Value × Value} {fp : List Addr} (h : ∀ a ∈ fp, g a = f a) : nds g fp = nds f fp :=
  List.map_congr_left fun a ha => by show nd g a = nd f a; unfold nd; rw [h a ha]
theorem mem_nds {f : Addr → Value × Value} {fp : List Addr} {a : Addr} (h : a ∈ fp) : nd f a ∈ nds f fp := List.mem_map_of_mem h
theorem nds_fst (f : Addr → Value × Value) (fp : List Addr) : (nds f fp).map (·.1) = fp := by
  unfold nds; rw [List.map_map]; exact List.map_id _
theorem of_mem_nds {f : Addr → Value × Value} {fp : List Addr} {q : Addr × Obj} (h : q ∈ nds f fp) : q.1 ∈ fp ∧ q = nd f q.1 := by
  obtain ⟨a, ha, rfl⟩ := List.mem_map.mp h
  exact ⟨ha, rfl⟩

/-- the place p in the tree at R: what stands there may be changed, the rest (k) stays -/
def Hole (f : Addr → Value × Value) (R p : Addr) (k : Tr → Tr) (fpC : List Addr) : Prop :=
  ∀ f' sub' fpS', (∀ a ∈ fpC, f' a = f a) → TF f' (.ref p) sub' fpS' → ∃ fp', TF f' (.ref R) (k sub') fp' ∧ fp'.Perm (fpS' ++ fpC)

theorem hole_top (f : Addr → Value × Value) (R : Addr) : Hole f R R id [] := fun _ _ fpS' _ h => ⟨fpS', h, by simp⟩

/-- one of two, the other put in its place -/
def side {α : Type} (b : Bool) (x y : α) : α := if b then y else x
def setSide {α : Type} (b : Bool) (x y z : α) : α × α := if b then (x, z) else (z, y)

/-- down one branch that stands -/
theorem hole_down {f g : Addr → Value × Value} {R p q : Addr} {k : Tr → Tr} {fpC : List Addr} (b : Bool) {l r : Tr} {fl fr : List Addr}
    (H : Hole f R p k fpC) (hl : TF f (f p).1 l fl) (hr : TF f (f p).2 r fr) (hC : ∀ a ∈ fpC, g a = f a) (hS : ∀ a ∈ side b fr fl, g a = f a)
    (hp : g p = setSide b (f p).1 (f p).2 (.ref q)) :
    Hole g R q (fun t => k (if b then .node l t else .node t r)) (p :: (side b fr fl ++ fpC)) := by
  intro f' sub' fpS' e h
  have ep : f' p = setSide b (f p).1 (f p).2 (.ref q) := (e p (.head _)).trans hp
  have eC : ∀ a ∈ fpC, f' a = f a := fun a ha => (e a (.tail _ (List.mem_append_right _ ha))).trans (hC a ha)
  have eS : ∀ a ∈ side b fr fl, f' a = f a := fun a ha => (e a (.tail _ (List.mem_append_left _ ha))).trans (hS a ha)
  cases b with
  | false =>
    simp only [side, setSide, Bool.false_eq_true, if_false] at ep eS ⊢
    have hn : TF f' (.ref p) (.node sub' r) (p :: (fpS' ++ fr)) := .node (by rw [ep]; exact h) (by rw [ep]; exact hr.congr eS)
    obtain ⟨fp', h', P⟩ := H f' _ _ eC hn
    refine ⟨fp', h', P.trans ?_⟩
    have := List.perm_middle (a := p) (l₁ := fpS') (l₂ := fr ++ fpC)
    simpa using this.symm
  | true =>
    simp only [side, setSide, if_true] at ep eS ⊢
    have hn : TF f' (.ref p) (.node l sub') (p :: (fl ++ fpS')) := .node (by rw [ep]; exact hl.congr eS) (by rw [ep]; exact h)
    obtain ⟨fp', h', P⟩ := H f' _ _ eC hn
    refine ⟨fp', h', P.trans ?_⟩
    have h1 := List.perm_middle (a := p) (l₁ := fpS') (l₂ := fl ++ fpC)
    refine List.Perm.trans ?_ h1.symm
    simp only [List.cons_append, List.append_assoc]
    refine List.Perm.cons _ ?_
    rw [← List.append_assoc, ← List.append_assoc]
    exact List.perm_append_comm.append_right _

theorem hole_end {f g : Addr → Value × Value} {R p : Addr} {k : Tr → Tr} {fpC : List Addr} (b : Bool) {l r : Tr} {fl fr : List Addr} {v : Value} {u : Val}
    (H : Hole f R p k fpC) (hl : TF f (f p).1 l fl) (hr : TF f (f p).2 r fr) (hv : VIn v u) (hC : ∀ a ∈ fpC, g a = f a) (hS : ∀ a ∈ side b fr fl, g a = f a)
    (hp : g p = setSide b (f p).1 (f p).2 v) :
    ∃ fp', TF g (.ref R) (k (ins (.node l r) [b] u)) fp' ∧ fp'.Perm (p :: (side b fr fl ++ fpC)) := by
  cases b with
  | false =>
    simp only [side, setSide, Bool.false_eq_true, if_false] at hp hS ⊢
    have hn : TF g (.ref p) (.node (.leaf u) r) (p :: ([] ++ fr)) := .node (by rw [hp]; exact .leaf hv) (by rw [hp]; exact hr.congr hS)
    obtain ⟨fp', h', P⟩ := H g _ _ hC hn
    exact ⟨fp', by simpa [ins] using h', by simpa using P⟩
  | true =>
    simp only [side, setSide, if_true] at hp hS ⊢
    have hn : TF g (.ref p) (.node l (.leaf u)) (p :: (fl ++ [])) := .node (by rw [hp]; exact hl.congr hS) (by rw [hp]; exact .leaf hv)
    obtain ⟨fp', h', P⟩ := H g _ _ hC hn
    exact ⟨fp', by simpa [ins] using h', by simpa using P⟩
end

-- part H2
section
open PySem PySem.W PySem.Spec PySem.Calls PyProof.Rows
structure AddJ (code : Code) (u : Val) (v : Value) (R : Addr) (T0 : Tr) (t : Tok) (rest : List (Addr × Obj)) (i : Nat) (m : Str → Option Value) (nx : List (Addr × Obj))
    (f : Addr → Value × Value) (p : Addr) (l r : Tr) (fl fr fpC : List Addr) (k : Tr → Tr) : Prop where
  hole : Hole f R p k fpC
  left : TF f (f p).1 l fl
  right : TF f (f p).2 r fr
  nodup : (p :: (fl ++ fr ++ fpC)).Nodup
  nx : nx = nds f (p :: (fl ++ fr ++ fpC)) ++ rest
  off : ∀ a ∈ p :: (fl ++ fr ++ fpC), ∀ q ∈ rest, q.1 ≠ a
  mp : m "p" = some (.ref p)
  mbits : m "bits" = some (.str (enc code) t)
  mv : m "v" = some v
  mb : 0 < i → ∃ tk, m "b" = some (.int (if code.getD (i - 1) false then 1 else 0) tk)
  eq : k (ins (.node l r) (code.drop (i - 1)) u) = ins T0 code u
  ok : ok (.node l r) (code.drop (i - 1))

def AddI (code : Code) (u : Val) (v : Value) (R : Addr) (T0 : Tr) (t : Tok) (rest : List (Addr × Obj)) (i : Nat) (m : Str → Option Value) (nx : List (Addr × Obj)) : Prop :=
  ∃ f p l r fl fr fpC k, AddJ code u v R T0 t rest i m nx f p l r fl fr fpC k

section
variable {code : Code} {u : Val} {v : Value} {R : Addr} {T0 : Tr} {t : Tok} {rest own : List (Addr × Obj)} {m m' : Str → Option Value} {nx : List (Addr × Obj)}
  {f : Addr → Value × Value} {p : Addr} {l r : Tr} {fl fr fpC : List Addr} {k : Tr → Tr}

theorem addI_start {fp : List Addr} (hT : TF f (.ref R) (.node l r) fp) (hnd : fp.Nodup) (hoff : ∀ a ∈ fp, ∀ q ∈ rest, q.1 ≠ a) (hok : ok (.node l r) code)
    (mp : m "p" = some (.ref R)) (mbits : m "bits" = some (.str (enc code) t)) (mv : m "v" = some v) : AddI code u v R (.node l r) t rest 0 m (nds f fp ++ rest) := by
  cases hT with
  | @node a l r fl fr tl tr =>
    exact ⟨f, R, l, r, fl, fr, [], id, hole_top f R, tl, tr, by simpa using hnd, by simp, by simpa using hoff, mp, mbits, mv, fun h => absurd h (Nat.lt_irrefl _), rfl, hok⟩

theorem addI_zero (J : AddJ code u v R T0 t rest 0 m nx f p l r fl fr fpC k) (mp : m' "p" = some (.ref p)) (mbits : m' "bits" = some (.str (enc code) t)) (mv : m' "v" = some v)
    {tk : Tok} {x : Int} (mb : m' "b" = some (.int x tk)) (hx : x = if code.getD 0 false then 1 else 0) : AddI code u v R T0 t rest 1 m' nx :=
  ⟨f, p, l, r, fl, fr, fpC, k, J.hole, J.left, J.right, J.nodup, J.nx, J.off, mp, mbits, mv, fun _ => ⟨tk, by rw [mb, hx]⟩, J.eq, J.ok⟩

theorem drop_at {c : Code} {i : Nat} (h : i < c.length) : c.drop i = c.getD i false :: c.drop (i + 1) := by
  rw [List.drop_eq_getElem_cons h]; simp [List.getD, h]

theorem ins_node (l r : Tr) (b : Bool) (bs : Code) (u : Val) : ins (.node l r) (b :: bs) u = if b then .node l (ins r bs u) else .node (ins l bs u) r := rfl
theorem ins_none (b : Bool) (bs : Code) (u : Val) : ins .none (b :: bs) u = ins (.node .none .none) (b :: bs) u := by cases b <;> rfl
theorem ok_node (l r : Tr) (b : Bool) (bs : Code) : ok (.node l r) (b :: bs) = ok (if b then r else l) bs := rfl

theorem tf_none {v : Value} {t : Tr} {fp : List Addr} (e : t = .none) (h : TF f v t fp) : fp = [] := by
  subst e; cases h; rfl

/-- a branch where nothing stands: a new pair -/
theorem addI_new {i : Nat} {b : Bool} (J : AddJ code u v R T0 t rest (i + 1) m nx f p l r fl fr fpC k) (hi : i + 1 < code.length) (hb : code.getD i false = b)
    (hch : side b l r = .none) {q : Addr} (hq : ∀ e ∈ nds f (p :: (fl ++ fr ++ fpC)) ++ rest ++ own, e.1 < q) (hown : OwnOff own ((nds f (p :: (fl ++ fr ++ fpC)) ++ rest).map (·.1)))
    (mp : m' "p" = some (.ref q)) (mbits : m' "bits" = some (.str (enc code) t)) (mv : m' "v" = some v) {tk : Tok} {x : Int} (mb : m' "b" = some (.int x tk)) (hx : x = if code.getD (i + 1) false then 1 else 0)
    {news' : List (Addr × Obj)} (hn : ∀ e ∈ (q, W.listOf [Value.none, Value.none].toArray 0) :: (p, W.listOf [(setSide b (f p).1 (f p).2 (.ref q)).1, (setSide b (f p).1 (f p).2 (.ref q)).2].toArray 0) :: (nds f (fl ++ fr ++ fpC) ++ rest ++ own), e ∈ news') :
    ∃ nx', AddI code u v R T0 t rest (i + 1 + 1) m' nx' ∧ (∀ e ∈ nx', e ∈ news') ∧ OwnOff own (nx'.map (·.1)) := by
  have hqp : ∀ a ∈ p :: (fl ++ fr ++ fpC), a < q := fun a ha => hq (nd f a) (List.mem_append_left _ (List.mem_append_left _ (mem_nds ha)))
  have hpq : p ≠ q := Nat.ne_of_lt (hqp p (.head _))
  have hne : ∀ a ∈ fl ++ fr ++ fpC, a ≠ q ∧ a ≠ p := fun a ha => ⟨Nat.ne_of_lt (hqp a (.tail _ ha)), fun e => (List.nodup_cons.mp J.nodup).1 (e ▸ ha)⟩
  let g : Addr → Value × Value := fun a => if a = q then (.none, .none) else if a = p then setSide b (f p).1 (f p).2 (.ref q) else f a
  have gq : g q = (.none, .none) := by simp [g]
  have gp : g p = setSide b (f p).1 (f p).2 (.ref q) := by simp [g, hpq]
  have ge : ∀ a ∈ fl ++ fr ++ fpC, g a = f a := fun a ha => by simp [g, (hne a ha).1, (hne a ha).2]
  have geC : ∀ a ∈ fpC, g a = f a := fun a ha => ge a (List.mem_append_right _ ha)
  have geS : ∀ a ∈ side b fr fl, g a = f a := fun a ha => ge a (List.mem_append_left _ (by cases b; exact List.mem_append_right _ ha; exact List.mem_append_left _ ha))
  have H := hole_down (q := q) b J.hole J.left J.right geC geS gp
  have hfs : side b fl fr = [] := by
    cases b with
    | false => simp only [side, Bool.false_eq_true, if_false] at hch ⊢; exact tf_none hch J.left
    | true => simp only [side, if_true] at hch ⊢; exact tf_none hch J.right
  have hmem : ∀ a, a ∈ [] ++ [] ++ (p :: (side b fr fl ++ fpC)) ↔ a ∈ p :: (fl ++ fr ++ fpC) := by
    intro a
    cases b with
    | false => simp only [side, Bool.false_eq_true, if_false] at hfs ⊢; simp [hfs]
    | true => simp only [side, if_true] at hfs ⊢; simp [hfs]
  have hnd : (q :: ([] ++ [] ++ (p :: (side b fr fl ++ fpC)))).Nodup := by
    refine List.nodup_cons.mpr ⟨fun hm => Nat.lt_irrefl _ (hqp q ((hmem q).mp hm)), ?_⟩
    have := J.nodup
    cases b with
    | false => simp only [side, Bool.false_eq_true, if_false] at hfs ⊢; rw [hfs] at this; simpa using this
    | true => simp only [side, if_true] at hfs ⊢; rw [hfs] at this; simpa using this
  have hd : code.drop (i + 1 - 1) = b :: code.drop (i + 1) := by rw [Nat.add_sub_cancel, drop_at (by omega), hb]
  have hd2 : code.drop (i + 1) = code.getD (i + 1) false :: code.drop (i + 1 + 1) := drop_at hi
  have e1 := J.eq
  rw [hd, hd2, ins_node] at e1
  refine ⟨_, ⟨g, q, .none, .none, [], [], _, _, H, by rw [gq]; exact .none, by rw [gq]; exact .none, hnd, rfl, ?_, mp, mbits, mv, fun _ => ⟨tk, by rw [mb, hx]; rfl⟩, ?_, ?_⟩, ?_, ?_⟩
  · intro a ha e he
    rcases List.mem_cons.mp ha with rfl | ha
    · exact Nat.ne_of_lt (hq e (List.mem_append_left _ (List.mem_append_right _ he)))
    · exact J.off a ((hmem a).mp ha) e he
  · rw [show i + 1 + 1 - 1 = i + 1 from rfl, hd2, ← ins_none]
    cases b with
    | false => simp only [side, Bool.false_eq_true, if_false] at hch e1 ⊢; rw [hch] at e1; exact e1
    | true => simp only [side, if_true] at hch e1 ⊢; rw [hch] at e1; exact e1
  · rw [show i + 1 + 1 - 1 = i + 1 from rfl, hd2, ok_node]
    have z : ∀ c : Code, ok .none c := fun c => by cases c <;> exact trivial
    split <;> exact z _
  · intro e he
    rcases List.mem_append.mp he with he | he
    · obtain ⟨h1, h2⟩ := of_mem_nds he
      rw [h2]
      rcases List.mem_cons.mp h1 with h1 | h1
      · rw [h1]; exact hn _ (by unfold nd; rw [gq]; exact .head _)
      · rcases List.mem_cons.mp ((hmem _).mp h1) with h1 | h1
        · rw [h1]; exact hn _ (by unfold nd; rw [gp]; exact .tail _ (.head _))
        · refine hn _ (.tail _ (.tail _ (List.mem_append_left _ (List.mem_append_left _ ?_))))
          unfold nd; rw [ge _ h1]; exact mem_nds h1
    · exact hn _ (.tail _ (.tail _ (List.mem_append_left _ (List.mem_append_right _ he))))
  · intro e he a ha
    rw [List.map_append, nds_fst] at ha
    rcases List.mem_append.mp ha with ha | ha
    · rcases List.mem_cons.mp ha with rfl | ha
      · exact Nat.ne_of_lt (hq e (List.mem_append_right _ he))
      · exact hown e he a (by rw [List.map_append, nds_fst]; exact List.mem_append_left _ ((hmem a).mp ha))
    · exact hown e he a (by rw [List.map_append]; exact List.mem_append_right _ ha)

/-- a branch where a pair stands -/
theorem addI_down {i : Nat} {b : Bool} {l' r' : Tr} (J : AddJ code u v R T0 t rest (i + 1) m nx f p l r fl fr fpC k) (hi : i + 1 < code.length) (hb : code.getD i false = b)
    (hch : side b l r = .node l' r') {q : Addr} (hval : side b (f p).1 (f p).2 = .ref q)
    (mp : m' "p" = some (.ref q)) (mbits : m' "bits" = some (.str (enc code) t)) (mv : m' "v" = some v) {tk : Tok} {x : Int} (mb : m' "b" = some (.int x tk)) (hx : x = if code.getD (i + 1) false then 1 else 0)
    (hown : OwnOff own ((nds f (p :: (fl ++ fr ++ fpC)) ++ rest).map (·.1))) {news' : List (Addr × Obj)} (hn : ∀ e ∈ nds f (p :: (fl ++ fr ++ fpC)) ++ rest ++ own, e ∈ news') :
    ∃ nx', AddI code u v R T0 t rest (i + 1 + 1) m' nx' ∧ (∀ e ∈ nx', e ∈ news') ∧ OwnOff own (nx'.map (·.1)) := by
  have hp : f p = setSide b (f p).1 (f p).2 (.ref q) := by
    cases b with
    | false => simp only [side, setSide, Bool.false_eq_true, if_false] at hval ⊢; rw [← hval]
    | true => simp only [side, setSide, if_true] at hval ⊢; rw [← hval]
  have H := hole_down (q := q) b J.hole J.left J.right (fun _ _ => rfl) (fun _ _ => rfl) hp
  have hd : code.drop (i + 1 - 1) = b :: code.drop (i + 1) := by rw [Nat.add_sub_cancel, drop_at (by omega), hb]
  have e1 := J.eq
  have o1 := J.ok
  rw [hd, ins_node] at e1
  rw [hd, ok_node] at o1
  have hq : TF f (.ref q) (.node l' r') (side b fl fr) := by
    cases b with
    | false => simp only [side, Bool.false_eq_true, if_false] at hch hval ⊢; rw [← hch, ← hval]; exact J.left
    | true => simp only [side, if_true] at hch hval ⊢; rw [← hch, ← hval]; exact J.right
  generalize hfs : side b fl fr = fs at hq
  cases hq with
  | @node _ _ _ fl' fr' tl' tr' =>
  have hperm : (q :: (fl' ++ fr' ++ (p :: (side b fr fl ++ fpC)))).Perm (p :: (fl ++ fr ++ fpC)) := by
    have h1 : (q :: (fl' ++ fr' ++ (p :: (side b fr fl ++ fpC)))).Perm (p :: (q :: (fl' ++ fr') ++ (side b fr fl ++ fpC))) := by
      have := List.perm_middle (a := p) (l₁ := q :: (fl' ++ fr')) (l₂ := side b fr fl ++ fpC)
      simpa using this
    refine h1.trans (List.Perm.cons _ ?_)
    rw [← hfs, ← List.append_assoc]
    refine List.Perm.append_right _ ?_
    cases b with
    | false => exact List.Perm.refl _
    | true => exact List.perm_append_comm
  refine ⟨_, ⟨f, q, l', r', fl', fr', _, _, H, tl', tr', hperm.nodup_iff.mpr J.nodup, rfl, ?_, mp, mbits, mv, fun _ => ⟨tk, by rw [mb, hx]; rfl⟩, ?_, ?_⟩, ?_, ?_⟩
  · intro a ha e he; exact J.off a (hperm.mem_iff.mp ha) e he
  · rw [show i + 1 + 1 - 1 = i + 1 from rfl]
    cases b with
    | false => simp only [side, Bool.false_eq_true, if_false] at hch e1 ⊢; rw [hch] at e1; exact e1
    | true => simp only [side, if_true] at hch e1 ⊢; rw [hch] at e1; exact e1
  · rw [show i + 1 + 1 - 1 = i + 1 from rfl]
    cases b with
    | false => simp only [side, Bool.false_eq_true, if_false] at hch o1 ⊢; rw [hch] at o1; exact o1
    | true => simp only [side, if_true] at hch o1 ⊢; rw [hch] at o1; exact o1
  · intro e he
    refine hn e (List.mem_append_left _ ?_)
    rcases List.mem_append.mp he with he | he
    · obtain ⟨h1, h2⟩ := of_mem_nds he
      rw [h2]; exact List.mem_append_left _ (mem_nds (hperm.mem_iff.mp h1))
    · exact List.mem_append_right _ he
  · intro e he a ha
    rw [List.map_append, nds_fst] at ha
    refine hown e he a ?_
    rw [List.map_append, nds_fst]
    exact (List.mem_append.mp ha).elim (fun h => List.mem_append_left _ (hperm.mem_iff.mp h)) fun h => List.mem_append_right _ h

/-- a value stands on the road: not so -/
theorem addI_leaf {i : Nat} {b : Bool} {w : Val} (J : AddJ code u v R T0 t rest (i + 1) m nx f p l r fl fr fpC k) (hi : i + 1 < code.length) (hb : code.getD i false = b) (hch : side b l r = .leaf w) : False := by
  have o1 := J.ok
  have hd : code.drop (i + 1 - 1) = b :: code.drop (i + 1) := by rw [Nat.add_sub_cancel, drop_at (by omega), hb]
  rw [hd, ok_node, drop_at hi] at o1
  cases b with
  | false => simp only [side, Bool.false_eq_true, if_false] at hch o1; rw [hch] at o1; exact o1
  | true => simp only [side, if_true] at hch o1; rw [hch] at o1; exact o1

/-- the last step -/
theorem addI_end {b : Bool} (J : AddJ code u v R T0 t rest code.length m nx f p l r fl fr fpC k) (hn : code ≠ []) (hb : code.getD (code.length - 1) false = b) (hv : VIn v u)
    {news' : List (Addr × Obj)} (hn' : ∀ e ∈ (p, W.listOf [(setSide b (f p).1 (f p).2 v).1, (setSide b (f p).1 (f p).2 v).2].toArray 0) :: (nds f (fl ++ fr ++ fpC) ++ rest), e ∈ news') :
    ∃ g fp', TF g (.ref R) (ins T0 code u) fp' ∧ fp'.Nodup ∧ (∀ e ∈ nds g fp' ++ rest, e ∈ news') ∧ ∀ a ∈ fp', ∀ q ∈ rest, q.1 ≠ a := by
  have hpos : 0 < code.length := List.length_pos_iff.mpr hn
  have hne : ∀ a ∈ fl ++ fr ++ fpC, a ≠ p := fun a ha e => (List.nodup_cons.mp J.nodup).1 (e ▸ ha)
  let g : Addr → Value × Value := fun a => if a = p then setSide b (f p).1 (f p).2 v else f a
  have gp : g p = setSide b (f p).1 (f p).2 v := by simp [g]
  have ge : ∀ a ∈ fl ++ fr ++ fpC, g a = f a := fun a ha => by simp [g, hne a ha]
  have geC : ∀ a ∈ fpC, g a = f a := fun a ha => ge a (List.mem_append_right _ ha)
  have geS : ∀ a ∈ side b fr fl, g a = f a := fun a ha => ge a (List.mem_append_left _ (by cases b; exact List.mem_append_right _ ha; exact List.mem_append_left _ ha))
  obtain ⟨fp', h', P⟩ := hole_end b J.hole J.left J.right hv geC geS gp
  have hd : code.drop (code.length - 1) = [b] := by
    rw [drop_at (by omega), hb, show code.length - 1 + 1 = code.length by omega, List.drop_length]
  have e1 := J.eq
  rw [hd] at e1
  rw [e1] at h'
  have hsub : (p :: (side b fr fl ++ fpC)).Sublist (p :: (fl ++ fr ++ fpC)) := by
    refine List.Sublist.cons_cons _ (List.Sublist.append_right ?_ _)
    cases b
    · exact List.sublist_append_right _ _
    · exact List.sublist_append_left _ _
  refine ⟨g, fp', h', P.nodup_iff.mpr (hsub.nodup J.nodup), ?_, fun a ha q hq => J.off a (hsub.subset (P.mem_iff.mp ha)) q hq⟩
  intro e he
  rcases List.mem_append.mp he with he | he
  · obtain ⟨h1, h2⟩ := of_mem_nds he
    rw [h2]
    rcases List.mem_cons.mp (hsub.subset (P.mem_iff.mp h1)) with h1 | h1
    · rw [h1]; exact hn' _ (by unfold nd; rw [gp]; exact .head _)
    · refine hn' _ (.tail _ (List.mem_append_left _ ?_))
      unfold nd; rw [ge _ h1]; exact mem_nds h1
  · exact hn' _ (.tail _ (List.mem_append_right _ he))
end
end

-- part H3
section
open PySem PySem.W PySem.Spec PySem.Calls PyProof.Rows
def datV : Val → Dat
  | .int i => .int i
  | .str x => .str x
def datT : Tr → Dat
  | .none => .none
  | .leaf v => datV v
  | .node l r => .list [datT l, datT r]

theorem VIn.dat {news : List (Addr × Obj)} {v : Value} {u : Val} (h : VIn v u) : DatIn news v (datV u) := by
  cases h
  · exact .int _ _
  · exact .str _ _

abbrev tupOf (vs : List Value) : Obj := { cls := .type "tuple", data := .seq vs.toArray }

/-- a list's items are pairs of a code and a value -/
inductive RowsIn (news : List (Addr × Obj)) : List Value → List Row → Prop
  | nil : RowsIn news [] []
  | cons {a : Addr} {c : Code} {t : Tok} {v : Value} {u : Val} {vs : List Value} {rows : List Row} : (a, tupOf [.str (enc c) t, v]) ∈ news → VIn v u → RowsIn news vs rows → RowsIn news (.ref a :: vs) ((c, u) :: rows)

theorem RowsIn.mono {news news' : List (Addr × Obj)} (hs : ∀ p ∈ news, p ∈ news') {vs : List Value} {rows : List Row} (h : RowsIn news vs rows) : RowsIn news' vs rows := by
  induction h with
  | nil => exact .nil
  | cons h1 h2 _ ih => exact .cons (hs _ h1) h2 ih
theorem RowsIn.length {news : List (Addr × Obj)} {vs : List Value} {rows : List Row} (h : RowsIn news vs rows) : vs.length = rows.length := by
  induction h with
  | nil => rfl
  | cons _ _ _ ih => rw [List.length_cons, List.length_cons, ih]
theorem RowsIn.get {news : List (Addr × Obj)} {vs : List Value} {rows : List Row} (h : RowsIn news vs rows) {i : Nat} {v : Value} (hv : vs[i]? = some v) :
    ∃ a c t x u, v = .ref a ∧ rows[i]? = some (c, u) ∧ (a, tupOf [.str (enc c) t, x]) ∈ news ∧ VIn x u := by
  induction h generalizing i with
  | nil => simp at hv
  | @cons a c t x u vs rows h1 h2 _ ih =>
    cases i with
    | zero => simp at hv; exact ⟨a, c, t, x, u, hv.symm, by simp, h1, h2⟩
    | succ i => simp at hv; simpa using ih hv
theorem RowsIn.append {news : List (Addr × Obj)} {vs ws : List Value} {rows rows' : List Row} (h : RowsIn news vs rows) (k : RowsIn news ws rows') : RowsIn news (vs ++ ws) (rows ++ rows') := by
  induction h with
  | nil => exact k
  | cons h1 h2 _ ih => exact .cons h1 h2 ih

def valP : Val → PyData
  | .int i => .int i
  | .str x => .str x
def rowP (x : Row) : PyData := .tuple [.str (enc x.1), valP x.2]
theorem VIn.reads {h : Heap} {v : Value} {u : Val} (x : VIn v u) : Reads h v (valP u) [] ∧ (valP u).canLay0 = true ∧ (valP u).depth ≤ 1 := by
  cases x with
  | int i t => exact ⟨.int i t, rfl, by simp [valP, PyData.depth]⟩
  | str x t h => exact ⟨.str x t, h, by simp [valP, PyData.depth]⟩
theorem enc_ok (c : Code) : PyData.strOk (enc c) = true := by
  unfold PyData.strOk enc
  simp only [List.all_toArray, List.all_map, List.all_eq_true]
  intro b _
  cases b <;> decide
theorem RowsIn.reads {h₀ h : Heap} {L : Addr} {news : List (Addr × Obj)} (N : News h₀ L h news) {vs : List Value} {rows : List Row} (x : RowsIn news vs rows) :
    (∃ as, ReadsAll h vs (rows.map rowP) as) ∧ PyData.canLayAll0 (rows.map rowP) = true ∧ PyData.depthAll (rows.map rowP) ≤ 3 := by
  induction x with
  | nil => exact ⟨⟨_, .nil⟩, rfl, by simp [PyData.depthAll]⟩
  | @cons a c t v u vs rows h1 h2 _ ih =>
    obtain ⟨⟨as, q⟩, l, d⟩ := ih
    obtain ⟨r, l', d'⟩ := h2.reads (h := h)
    refine ⟨⟨_, .cons (reads_tuple_at (N.get h1) rfl rfl (.cons (.str _ _) (.cons r .nil))) q⟩, ?_, ?_⟩
    · simp only [List.map_cons, PyData.canLayAll0, rowP, PyData.canLay0, enc_ok, l', l, Bool.and_self]
    · simp only [List.map_cons, PyData.depthAll, rowP, PyData.depth]
      omega
section
variable {prog : Program} {w : World} {A : Around} {E : Value → Shared → Prop} {s : Shared} {h₀ : Heap} {L : Addr} {news : List (Addr × Obj)}
/-- rest == [] -/
theorem rest_eq_nil {D Z : Addr} {ys : List Value} {k : Nat} {rows : List Row} {Q : Value → Shared → Prop} (N : News h₀ L s.heap news) (hD : (D, W.listOf ys.toArray k) ∈ news) (hZ : (Z, W.listOf #[] 0) ∈ news)
    (x : RowsIn news ys rows) (hu : A.units + 64 < cLine) (h : Q (.bool rows.isEmpty) s) : wpAny (model prog w) A (compareOp .Eq (.ref D) (.ref Z)) Q E s := by
  obtain ⟨⟨as, q⟩, l, d⟩ := x.reads N
  refine eq_dataH (reads_list_at (N.get hD) rfl rfl (by simpa using q)) (reads_list_at (N.get hZ) rfl rfl .nil) ?_ rfl hu ?_
  · unfold SeqAt.shaped
    rw [show (PyData.list (rows.map rowP)).canLay0 = true from l, Bool.true_and]
    exact decide_eq_true (by simp only [PyData.depth]; omega)
  · cases rows with
    | nil => simpa [PyData.eqv, PyData.eqvAll] using h
    | cons x r => simpa [PyData.eqv, PyData.eqvAll] using h
theorem rest_ne_nil {D Z : Addr} {ys : List Value} {k : Nat} {x : Row} {rows : List Row} {Q : Value → Shared → Prop} (N : News h₀ L s.heap news) (hD : (D, W.listOf ys.toArray k) ∈ news) (hZ : (Z, W.listOf #[] 0) ∈ news)
    (x : RowsIn news ys (x :: rows)) (hu : A.units + 64 < cLine) (h : Q (.bool false) s) : wpAny (model prog w) A (compareOp .Eq (.ref D) (.ref Z)) Q E s := rest_eq_nil N hD hZ x hu h
end
end

-- part H4
section
open PySem PySem.W PySem.Spec PySem.Calls PyProof.Rows PyProof.V
theorem enc_inj {c d : Code} (h : enc c = enc d) : c = d := by
  have h1 : c.map (fun b => if b then 49 else 48) = d.map (fun b => if b then 49 else 48) := by
    have := congrArg (fun x : Str => x.cps.toList) h
    simpa [enc] using this
  clear h
  induction c generalizing d with
  | nil => cases d with
    | nil => rfl
    | cons _ _ => cases h1
  | cons b c ih =>
    cases d with
    | nil => cases h1
    | cons e d =>
      simp only [List.map_cons, List.cons.injEq] at h1
      rw [ih h1.2]
      have := h1.1
      cases b <;> cases e <;> first | rfl | (exfalso; revert this; decide)

theorem VIn.flat {v : Value} {u : Val} (h : VIn v u) : Flat v (valP u) := by
  cases h
  · exact .int _ _
  · exact .str _ _
theorem VIn.ofFlat {v v₀ : Value} {u : Val} (h : VIn v₀ u) (f : Flat v (valP u)) : VIn v u := by
  cases h with
  | int i t => obtain ⟨t', rfl⟩ := Flat.int_inv f; exact .int _ _
  | str x t h => obtain ⟨t', rfl⟩ := Flat.str_inv f; exact .str _ _ h

inductive KvIn : List (Str × Value) → List Row → Prop
  | nil : KvIn [] []
  | cons {c : Code} {v : Value} {u : Val} {kvs : List (Str × Value)} {rows : List Row} : VIn v u → KvIn kvs rows → KvIn ((enc c, v) :: kvs) ((c, u) :: rows)

def rowsD (rows : List Row) : List (PyData × PyData) := rows.map fun x => (.str (enc x.1), valP x.2)

theorem KvIn.flat {kvs : List (Str × Value)} {rows : List Row} (h : KvIn kvs rows) : FlatPairs PyData.str kvs (rowsD rows) := by
  induction h with
  | nil => exact .nil
  | cons hv _ ih => exact .cons hv.flat ih
theorem KvIn.length {kvs : List (Str × Value)} {rows : List Row} (h : KvIn kvs rows) : kvs.length = rows.length := by
  induction h with
  | nil => rfl
  | cons _ _ ih => rw [List.length_cons, List.length_cons, ih]
theorem KvIn.get {kvs : List (Str × Value)} {rows : List Row} (h : KvIn kvs rows) {i : Nat} {k : Str} {v : Value} (hk : kvs[i]? = some (k, v)) : ∃ c u, k = enc c ∧ rows[i]? = some (c, u) ∧ VIn v u := by
  induction h generalizing i with
  | nil => simp at hk
  | @cons c v u kvs rows hv _ ih =>
    cases i with
    | zero => simp at hk; exact ⟨c, u, hk.1.symm, by simp, hk.2 ▸ hv⟩
    | succ i => simp at hk; simpa using ih hk
theorem KvIn.append {kvs kvs' : List (Str × Value)} {rows rows' : List Row} (h : KvIn kvs rows) (k : KvIn kvs' rows') : KvIn (kvs ++ kvs') (rows ++ rows') := by
  induction h with
  | nil => exact k
  | cons hv _ ih => exact .cons hv ih

theorem KvIn.snoc {kvs : List (Str × Value)} {rows : List Row} (h : KvIn kvs rows) {c : Code} {v : Value} {u : Val} (hv : VIn v u) (hc : ∀ x ∈ rows, x.1 ≠ c) : KvIn (stored kvs (enc c) v) (rows ++ [(c, u)]) := by
  have e : kvs.any (fun kv => kv.1 = enc c) = false := by
    rw [List.any_eq_false]
    intro kv hkv
    obtain ⟨i, hi⟩ := List.mem_iff_getElem?.mp hkv
    obtain ⟨d, w, hd, hr, _⟩ := h.get (i := i) (k := kv.1) (v := kv.2) hi
    simp only [decide_eq_true_eq]
    intro e
    exact hc _ (List.mem_of_getElem? hr) (enc_inj (hd.symm.trans e))
  unfold stored
  rw [e]
  exact h.append (.cons hv .nil)
theorem KvIn.put {kvs : List (Str × Value)} {rows : List Row} (h : KvIn kvs rows) {c : Code} {v : Value} {u : Val} (hv : VIn v u) (hc : c ∈ rows.map (·.1)) : KvIn (stored kvs (enc c) v) (put c u rows) := by
  have e : kvs.any (fun kv => kv.1 = enc c) = true := by
    clear hv
    induction h with
    | nil => cases hc
    | @cons d v' u' kvs rows hv' _ ih =>
      rw [List.any_cons]
      rcases List.mem_cons.mp hc with hc | hc
      · simp only at hc; subst hc; simp
      · rw [ih hc, Bool.or_true]
  unfold stored
  rw [e]
  clear e hc
  simp only [if_true]
  induction h with
  | nil => exact .nil
  | @cons d v' u' kvs rows hv' _ ih =>
    simp only [List.map_cons, Mine.put] at ih ⊢
    by_cases hd : d = c
    · subst hd; simp only [if_true]; exact .cons hv ih
    · have hd' : ¬ enc d = enc c := fun e => hd (enc_inj e)
      simp only [if_neg hd, if_neg hd']; exact .cons hv' ih

theorem lookup_rowsD {rows : List Row} (hf : Free rows) {c : Code} {u : Val} (h : (c, u) ∈ rows) : lookup (.str (enc c)) (rowsD rows) = some (valP u) := by
  induction rows with
  | nil => cases h
  | cons x rows ih =>
    have h1 := List.pairwise_cons.mp hf
    show (if Spec.same (.str (enc x.1)) (.str (enc c)) then some (valP x.2) else lookup (.str (enc c)) (rowsD rows)) = _
    rw [same_str]
    rcases List.mem_cons.mp h with rfl | h
    · simp
    · have hne : ¬ enc x.1 = enc c := fun e => by
        have e' := enc_inj e
        have := h1.1 _ h
        simp only at this
        rw [e'] at this
        exact this.1 (List.prefix_refl _)
      simp only [decide_eq_true_eq, if_neg hne]
      exact ih h1.2 h

structure MeansAre (prog : Program) (w : World) (o : Obj) (rows : List Row) : Prop where
  ex : ∃ kvs, o.IsDictOf (strKind prog w) kvs ∧ KvIn kvs rows

section
variable {prog : Program} {w : World} {A : Around} {E : Value → Shared → Prop} {s : Shared} {h₀ : Heap} {L d : Addr} {m : Str → Option Value} {news : List (Addr × Obj)} {o : Obj} {rows : List Row}
theorem is_enc (c : Code) (t : Tok) : (strKind prog w).is (enc c) (.str (enc c) t) = true := by
  show Value.isStrOf (enc c) (.str (enc c) t) = true
  simp [Value.isStrOf]
theorem means_set {g : Obj → List (Addr × Obj)} {c : Code} {t : Tok} {v : Value} {u : Val} {rows' : List Row} {Q : Unit → Shared → Prop} (F : Fr h₀ L s.heap m) (N : News h₀ L s.heap news) (U : UpdF d o news g) (hm : MeansAre prog w o rows) (hv : VIn v u)
    (hr : (rows' = rows ++ [(c, u)] ∧ ∀ x ∈ rows, x.1 ≠ c) ∨ (rows' = put c u rows ∧ c ∈ rows.map (·.1))) (hsz : rows.length ≤ 100)
    (h : ∀ h' o', Fr h₀ L h' m → News h₀ L h' (g o') → MeansAre prog w o' rows' → Q () { s with heap := h', toks := s.toks + 1 }) :
    wpAny (model prog w) A (setItem (.ref d) (.str (enc c) t) v) Q E s := by
  obtain ⟨kvs, hd, hk⟩ := hm.ex
  refine setItem_K (knd := strKind prog w) same_str (is_enc c t) hv.flat F N U hd hk.flat (fun h' o' F' N' hd' _ => h h' o' F' N' ⟨⟨_, hd', ?_⟩⟩) (by rw [rowsD, List.length_map, sizeLine_eq]; omega)
  rcases hr with ⟨rfl, hr⟩ | ⟨rfl, hr⟩
  · exact hk.snoc hv hr
  · exact hk.put hv hr
theorem means_get {c : Code} {t : Tok} {u : Val} {value slice : Expr} {Q : Value → Shared → Prop} (N : News h₀ L s.heap news) (hp : (d, o) ∈ news) (lo : (d == sysModules) = false) (hm : MeansAre prog w o rows) (hf : Free rows) (hr : (c, u) ∈ rows)
    (h : ∀ v, VIn v u → Q v { s with toks := s.toks + 1 })
    (hs : subscripted slice false (.ref d) (.str (enc c) t) = operate [.ref d, .str (enc c) t] (getItem (.ref d) (.str (enc c) t)) := by with_unfolding_all rfl) :
    wpAny (model prog w) A (subscriptTail value slice (.ref d) (.str (enc c) t)) Q E s := by
  obtain ⟨kvs, hd, hk⟩ := hm.ex
  have T := TabAt.ofNews N hp lo hd hk.flat
  have hV : ∃ v₀, VIn v₀ u := by
    clear T hd hf hm
    induction hk with
    | nil => cases hr
    | cons hv _ ih =>
      rcases List.mem_cons.mp hr with e | hr
      · cases e; exact ⟨_, hv⟩
      · exact ih hr
  obtain ⟨v₀, hv₀⟩ := hV
  exact tab_tail T (getItem_tab same_str (is_enc c t) T (lookup_rowsD hf hr) fun v f => h v (hv₀.ofFlat f)) hs
end

def treeP : Tr → PyData
  | .none => .none
  | .leaf v => valP v
  | .node l r => .list [treeP l, treeP r]
theorem valP_refl (v : Val) : PyData.eqv (valP v) (valP v) = true := by cases v <;> simp [valP, PyData.eqv]
theorem treeP_refl : ∀ t : Tr, PyData.eqv (treeP t) (treeP t) = true
  | .none => rfl
  | .leaf v => valP_refl v
  | .node l r => by simp only [treeP, PyData.eqv, PyData.eqvAll, treeP_refl l, treeP_refl r, Bool.and_self]
theorem TF.reads {h₀ h : Heap} {L : Addr} {news : List (Addr × Obj)} {f : Addr → Value × Value} (N : News h₀ L h news) {v : Value} {t : Tr} {fp : List Addr} (x : TF f v t fp) (hs : ∀ a ∈ fp, nd f a ∈ news) :
    (∃ as, Reads h v (treeP t) as) ∧ (treeP t).canLay0 = true := by
  induction x with
  | none => exact ⟨⟨_, .none⟩, rfl⟩
  | leaf hv => exact ⟨⟨_, (hv.reads (h := h)).1⟩, (hv.reads (h := h)).2.1⟩
  | @node a l r fl fr _ _ ihl ihr =>
    obtain ⟨⟨as, q⟩, c1⟩ := ihl fun b hb => hs b (.tail _ (List.mem_append_left _ hb))
    obtain ⟨⟨bs, q'⟩, c2⟩ := ihr fun b hb => hs b (.tail _ (List.mem_append_right _ hb))
    refine ⟨⟨_, reads_list_at (N.get (hs a (.head _))) rfl rfl (.cons q (.cons q' .nil))⟩, ?_⟩
    simp only [treeP, PyData.canLay0, PyData.canLayAll0, c1, c2, Bool.and_self]
theorem dat_reads {h₀ h : Heap} {L : Addr} {news : List (Addr × Obj)} (N : News h₀ L h news) : ∀ {t : Tr} {v : Value}, DatIn news v (datT t) → ∃ as, Reads h v (treeP t) as
  | .none, _, x => by cases x; exact ⟨_, .none⟩
  | .leaf (.int i), _, x => by cases x; exact ⟨_, .int _ _⟩
  | .leaf (.str y), _, x => by cases x; exact ⟨_, .str _ _⟩
  | .node l r, _, x => by
    cases x with
    | list hm x =>
    cases x with
    | cons x1 x =>
    cases x with
    | cons x2 x =>
    cases x
    obtain ⟨as, q⟩ := dat_reads N x1
    obtain ⟨bs, q'⟩ := dat_reads N x2
    exact ⟨_, reads_list_at (N.get hm) rfl rfl (.cons q (.cons q' .nil))⟩
theorem mk_depth : ∀ (n : Nat) (rows : List Row), (treeP (mk n rows)).depth ≤ n + 1
  | n, [] => by cases n <;> simp [mk, treeP, PyData.depth]
  | n, ([], v) :: _ => by cases n <;> cases v <;> simp [mk, treeP, valP, PyData.depth]
  | 0, (_ :: _, _) :: _ => by simp [mk, treeP, PyData.depth]
  | n + 1, (c :: cs, v) :: r => by
    have h1 := mk_depth n (sub false ((c :: cs, v) :: r))
    have h2 := mk_depth n (sub true ((c :: cs, v) :: r))
    simp only [mk, treeP, PyData.depth, PyData.depthAll]
    omega
theorem build_depth (n : Nat) (rows : List Row) : (treeP (build n rows)).depth ≤ n + 2 := by
  have h1 := mk_depth n (sub false rows)
  have h2 := mk_depth n (sub true rows)
  simp only [build, treeP, PyData.depth, PyData.depthAll]
  omega
section
variable {prog : Program} {w : World} {A : Around} {E : Value → Shared → Prop} {s : Shared} {h₀ : Heap} {L R : Addr} {news tl : List (Addr × Obj)} {f : Addr → Value × Value} {fp : List Addr} {n : Nat} {rows : List Row} {r : Value}
theorem root_eq {Q : Value → Shared → Prop} (N : News h₀ L s.heap news) (hT : TF f (.ref R) (build n rows) fp) (hs : ∀ a ∈ fp, nd f a ∈ news) (hr : DatIn tl r (datT (build n rows))) (ht : ∀ p ∈ tl, p ∈ news) (hn : n ≤ 60) (hu : A.units + 64 < cLine)
    (h : Q (.bool true) s) : wpAny (model prog w) A (compareOp .Eq (.ref R) r) Q E s := by
  obtain ⟨⟨as, q⟩, c⟩ := hT.reads N hs
  obtain ⟨bs, q'⟩ := dat_reads N (hr.mono ht)
  have hd : SeqAt.shaped (treeP (build n rows)) = true := by
    unfold SeqAt.shaped
    rw [c, Bool.true_and]
    exact decide_eq_true (Nat.le_trans (build_depth n rows) (by omega))
  refine eq_dataH q q' hd hd hu ?_
  rw [treeP_refl]; exact h
theorem root_ne {Q : Value → Shared → Prop} (N : News h₀ L s.heap news) (hT : TF f (.ref R) (build n rows) fp) (hs : ∀ a ∈ fp, nd f a ∈ news) (hr : DatIn tl r (datT (build n rows))) (ht : ∀ p ∈ tl, p ∈ news) (hn : n ≤ 60) (hu : A.units + 64 < cLine)
    (h : Q (.bool false) s) : wpAny (model prog w) A (compareOp .NotEq (.ref R) r) Q E s := by
  obtain ⟨⟨as, q⟩, c⟩ := hT.reads N hs
  obtain ⟨bs, q'⟩ := dat_reads N (hr.mono ht)
  have hd : SeqAt.shaped (treeP (build n rows)) = true := by
    unfold SeqAt.shaped
    rw [c, Bool.true_and]
    exact decide_eq_true (Nat.le_trans (build_depth n rows) (by omega))
  refine ne_dataH q q' hd hd hu ?_
  rw [treeP_refl]; exact h
end
end

-- part L5
section
open PySem PySem.W PySem.Spec PySem.Calls PyProof.Rows
section
variable {prog : Program} {w : World} {A : Around} {E : Value → Shared → Prop} {s : Shared} {h₀ : Heap} {L D : Addr} {m : Str → Option Value} {news news' : List (Addr × Obj)} {vs : List Value} {n : Nat}
theorem len_any {Q : Value → Shared → Prop} (N : News h₀ L s.heap news) (hm : (D, W.listOf vs.toArray n) ∈ news) (hz : vs.length ≤ 100000) (h : Q (.int (vs.length : Int) (s.toks + 1)) { s with toks := s.toks + 1 + 1 }) :
    wpAny (model prog w) A (call (.builtin "len") [.ref D]) Q E s := by
  have e : vs.toArray.size = vs.length := List.size_toArray ..
  refine call_len_list (N.isList hm) (by rw [e]; omega) ?_
  rw [e]; exact h
theorem truthy_any {Q : Bool → Shared → Prop} (N : News h₀ L s.heap news) (hm : (D, W.listOf vs.toArray n) ∈ news) (hz : vs.length ≤ 100000) (h : Q (!vs.isEmpty) { s with toks := s.toks + 1 + 1 }) :
    wpAny (model prog w) A (truthy (.ref D)) Q E s := by
  have e : vs.toArray.size = vs.length := List.size_toArray ..
  refine wpAny_truthy_list (N.isList hm) (by rw [e]; omega) ?_
  have : vs.toArray.isEmpty = vs.isEmpty := by cases vs <;> rfl
  rw [this]; exact h
theorem item_any {value slice : Expr} {k : Int} {t : Tok} {x : Value} {Q : Value → Shared → Prop} (N : News h₀ L s.heap news) (hm : (D, W.listOf vs.toArray n) ∈ news) (h0 : 0 ≤ k) (hk : k ≤ 100000) (hx : vs[k.toNat]? = some x) (h : Q x s)
    (hs : subscripted slice false (.ref D) (.int k t) = operate [.ref D, .int k t] (getItem (.ref D) (.int k t)) := by with_unfolding_all rfl) :
    wpAny (model prog w) A (subscriptTail value slice (.ref D) (.int k t)) Q E s :=
  tail_any (Heap.IsList.typeIs (N.isList hm)) list_getitem_lookup (getItem_listL (N.isList hm) h0 (by omega) hx h) hs
theorem pop_any {k : Int} {t : Tok} {x : Value} {Q : Value → Shared → Prop} (F : Fr h₀ L s.heap m) (N : News h₀ L s.heap news) (h0 : 0 ≤ k) (hk : k ≤ 100000) (hx : vs[k.toNat]? = some x)
    (U : Upd D (W.listOf vs.toArray n) (W.listOf (vs.eraseIdx k.toNat).toArray (n + 1)) news news') (hz : vs.length ≤ 100000) (h : ∀ h', Fr h₀ L h' m → News h₀ L h' news' → Q x { s with heap := h' }) :
    wpAny (model prog w) A (call (.builtin "list.pop") [.ref D, .int k t]) Q E s := by
  have hlt : k.toNat < vs.length := (List.getElem?_eq_some_iff.mp hx).1
  have hsp : vs = vs.take k.toNat ++ x :: vs.drop (k.toNat + 1) := by
    have := (List.getElem?_eq_some_iff.mp hx).2
    rw [← this, ← List.drop_eq_getElem_cons hlt, List.take_append_drop]
  have hcut : ∀ (p q : List Value) (y : Value), kl_cut (p ++ y :: q) p.length = some (p, y, q) := by
    intro p q y
    induction p with
    | nil => rfl
    | cons a p ih => simp [kl_cut, ih]
  have hc := hcut (vs.take k.toNat) (vs.drop (k.toNat + 1)) x
  rw [← hsp, List.length_take, Nat.min_eq_left (Nat.le_of_lt hlt)] at hc
  refine kl_popAt (k := k.toNat) F N ?_ ?_ hc (by rwa [List.eraseIdx_eq_take_drop_succ] at U) (by show vs.length ≤ _; rw [sizeLine_eq]; omega) h
  · unfold Builtin.List.listFitsIndex
    simp
    omega
  · unfold seqIndex?
    have : ¬ k < 0 := by omega
    simp [this]
    omega
theorem reverse_any {Q : Value → Shared → Prop} (F : Fr h₀ L s.heap m) (N : News h₀ L s.heap news) (U : Upd D (W.listOf vs.toArray n) (W.listOf vs.reverse.toArray n) news news') (hz : vs.length ≤ 100000)
    (h : ∀ h', Fr h₀ L h' m → News h₀ L h' news' → Q .none { s with heap := h' }) : wpAny (model prog w) A (call (.builtin "list.reverse") [.ref D]) Q E s :=
  kl_reverse F N rfl U (by show vs.length ≤ _; rw [sizeLine_eq]; omega) h
theorem add_any {D' : Addr} {vs' : List Value} {n' : Nat} {Q : Value → Shared → Prop} (F : Fr h₀ L s.heap m) (N : News h₀ L s.heap news) (hm : (D, W.listOf vs.toArray n) ∈ news) (hm' : (D', W.listOf vs'.toArray n') ∈ news) (hz : vs.length + vs'.length ≤ 100000)
    (h : ∀ h', Fr h₀ L h' m → News h₀ L h' ((s.heap.objs.size, W.listOf (vs ++ vs').toArray 0) :: news) → Q (.ref s.heap.objs.size) { s with heap := h' }) :
    wpAny (model prog w) A (binaryOp .Add (.ref D) (.ref D')) Q E s := by
  refine PySem.P.add_list (N (D, _) hm).1 (N (D', _) hm').1 ?_ (by rw [List.size_toArray, List.size_toArray, sizeLine_eq]; omega)
  rw [show vs.toArray ++ vs'.toArray = (vs ++ vs').toArray by simp]
  exact h _ (F.push _) (News.push F N _)
theorem slice_any {value slice : Expr} {vl vu : Value} {lo hi : Option Int} {ys : List Value} {Q : Value → Shared → Prop} (F : Fr h₀ L s.heap m) (N : News h₀ L s.heap news) (hm : (D, W.listOf vs.toArray n) ∈ news) (pl : IsPart vl lo) (pu : IsPart vu hi)
    (hy : slicePick vs.toArray lo hi none = ys.toArray) (hz : vs.length ≤ 100000)
    (h : ∀ h', Fr h₀ L h' m → News h₀ L h' ((s.heap.objs.size + 1, W.listOf ys.toArray 0) :: news) → Q (.ref (s.heap.objs.size + 1)) { s with heap := h' })
    (hs : subscripted slice false (.ref D) (.ref s.heap.objs.size) = operate [.ref s.heap.objs.size, .ref D] (getItem (.ref D) (.ref s.heap.objs.size)) := by with_unfolding_all rfl)
    (ht : ∀ r, letTemporaryGo value (.ref D) r = pure () := by intro _; with_unfolding_all rfl) :
    wpAny (model prog w) A (subscriptTail value slice (.ref D) (.ref s.heap.objs.size)) Q E { s with heap := s.heap.push { cls := .type "slice", data := .fields #[vl, vu, .none] } } := by
  refine slice_list F N (N.isList hm) pl pu (fun h' F' N' => h h' F' ?_) hs ht (by rw [List.size_toArray, sizeLine_eq]; omega)
  rwa [hy] at N'
theorem list_range_any {r : Addr} {a b : Int} {t u v : Tok} {k : Nat} {Q : Value → Shared → Prop} (hh : A.handled = none) (F : Fr h₀ L s.heap m) (N : News h₀ L s.heap news) (hr : IsRange s.heap r a b 1 t u v) (hsm : Builtin.Range.small a b 1 = true) (hn : Builtin.Range.rangeSize a b 1 = (k : Int)) (hk : k ≤ 1000)
    (h : ∀ (h' : Heap) (tk : Nat) (ys : List Value) (c' : Nat), ys.length = k → (∀ (i : Nat) (x : Value), ys[i]? = some x → ∃ t, x = .int (a + i) t) → Fr h₀ L h' m → News h₀ L h' ((s.heap.objs.size, W.listOf ys.toArray c') :: news) → Q (.ref s.heap.objs.size) { s with heap := h', toks := tk }) :
    wpAny (model prog w) A (call (.type "list") [.ref r]) Q E s := by
  refine call_list_range hh hr hsm hn (by omega) fun h' tk acc c' up hl hi => ?_
  have e : acc.toList.toArray = acc := by simp
  refine h h' tk acc.toList c' (by rw [Array.length_toList]; exact hi.1) (fun i x hx => ?_) (F.keeps up) (fun p hp => ?_)
  · obtain ⟨t, ht⟩ := hi.2 i x (by simpa using hx)
    exact ⟨t, by rw [ht]; simp⟩
  · rcases List.mem_cons.mp hp with rfl | hp
    · refine ⟨by rw [e]; exact hl, fun q => ?_, next_is_new F⟩
      exact absurd F.ns.lt (by rw [← q]; exact Nat.lt_irrefl _)
    · exact N.grown up p hp
end
end

-- part W0
section
open PySem PySem.W PyProof.Rows
abbrev prog := PySem.Challenge.pw_ae5029_01
def scopeOf : Stmt → Scope
  | .FunctionDef _ _ _ _ _ _ sc _ _ _ => sc
  | _ => default
def bodyOf : Stmt → List Stmt
  | .FunctionDef _ _ b _ _ _ _ _ _ _ => b
  | _ => []
def sixth : List Stmt → Stmt
  | [_, _, _, _, _, s] => s
  | _ => .Pass default
abbrev lawScopeS : { sc : Scope // scopeOf (sixth prog.main.body) = sc } := by
  refine ⟨?a, ?b⟩
  case b => conv => lhs; whnf
abbrev lawBodyS : { b : List Stmt // bodyOf (sixth prog.main.body) = b } := by
  refine ⟨?a, ?b⟩
  case b => conv => lhs; whnf
abbrev lawScope : Scope := lawScopeS.1
abbrev lawBody : List Stmt := lawBodyS.1
abbrev lawEnv (L fa : Addr) (cd : Value) : Env := envX (Str.ofString "law") lawScope L fa cd (cellsFrom (L + 1) lawScope.names [])
end

local macro_rules | `(tactic| walk_at "setItem ref int") => `(tactic| (k_here; k_dflt (refine' set_any ?k1 ?k2 ?k3 ?k4 ?k5 ?k6 ?_; (case k1 => k_asm); (case k2 => k_asm); (case k3 => k_upd); (case k4 => decide); (case k5 => decide); (case k6 => decide); k_whole); intro h' F' N'; (try k_sweep)))
local macro_rules | `(tactic| k_all) => `(tactic| (with_reducible assumption))
local macro_rules | `(tactic| walk_at "call ref") => `(tactic| (k_here; k_dflt (refine' call_meth ?k1 ?k2 ?_; (case k1 => k_asm); (case k2 => k_mem); k_whole)))
local macro_rules | `(tactic| walk_at "exec For Name Subscript") => `(tactic| (k_here; (rename Fr _ _ _ _ => lF'); (with_unfolding_all refine' For_invVF lF' ?k1 ?k2 ?_; (case k1 => exact rfl); (case k2 => exact rfl); k_whole)))

-- part A2
section
open PySem PySem.W PyProof.Rows
theorem sizeRange (n : Nat) : Builtin.Range.rangeSize 0 (n : Int) 1 = (n : Int) := by
  rw [rangeSize_one]; split <;> omega
theorem smallRange {n : Nat} (h : n ≤ 1000) : Builtin.Range.small 0 (n : Int) 1 = true := small_one (by omega) (by omega) (by omega) (by omega)

theorem close_end {h₀ h' : Heap} {L : Addr} {J : (Str → Option Value) → List (Addr × Obj) → Prop} {m' : Str → Option Value} {own news' : List (Addr × Obj)} {s₁ : Shared} {tk : Nat} (F : Fr h₀ L h' m') (N : News h₀ L h' news')
    (H : ∃ nx', J m' nx' ∧ (∀ e ∈ nx', e ∈ news') ∧ OwnOff own (nx'.map (·.1))) (ho : ∀ e ∈ own, e ∈ news') : InvEndG h₀ L J own s₁ { s₁ with heap := h', toks := tk } :=
  let ⟨nx', hj, hs, hoff⟩ := H
  ⟨h', tk, m', news', nx', rfl, F, N, hs, ho, hoff, hj⟩

theorem add_ok {w : World} {A A₀ : Around} {env : Env} {outer : List Env} {base h₀ : Heap} {L R : Addr} {m mg mb : Str → Option Value} {p : Program} {loose : List Str} {mean : ExcName → Option Value}
   {s : Shared} {Rs : Result → Shared → Prop} {v : Value} {code : Code} {t : Tok} {u : Val} {f : Addr → Value × Value} {fp : List Addr} {rest : List (Addr × Obj)} {l r : Tr}
   (B : Below A₀ base outer h₀) (F : Fr h₀ L s.heap m) (X : (hd.heap_39 w.params).In h₀) (N : News h₀ L s.heap (nds f fp ++ rest)) (T : Top p loose mean mg mb h₀)
   (hh : A.handled = none) (hA : A.frames = some (env :: outer)) (hf : env.frame = some L) (hke : env.scope.kind = .function) (hroom : A.depth < recursionLimit)
   (hv : VIn v u) (hT : TF f (.ref R) (.node l r) fp) (hnd : fp.Nodup) (hoff : ∀ a ∈ fp, ∀ q ∈ rest, q.1 ≠ a) (hn : code ≠ []) (hok : ok (.node l r) code)
   (hc : (enc code).length ≤ 100)
   (hR : ∀ h' tk g fp', Fr h₀ L h' m → News h₀ L h' (nds g fp' ++ rest) → TF g (.ref R) (ins (.node l r) code u) fp' → fp'.Nodup → (∀ a ∈ fp', ∀ q ∈ rest, q.1 ≠ a) → Rs (.ok (.ret .none)) { s with heap := h', toks := tk }) :
   codeAny (model prog w) A (.call (.ref 42) ⟨[.ref 62, .ref R, v, .str (enc code) t], []⟩) Rs s := by
  w_top off
  have _ : (PySem.Challenge.rw_ae5029_01 = PySem.Challenge.rw_ae5029_01 ∧ hd.heap_39 = hd.heap_39) := by (k_fill; exact ⟨rfl, rfl⟩)
  (refine' code_def ?k1 ?k2 ?k3 ?k4 ?k5 ?kA ?kF ?kK ?k6 ?k7 ?k8 ?k9 ?kB ?_ ?c2 ?c3 ?c4 ?c5; (case kA => exact hA); (case kF => exact hf); (case kK => exact hke); (case k1 => k_asm); (case k2 => k_asm); (case k3 => k_asm); (case k4 => k_asm); (case k5 => k_asm); (case k6 => k_is); (case k7 => k_is); (case k8 => assumption); (case k9 => exact BindsTo.of_eq rfl); (case c5 => decide); (case kB => exact locs rfl); (case c2 => exact rfl); (case c3 => exact rfl); (case c4 => exact rfl); k_whole; intro g' L' h' FG' F' N' B' X' T'; (try dsimp only); (try k_fold))
  k_steps
  rename Fr g' _ _ _ => F1
  rename News g' _ _ _ => N1
  rename IsRange _ _ _ _ _ _ _ _ => R1
  have hlen : (enc code).length = code.length := enc_length code
  have hpos : 0 < code.length := List.length_pos_iff.mpr hn
  refine iter_rangeJ (n := code.length) (AddI code u v R (.node l r) t rest) hh R1 ?_ ?_ F1 N1 ?_ ?_ ?_
  · exact smallRange (by omega)
  · rw [hlen]; exact sizeRange _
  · exact addI_start hT hnd hoff hok rfl rfl rfl
  · rintro i ti m₁ nx h tk' own hi hown ⟨f₁, p₁, l₁, r₁, fl, fr, fpC, k, J⟩ F2 N2
    have hnx := J.nx
    subst hnx
    generalize hiv : (0 + (i : Int)) = iv at F2
    have F3 := fr_at "p" _ F2 (by show (if _ then _ else _) = _; rw [if_neg (by decide)]; exact J.mp)
    have F4 := fr_at "bits" _ F3 (by show (if _ then _ else if _ then _ else _) = _; rw [if_neg (by decide), if_neg (by decide)]; exact J.mbits)
    have F5 := fr_at "v" _ F4 (by show (if _ then _ else if _ then _ else if _ then _ else _) = _; rw [if_neg (by decide), if_neg (by decide), if_neg (by decide)]; exact J.mv)
    clear F1 F2 F3 F4 N1
    cases i with
    | zero =>
      have hiv0 : iv = 0 := by omega
      subst hiv0
      have hit : (Txt.item (enc code) 0 == Str.ofString "1") = code.getD 0 false := enc_item_one hpos
      k_steps
      · rename _ = true => hbit
        rw [hit] at hbit
        exact ⟨_, _, _, _, _, rfl, by assumption, by assumption, fun _ h => List.mem_append_left _ h, fun _ h => List.mem_append_right _ h, hown, addI_zero J rfl rfl rfl rfl (by rw [hbit]; rfl)⟩
      · rename _ = false => hbit
        rw [hit] at hbit
        exact ⟨_, _, _, _, _, rfl, by assumption, by assumption, fun _ h => List.mem_append_left _ h, fun _ h => List.mem_append_right _ h, hown, addI_zero J rfl rfl rfl rfl (by rw [hbit]; rfl)⟩
    | succ i =>
      have hiv0 : 0 < iv := by omega
      have hiv1 : iv = ((i + 1 : Nat) : Int) := by omega
      have hit : (Txt.item (enc code) iv == Str.ofString "1") = code.getD (i + 1) false := by rw [hiv1]; exact enc_item_one hi
      obtain ⟨tb, hb⟩ := J.mb (Nat.succ_pos i)
      rw [Nat.add_sub_cancel] at hb
      have F6 := fr_at "b" _ F5 (by show (if _ then _ else if _ then _ else if _ then _ else if _ then _ else _) = _; rw [if_neg (by decide), if_neg (by decide), if_neg (by decide), if_neg (by decide)]; exact hb)
      clear F5 hb
      have hall : ∀ q ∈ nds f₁ (fl ++ fr ++ fpC) ++ rest ++ own, q.1 ≠ p₁ := by
        intro q hq e
        rcases List.mem_append.mp hq with hq | hq
        · rcases List.mem_append.mp hq with hq | hq
          · exact (List.nodup_cons.mp J.nodup).1 (e ▸ (of_mem_nds hq).1)
          · exact J.off p₁ (.head _) q hq e
        · exact hown q hq p₁ (by rw [List.map_append, nds_fst]; exact List.mem_append_left _ (.head _)) e
      have N3 : News g' L' h ((p₁, W.listOf [(f₁ p₁).1, (f₁ p₁).2].toArray 0) :: (nds f₁ (fl ++ fr ++ fpC) ++ rest ++ own)) := N2
      clear N2
      generalize hxl : (f₁ p₁).1 = xl at *
      generalize hxr : (f₁ p₁).2 = xr at *
      cases hcb : code.getD i false with
      | false =>
        rw [hcb] at F6
        simp only [Bool.false_eq_true, if_false] at F6
        have tl : TF f₁ xl l₁ fl := hxl ▸ J.left
        cases tl with
        | none =>
          subst hxr
          k_steps
          · rename _ = true => hbit
            rename Fr g' _ _ _ => F9
            rename News g' _ _ _ => N9
            rename _ ∧ AllLt _ _ => hlt
            exact close_end F9 N9 (addI_new J hi hcb rfl (allLt_mem (l := nds f₁ (p₁ :: ([] ++ fr ++ fpC)) ++ rest ++ own) hlt) hown rfl rfl rfl rfl (by rw [← hit, hbit]; rfl) fun _ h => h) fun _ h => .tail _ (.tail _ (List.mem_append_right _ h))
          · rename _ = false => hbit
            rename Fr g' _ _ _ => F9
            rename News g' _ _ _ => N9
            rename _ ∧ AllLt _ _ => hlt
            exact close_end F9 N9 (addI_new J hi hcb rfl (allLt_mem (l := nds f₁ (p₁ :: ([] ++ fr ++ fpC)) ++ rest ++ own) hlt) hown rfl rfl rfl rfl (by rw [← hit, hbit]; rfl) fun _ h => h) fun _ h => .tail _ (.tail _ (List.mem_append_right _ h))
        | leaf _ => exact (addI_leaf J hi hcb rfl).elim
        | @node a l2 r2 fl2 fr2 t1 t2 =>
          subst hxr
          k_steps
          · rename _ = true => hbit
            rename Fr g' _ _ _ => F9
            rename News g' _ _ _ => N9
            refine close_end F9 N9 (addI_down J hi hcb rfl hxl rfl rfl rfl rfl (by rw [← hit, hbit]; rfl) hown ?_) fun _ h => .tail _ (List.mem_append_right _ h)
            intro e he
            have he' : e ∈ nd f₁ p₁ :: (nds f₁ (a :: (fl2 ++ fr2) ++ fr ++ fpC) ++ rest ++ own) := he
            unfold nd at he'; rw [hxl] at he'; exact he'
          · rename _ = false => hbit
            rename Fr g' _ _ _ => F9
            rename News g' _ _ _ => N9
            refine close_end F9 N9 (addI_down J hi hcb rfl hxl rfl rfl rfl rfl (by rw [← hit, hbit]; rfl) hown ?_) fun _ h => .tail _ (List.mem_append_right _ h)
            intro e he
            have he' : e ∈ nd f₁ p₁ :: (nds f₁ (a :: (fl2 ++ fr2) ++ fr ++ fpC) ++ rest ++ own) := he
            unfold nd at he'; rw [hxl] at he'; exact he'
      | true =>
        rw [hcb] at F6
        simp only [if_true] at F6
        have tr : TF f₁ xr r₁ fr := hxr ▸ J.right
        cases tr with
        | none =>
          subst hxl
          k_steps
          · rename _ = true => hbit
            rename Fr g' _ _ _ => F9
            rename News g' _ _ _ => N9
            rename _ ∧ AllLt _ _ => hlt
            exact close_end F9 N9 (addI_new J hi hcb rfl (allLt_mem (l := nds f₁ (p₁ :: (fl ++ [] ++ fpC)) ++ rest ++ own) hlt) hown rfl rfl rfl rfl (by rw [← hit, hbit]; rfl) fun _ h => h) fun _ h => .tail _ (.tail _ (List.mem_append_right _ h))
          · rename _ = false => hbit
            rename Fr g' _ _ _ => F9
            rename News g' _ _ _ => N9
            rename _ ∧ AllLt _ _ => hlt
            exact close_end F9 N9 (addI_new J hi hcb rfl (allLt_mem (l := nds f₁ (p₁ :: (fl ++ [] ++ fpC)) ++ rest ++ own) hlt) hown rfl rfl rfl rfl (by rw [← hit, hbit]; rfl) fun _ h => h) fun _ h => .tail _ (.tail _ (List.mem_append_right _ h))
        | leaf _ => exact (addI_leaf J hi hcb rfl).elim
        | @node a l2 r2 fl2 fr2 t1 t2 =>
          subst hxl
          k_steps
          · rename _ = true => hbit
            rename Fr g' _ _ _ => F9
            rename News g' _ _ _ => N9
            refine close_end F9 N9 (addI_down J hi hcb rfl hxr rfl rfl rfl rfl (by rw [← hit, hbit]; rfl) hown ?_) fun _ h => .tail _ (List.mem_append_right _ h)
            intro e he
            have he' : e ∈ nd f₁ p₁ :: (nds f₁ (fl ++ (a :: (fl2 ++ fr2)) ++ fpC) ++ rest ++ own) := he
            unfold nd at he'; rw [hxr] at he'; exact he'
          · rename _ = false => hbit
            rename Fr g' _ _ _ => F9
            rename News g' _ _ _ => N9
            refine close_end F9 N9 (addI_down J hi hcb rfl hxr rfl rfl rfl rfl (by rw [← hit, hbit]; rfl) hown ?_) fun _ h => .tail _ (List.mem_append_right _ h)
            intro e he
            have he' : e ∈ nd f₁ p₁ :: (nds f₁ (fl ++ (a :: (fl2 ++ fr2)) ++ fpC) ++ rest ++ own) := he
            unfold nd at he'; rw [hxr] at he'; exact he'
  · rintro m₁ nx h tk' ⟨f₁, p₁, l₁, r₁, fl, fr, fpC, k, J⟩ F2 N2
    have hnx := J.nx
    subst hnx
    obtain ⟨tb, hb⟩ := J.mb hpos
    have F3 := fr_at "p" _ F2 J.mp
    have F4 := fr_at "v" _ F3 (by show (if _ then _ else _) = _; rw [if_neg (by decide)]; exact J.mv)
    have F5 := fr_at "b" _ F4 (by show (if _ then _ else if _ then _ else _) = _; rw [if_neg (by decide), if_neg (by decide)]; exact hb)
    clear F1 F2 F3 F4 N1 hb
    have hall : ∀ q ∈ nds f₁ (fl ++ fr ++ fpC) ++ rest, q.1 ≠ p₁ := by
      intro q hq e
      rcases List.mem_append.mp hq with hq | hq
      · exact (List.nodup_cons.mp J.nodup).1 (e ▸ (of_mem_nds hq).1)
      · exact J.off p₁ (.head _) q hq e
    have N3 : News g' L' h ((p₁, W.listOf [(f₁ p₁).1, (f₁ p₁).2].toArray 0) :: (nds f₁ (fl ++ fr ++ fpC) ++ rest)) := N2
    clear N2
    cases hcb : code.getD (code.length - 1) false with
    | false =>
      rw [hcb] at F5
      simp only [Bool.false_eq_true, if_false] at F5
      k_steps
      rename Fr h₀ L _ m => F9
      rename News h₀ L _ _ => N9
      obtain ⟨g, fp', h1, h2, h3, h4⟩ := addI_end J hn hcb hv (fun _ h => h)
      exact hR _ _ g fp' F9 (fun e he => N9 e (h3 e he)) h1 h2 h4
    | true =>
      rw [hcb] at F5
      simp only [if_true] at F5
      k_steps
      rename Fr h₀ L _ m => F9
      rename News h₀ L _ _ => N9
      obtain ⟨g, fp', h1, h2, h3, h4⟩ := addI_end J hn hcb hv (fun _ h => h)
      exact hR _ _ g fp' F9 (fun e he => N9 e (h3 e he)) h1 h2 h4
end

-- part T1
section
open PySem PySem.W PyProof.Rows
def halves (n : Nat) (rows : List Row) : List Tr := [mk n (sub false rows), mk n (sub true rows)]

theorem halves_take (n : Nat) (rows : List Row) (b : Bool) : (halves n rows).take ((if b then 1 else 0) + 1) = (halves n rows).take (if b then 1 else 0) ++ [mk n (sub b rows)] := by
  cases b <;> rfl

/-- what stands at each turn of _law_tree's loop -/
def TreeJ (n : Nat) (rows : List Row) (lr lp L' : Addr) (news : List (Addr × Obj)) (i : Nat) (m : Str → Option Value) (rest : List (Addr × Obj)) : Prop :=
  ∃ items tl, rest = (lp, W.listOf items.toArray i) :: (tl ++ news) ∧ DatAll tl items (((halves n rows).take i).map datT) ∧ (∀ q ∈ tl ++ news, q.1 ≠ lp) ∧ (∀ q ∈ tl, @LT.lt Nat _ L' q.1) ∧ m "pair" = some (.ref lp) ∧ m "rows" = some (.ref lr)

theorem tree_close {g' h' : Heap} {L' lr lp : Addr} {n i : Nat} {rows : List Row} {b : Bool} {news tl tl' own all : List (Addr × Obj)} {items : List Value} {x : Value} {m' : Str → Option Value} {o : Obj} {ov : Option Value} {s₁ : Shared} {tk : Nat} {Q : Flow → Shared → Prop}
    (hib : i = if b then 1 else 0) (hD : DatAll tl items (((halves n rows).take i).map datT)) (hsub : ∀ p ∈ tl, p ∈ tl') (hx : DatIn tl' x (datT (mk n (sub b rows))))
    (hlp : ∀ q ∈ tl' ++ news, q.1 ≠ lp) (hL : ∀ q ∈ tl', @LT.lt Nat _ L' q.1) (hlpc : @Ne Nat lp (L' + 1)) (hc : ∀ q ∈ tl' ++ news, q.1 ≠ L' + 1) (hown : OwnOff own ((lp :: (tl' ++ news).map (·.1))))
    (hm1 : m' "pair" = some (.ref lp)) (hm2 : m' "rows" = some (.ref lr)) (F : Fr g' L' h' m') (N : News g' L' h' all) (ho : o.data = .cell ov)
    (hall : ∀ p ∈ (L' + 1, o) :: (lp, W.listOf (items.toArray.push x) (i + 1)) :: (tl' ++ news ++ own), p ∈ all) :
    CellEnd g' L' (L' + 1) (TreeJ n rows lr lp L' news (i + 1)) own s₁ Q .next { s₁ with heap := h', toks := tk } := by
  refine ⟨h', tk, m', o, ov, (lp, W.listOf (items ++ [x]).toArray (i + 1)) :: (tl' ++ news), all, rfl, F, N, hall _ (.head _), ho, ?_, ?_, ?_, ?_, ⟨items ++ [x], tl', rfl, ?_, hlp, hL, hm1, hm2⟩⟩
  · intro p hp
    rcases List.mem_cons.mp hp with rfl | hp
    · exact hall _ (.tail _ (by rw [show (items ++ [x]).toArray = items.toArray.push x by simp]; exact .head _))
    · exact hall _ (.tail _ (.tail _ (List.mem_append_left _ hp)))
  · exact fun p hp => hall _ (.tail _ (.tail _ (List.mem_append_right _ hp)))
  · intro p hp
    rcases List.mem_cons.mp hp with rfl | hp
    · exact hlpc
    · exact hc p hp
  · exact hown
  · subst hib
    rw [halves_take, List.map_append]
    exact (hD.mono hsub).append (.one hx)

/-- the contract of _law_tree -/
def TreeOK (w : World) (n : Nat) : Prop :=
  ∀ ⦃A A₀ : Around⦄ ⦃env : Env⦄ ⦃outer : List Env⦄ ⦃base h₀ : Heap⦄ ⦃L : Addr⦄ ⦃m mg mb : Str → Option Value⦄ ⦃p : Program⦄ ⦃loose : List Str⦄ ⦃mean : ExcName → Option Value⦄
   ⦃s : Shared⦄ ⦃Rs : Result → Shared → Prop⦄ ⦃news : List (Addr × Obj)⦄ ⦃lr : Addr⦄ ⦃vs : List Value⦄ ⦃ne : Nat⦄ ⦃rows : List Row⦄,
   Below A₀ base outer h₀ → Fr h₀ L s.heap m → (hd.heap_39 w.params).In h₀ → News h₀ L s.heap ((lr, W.listOf vs.toArray ne) :: news) → Top p loose mean mg mb h₀ →
   A.handled = none → A.frames = some (env :: outer) → env.frame = some L → env.scope.kind = .function → A.depth + n < recursionLimit →
   RowsIn news vs rows → (∀ x ∈ rows, x.1.length ≤ n + 1) → (∀ x ∈ rows, x.1 ≠ []) → Free rows → vs.length ≤ 100 → n ≤ 60 → A.units + 8 * n + 200 < cLine →
   (∀ r tl h' tk, Fr h₀ L h' m → News h₀ L h' (tl ++ ((lr, W.listOf vs.toArray ne) :: news)) → DatIn tl r (datT (build n rows)) → (∀ q ∈ tl, ∀ p ∈ (lr, W.listOf vs.toArray ne) :: news, @LT.lt Nat _ p.1 q.1) → Rs (.ok (.ret r)) { s with heap := h', toks := tk }) →
   codeAny (model prog w) A (.call (.ref 71) ⟨[.ref lr], []⟩) Rs s


theorem tree_step (w : World) (n : Nat) (IH : ∀ k, k + 1 = n → TreeOK w k) : TreeOK w n := by
  intro A A₀ env outer base h₀ L m mg mb p loose mean s Rs news lr vs ne rows B F X N T hh hA hf hke hroom hrows hlen hne hfree hsz hn60 hun hR
  w_top off
  have _ : (PySem.Challenge.rw_ae5029_01 = PySem.Challenge.rw_ae5029_01 ∧ hd.heap_39 = hd.heap_39) := by (k_fill; exact ⟨rfl, rfl⟩)
  (refine' code_defC ?k1 ?k2 ?k3 ?k4 ?k5 ?kA ?kF ?kK ?k6 ?k7 ?k8 ?k9 ?kB ?kD ?_ ?c2 ?c3 ?c4; (case kA => exact hA); (case kF => exact hf); (case kK => exact hke); (case k1 => k_asm); (case k2 => k_asm); (case k3 => k_asm); (case k4 => k_asm); (case k5 => k_asm); (case k6 => k_is); (case k7 => k_is); (case k8 => omega); (case k9 => exact BindsTo.of_eq rfl); (case kB => exact rfl); (case kD => decide +kernel); (case c2 => exact rfl); (case c3 => exact rfl); (case c4 => exact rfl); k_whole; intro g' L' h' tk' cells' FG' F' N' Y' B' X' T' l1; (try k_lt l1); k_cells Y'; (try simp only [List.cons_append, List.nil_append] at N'); (try dsimp only); (try k_fold))
  k_steps
  rename Fr g' _ _ _ => F1
  rename News g' _ _ _ => N1
  rename _ = Data.cell _ => hd1
  rename _ ∧ _ ∧ AllLt _ _ => hlt
  rename_i x9 o1 lp hA1 hA2
  refine for_cell (TreeJ n rows lr lp L' ((lr, W.listOf vs.toArray ne) :: news)) hh (by decide +kernel) rfl rfl rfl F1 (fun p hp => N1 p ?_) hd1 ?_ ⟨[], [], rfl, .nil, ?_, (fun _ h => nomatch h), rfl, rfl⟩ ?_ ?_
  · rcases List.mem_cons.mp hp with rfl | hp
    · exact .tail _ (.head _)
    · rcases List.mem_cons.mp hp with rfl | hp
      · exact .head _
      · exact .tail _ (.tail _ hp)
  · intro p hp
    rcases List.mem_cons.mp hp with rfl | hp
    · exact Nat.ne_of_gt hlt.1
    · have := allLt_mem (l := (lr, W.listOf vs.toArray ne) :: news) l1 p hp
      exact Nat.ne_of_lt (Nat.lt_succ_of_lt this)
  · intro p hp
    exact Nat.ne_of_lt (allLt_mem (l := (lr, W.listOf vs.toArray ne) :: news) hlt.2 p hp)
  · rintro i ch m₁ o t rest h tk own hch ⟨items, tl, rfl, hD, hoff, hL, hm1, hm2⟩ hcell hc1 hown F2 N2
    have F3 := fr_at "pair" _ F2 hm1
    have F4 := fr_at "rows" _ F3 (by show (if _ then _ else _) = _; rw [if_neg (by decide)]; exact hm2)
    clear F1 F2 F3 N1
    obtain ⟨b, hib, hchb⟩ : ∃ b : Bool, i = (if b then 1 else 0) ∧ ch = if b then 49 else 48 := by
      have e1 : (Str.ofString "01").cps = #[48, 49] := by decide +kernel
      rw [e1] at hch
      match i, hch with
      | 0, h => exact ⟨false, rfl, by simpa using h.symm⟩
      | 1, h => exact ⟨true, rfl, by simpa using h.symm⟩
      | i + 2, h => simp at h
    have N3 : News g' L' h ((L' + 1, o) :: (lp, W.listOf items.toArray i) :: (lr, W.listOf vs.toArray ne) :: (tl ++ news ++ own)) := by
      intro q hq
      refine N2 q ?_
      simp only [List.mem_cons, List.mem_append] at hq ⊢
      rcases hq with h | h | h | (h | h) | h <;> simp [h]
    clear N2
    k_steps
    refine LCt.Assign_ListComp_T (F₀ := F4) (by rfl) (by with_unfolding_all rfl) (by with_unfolding_all rfl) (by decide) (by rfl) (by decide) (by rfl) (by rfl) (by rfl) ?_
    k_steps
    refine LCt.CompSrcT.ledger hh F4 N3 (.tail _ (.tail _ (.head _))) (by show vs.toArray.size ≤ _; rw [List.size_toArray, sizeLine_eq]; omega) ?_
    intro g9
    have hsz9 : vs.toArray.size = vs.length := List.size_toArray ..
    rw [hsz9]
    refine compT_ind (fun j ys nw => ∃ tl2, nw = tl2 ++ ((L' + 1, o) :: (lp, W.listOf items.toArray i) :: (lr, W.listOf vs.toArray ne) :: (tl ++ news ++ own)) ∧ RowsIn tl2 ys (sub b (rows.take j)) ∧ ∀ q ∈ tl2, q.2.cls = .type "tuple") ⟨[], rfl, .nil, fun _ h => nomatch h⟩ ?_ ?_
    · rintro j ys nw v It oI C oC D m₂ h2 tk2 hj ⟨tl2, rfl, hys, hcls⟩ hv hns hm2 F5 N5 off5 ⟨ne5, ne6, ne7⟩
      have hv' : vs[j]? = some v := by simpa using hv
      obtain ⟨a, c, tc, x, u, rfl, hrow, hmem, hVx⟩ := hrows.get hv'
      have hc0 : c ≠ [] := hne _ (List.mem_of_getElem? hrow)
      obtain ⟨d, ds, rfl⟩ := List.exists_cons_of_ne_nil hc0
      have hcl : (enc (d :: ds)).length = ds.length + 1 := enc_length (d :: ds)
      have hcb : (enc (d :: ds)).length ≤ 64 := by have := hlen _ (List.mem_of_getElem? hrow); simp only [List.length_cons] at this; omega
      have N6 : News g' L' h2 ((It, oI) :: (C, oC) :: (D, LCg.lst ys) :: (a, tupOf [.str (enc (d :: ds)) tc, x]) :: (L' + 1, o) :: (tl2 ++ ((lp, W.listOf items.toArray i) :: (lr, W.listOf vs.toArray ne) :: (tl ++ news ++ own)))) :=
        News.sub N5 (led1 (by simp [hmem]))
      have hsrc : LCg.SrcAt g' lr vs.toArray (tl2 ++ ((L' + 1, o) :: (lp, W.listOf items.toArray i) :: (lr, W.listOf vs.toArray ne) :: (tl ++ news ++ own))) := .inr ⟨W.listOf vs.toArray ne, by simp, rfl, _, rfl⟩
      have hst := sub_take b hrow
      k_steps
      · rename _ = true => hbit
        rename Fr g' _ _ _ => F9
        rename News g' _ _ _ => N9
        rename _ ∧ _ ∧ _ ∧ _ => hl9
        rw [hchb, enc_head] at hbit
        rw [enc_tail] at N9
        have hdb : d = b := by simpa using hbit
        refine compEnd_new (tl2 ++ ((L' + 1, o) :: (lp, W.listOf items.toArray i) :: (lr, W.listOf vs.toArray ne) :: (tl ++ news ++ own))) F9 N9 led2 hl9.1 hl9.2.1 hl9.2.2.1 off5 (.inr ⟨W.listOf vs.toArray ne, by simp, rfl, _, rfl⟩) ⟨_ :: tl2, rfl, ?_, ?_⟩
        · rw [hst, if_pos hdb]
          exact RowsIn.append (hys.mono fun _ h => .tail _ h) (.cons (.head _) hVx .nil)
        · intro q hq
          rcases List.mem_cons.mp hq with rfl | hq
          · rfl
          · exact hcls q hq
      · rename _ = false => hbit
        rw [hchb, enc_head] at hbit
        have hdb : ¬ d = b := by simpa using hbit
        refine compEnd_old F5 N5 off5 hsrc ⟨_, rfl, ?_, hcls⟩
        rw [hst, if_neg hdb, List.append_nil]; exact hys
    · rintro ys nw ⟨tl2, rfl, hys, hcls⟩
      rw [hrows.length, List.take_length] at hys
      unfold LCg.FinA
      intro D h2 tk2 F5 N5 off5
      have hlp : ∀ q ∈ tl2, q.1 ≠ lp := fun q hq e => by
        have z1 := (N5 q (.tail _ (List.mem_append_left _ hq))).1
        have z2 := (N5 (lp, W.listOf items.toArray i) (.tail _ (List.mem_append_right _ (.tail _ (.head _))))).1
        rw [e, z2] at z1
        have := hcls q hq
        rw [← Option.some.inj z1] at this
        exact absurd (Value.type.inj this) (by decide)
      have hDlp : @Ne Nat D lp := Ne.symm (off1_mem off5 (lp, W.listOf items.toArray i) (List.mem_append_right _ (.tail _ (.head _))))
      have hil : items.length ≤ 2 := by
        have := hD.length
        rw [this, List.length_map, List.length_take]
        exact Nat.min_le_right _ _
      have hcC : ∀ q ∈ tl ++ ((lr, W.listOf vs.toArray ne) :: news), q.1 ≠ L' + 1 := fun q hq => hc1 q (.tail _ hq)
      have hownC : OwnOff own (lp :: (tl ++ ((lr, W.listOf vs.toArray ne) :: news)).map (·.1)) := fun q hq a ha => hown q hq a (.tail _ ha)
      have hlp2 : ∀ q ∈ tl2 ++ ((lr, W.listOf vs.toArray ne) :: (tl ++ news ++ own)), q.1 ≠ lp := fun q hq => by
        rcases List.mem_append.mp hq with hq | hq
        · exact hlp q hq
        · rcases List.mem_cons.mp hq with rfl | hq
          · exact hoff (lr, _) (List.mem_append_right _ (.head _))
          · rcases List.mem_append.mp hq with hq | hq
            · rcases List.mem_append.mp hq with hq | hq
              · exact hoff q (List.mem_append_left _ hq)
              · exact hoff q (List.mem_append_right _ (.tail _ hq))
            · exact hown q hq lp (.tail _ (.head _))
      cases hsr : sub b rows with
      | nil =>
        rw [hsr] at hys
        cases hys
        have N6 : News g' L' h2 ((D, W.listOf #[] 0) :: (lp, W.listOf items.toArray i) :: (L' + 1, o) :: (tl2 ++ ((lr, W.listOf vs.toArray ne) :: (tl ++ news ++ own)))) := News.sub N5 led3
        clear N5
        k_steps
        rename Fr g' _ _ _ => F9
        rename News g' _ _ _ => N9
        refine tree_close hib hD (fun _ h => h) (by rw [hsr]; cases n <;> exact .none) hoff hL (by omega) hcC hownC rfl rfl F9 N9 hcell led4
      | cons x r =>
        obtain ⟨c0, u0⟩ := x
        rw [hsr] at hys
        cases hys with
        | @cons a0 _ t0 v0 _ ys' _ hm0 hV0 hys' =>
        have ha0 : @Ne Nat a0 lp := hlp _ hm0
        have N7 : News g' L' h2 ((D, W.listOf (.ref a0 :: ys').toArray (Value.ref a0 :: ys').length) :: (lp, W.listOf items.toArray i) :: (a0, tupOf [.str (enc c0) t0, v0]) :: (L' + 1, o) :: (tl2 ++ ((lr, W.listOf vs.toArray ne) :: (tl ++ news ++ own)))) := News.sub N5 (led5 hm0)
        clear N5
        have hR0 : RowsIn tl2 (.ref a0 :: ys') ((c0, u0) :: r) := .cons hm0 hV0 hys'
        k_steps
        refine rest_ne_nil (by assumption) (.tail _ (.head _)) (.head _) (hR0.mono fun _ h => .tail _ (.tail _ (.tail _ (.tail _ (.tail _ (List.mem_append_left _ h)))))) (by show A.units + 3 + 64 < cLine; omega) ?_
        cases c0 with
        | nil =>
          k_steps
          rename Fr g' _ _ _ => F9
          rename News g' _ _ _ => N9
          refine tree_close hib hD (fun _ h => h) (by rw [hsr]; cases n <;> exact hV0.dat) hoff hL (by omega) hcC hownC rfl rfl F9 N9 hcell led6
        | cons d ds =>
          have hne0 : (enc (d :: ds) == Str.ofString "") = false := by
            have e1 : Str.ofString "" = ⟨#[]⟩ := by decide +kernel
            rw [e1]
            exact beq_eq_false_iff_ne.mpr fun e => by
              have := congrArg Str.length e
              rw [enc_length] at this
              simp [Str.length] at this
          k_steps
          rename Fr g' _ _ _ => F9
          rename News g' _ _ _ => N9
          have hlenS : ∀ x ∈ (d :: ds, u0) :: r, x.1.length ≤ n := fun x hx => by
            have := hlen _ (mem_sub.mp (hsr ▸ hx)); simpa using this
          have hfreeS : Free ((d :: ds, u0) :: r) := hsr ▸ free_sub (b := b) hfree
          obtain ⟨k, hk⟩ : ∃ k, k + 1 = n := ⟨n - 1, by have := hlenS _ (.head _); simp only [List.length_cons] at this; omega⟩
          have hneS : ∀ x ∈ (d :: ds, u0) :: r, x.1 ≠ [] := fun x hx e => by
            rcases List.mem_cons.mp hx with rfl | hx
            · cases e
            · have := (List.pairwise_cons.mp hfreeS).1 x hx
              rw [e] at this; exact apart_nil_right this
          have hszS : (Value.ref a0 :: ys').length ≤ 100 := by
            have h1 := hR0.length
            have h2 := sub_length b rows
            rw [hsr] at h2
            rw [h1]; rw [hrows.length] at hsz; omega
          refine wpAny_call (IH k hk B' F9 X' (News.sub N9 led8) T' hh (by show A.frames.map _ = _; rw [hA]; rfl) rfl rfl (by show A.depth + 1 + k < _; omega) (hR0.mono fun _ h => .tail _ (.tail _ (.tail _ (List.mem_append_left _ h)))) (by rw [hk]; exact hlenS) hneS hfreeS hszS (by omega) (by show A.units + 3 + _ + _ < _; omega) ?_)
          intro rv tlN h4 tk4 F4' N4' hDat hltN
          have hltp : ∀ q ∈ tlN, @LT.lt Nat _ lp q.1 := fun q hq => hltN q hq (lp, W.listOf items.toArray i) (.tail _ (.head _))
          have hltc : ∀ q ∈ tlN, @LT.lt Nat _ (L' + 1) q.1 := fun q hq => hltN q hq (L' + 1, o) (.tail _ (.tail _ (.tail _ (.head _))))
          have hltb : ∀ q ∈ tlN, ∀ p ∈ (lr, W.listOf vs.toArray ne) :: (tl ++ news ++ own), @LT.lt Nat _ p.1 q.1 := fun q hq p hp => hltN q hq p (.tail _ (.tail _ (.tail _ (.tail _ (List.mem_append_right _ hp)))))
          have N10 := News.sub N4' led9
          clear N4' N9 F9
          have hlp3 : ∀ q ∈ tlN ++ (tl2 ++ ((lr, W.listOf vs.toArray ne) :: (tl ++ news ++ own))), q.1 ≠ lp := fun q hq => by
            rcases List.mem_append.mp hq with hq | hq
            · exact Nat.ne_of_gt (hltp q hq)
            · exact hlp2 q hq
          k_steps
          rename Fr g' _ _ _ => F9
          rename News g' _ _ _ => N9
          refine tree_close (tl' := tlN ++ tl) hib hD (fun _ h => List.mem_append_right _ h) (by rw [hsr, ← hk]; exact DatIn.mono (fun _ h => List.mem_append_left _ h) hDat) ?_ ?_ (by omega) ?_ ?_ rfl rfl F9 N9 hcell led10
          · intro q hq
            rw [List.append_assoc] at hq
            rcases List.mem_append.mp hq with hq | hq
            · exact Nat.ne_of_gt (hltp q hq)
            · exact hoff q hq
          · intro q hq
            rcases List.mem_append.mp hq with hq | hq
            · exact Nat.lt_of_succ_lt (hltc q hq)
            · exact hL q hq
          · intro q hq
            rw [List.append_assoc] at hq
            rcases List.mem_append.mp hq with hq | hq
            · exact Nat.ne_of_gt (hltc q hq)
            · exact hcC q hq
          · intro q hq a ha
            rw [List.append_assoc, List.map_append] at ha
            rcases List.mem_cons.mp ha with rfl | ha
            · exact hownC q hq _ (.head _)
            · rcases List.mem_append.mp ha with ha | ha
              · obtain ⟨z, hz, rfl⟩ := List.mem_map.mp ha
                exact Nat.ne_of_lt (hltb z hz q (.tail _ (List.mem_append_right _ hq)))
              · exact hownC q hq a (.tail _ ha)
  · rintro m₁ o ov rest h tk ⟨items, tl, rfl, hD, hoff, hL, hm1, hm2⟩ ho F2 N2
    have F3 := fr_at "pair" _ F2 hm1
    clear F1 F2 N1
    k_steps
    rename Fr h₀ L _ m => F9
    rename News h₀ L _ _ => N9
    have e2 : (Str.ofString "01").cps.size = 2 := by decide +kernel
    rw [e2] at hD N9
    refine hR (.ref lp) ((lp, W.listOf items.toArray 2) :: tl) _ _ F9 (News.sub N9 led7) (.list (.head _) (hD.mono fun _ h => .tail _ h)) ?_
    intro q hq p hp
    have h1 := allLt_mem (l := (lr, W.listOf vs.toArray ne) :: news) l1 p hp
    rcases List.mem_cons.mp hq with rfl | hq
    · exact Nat.lt_trans h1 (Nat.lt_of_succ_lt hlt.1)
    · exact Nat.lt_trans h1 (hL q hq)

theorem tree_ok (w : World) : ∀ n, TreeOK w n
  | 0 => tree_step w 0 fun k h => absurd h (Nat.succ_ne_zero k)
  | n + 1 => tree_step w (n + 1) fun k h => Nat.succ.inj h ▸ tree_ok w n
end

-- part W5
section
open PySem PySem.W PyProof.Rows
def compScope : Scope := { kind := .function, names := [(Str.ofString ".0", .local), (Str.ofString "code", .local), (Str.ofString "means", .free)], isGenerator := false, isCoroutine := false }

theorem lew1 {d q1 q2 q3 a b : Addr × Obj} {t : List (Addr × Obj)} : ∀ x ∈ q1 :: q2 :: q3 :: d :: t, x ∈ d :: q1 :: q2 :: q3 :: a :: b :: t := by
  intro x hx; grind
theorem lew2 {d : Addr × Obj} {tl t news : List (Addr × Obj)} : ∀ x ∈ tl ++ news, x ∈ tl ++ (d :: (t ++ news)) := by
  intro x hx; grind
theorem tree_expr {w : World} {H : Heap} {L fa : Addr} {cd : Value} {m mg mb : Str → Option Value} {p : Program} {loose : List Str} {mean : ExcName → Option Value} {s : Shared} {Q : Value → Shared → Prop} {E : Value → Shared → Prop}
    {oM od : Obj} {md : Addr} {news : List (Addr × Obj)} {rows : List Row} {p1 p2 p3 p4 p5 p6 p7 p8 p9 p10 : Pos}
    (K0 : Below callerA H [] H) (KX : (hd.heap_39 w.params).In H) (T : Top p loose mean mg mb H) (F : Fr H L s.heap m) (N : News H L s.heap news)
    (hM : (L + 4, oM) ∈ news) (hMd : oM.data = .cell (some (.ref md))) (hod : (md, od) ∈ news) (lo : (md == sysModules) = false) (hm : MeansAre prog w od rows)
    (hfree : Free rows) (hne : ∀ x ∈ rows, x.1 ≠ []) (hlen : ∀ x ∈ rows, x.1.length ≤ 26) (hsz : rows.length ≤ 20)
    (h : ∀ r tl h' tk, Fr H L h' m → News H L h' (tl ++ news) → DatIn tl r (datT (build 25 rows)) → Q r { s with heap := h', toks := tk }) :
    wpAny (model prog w) (callerA.deeper (lawEnv L fa cd))
      (eval (.Call (.Name (Str.ofString "_law_tree") p1) [.ListComp (.Tuple [.Name (Str.ofString "code") p2, .Subscript (.Name (Str.ofString "means") p3) (.Name (Str.ofString "code") p4) p5] 0 p6) [⟨.Name (Str.ofString "code") p7, .Name (Str.ofString "means") p8, [], 0⟩] compScope p9] [] p10) (lawEnv L fa cd)) Q E s := by
  w_top off
  have _ : (PySem.Challenge.rw_ae5029_01 = PySem.Challenge.rw_ae5029_01 ∧ hd.heap_39 = hd.heap_39) := by (k_fill; exact ⟨rfl, rfl⟩)
  dsimp only [lawEnv, lawScope, lawScopeS]
  walk1
  walk1
  walk1
  walk1
  obtain ⟨kvs, hkd, hkv⟩ := id hm.ex
  refine ListComp_dict (h₀ := H) (L := L) (m := m) (knd := strKind prog w) (by with_unfolding_all rfl) (by decide) (by rfl) (by decide) (by rfl) rfl ?_
  refine nameX_C N (c := L + 4) rfl hM hMd ?_
  refine ⟨md, od, kvs, news, rfl, lo, F, N, hod, hkd, by rw [hkv.length, sizeLine_eq]; omega, ?_⟩
  rintro s₂ ⟨g9, rfl⟩
  refine comp_ind (fun j ys nw => ∃ tl2, nw = tl2 ++ news ∧ RowsIn tl2 ys (rows.take j) ∧ ∀ q ∈ tl2, q.2.cls = .type "tuple") ⟨[], rfl, .nil, fun _ h => nomatch h⟩ ?_ ?_
  · rintro j ys nw v It oI C oC D m₂ h2 tk2 hj ⟨tl2, rfl, hys, hcls⟩ ⟨kk, yy, hkj, hisk⟩ hns hm2 F5 N5 off5 ⟨ne5, ne6, ne7⟩
    obtain ⟨c, u, rfl, hrow, hVx⟩ := hkv.get hkj
    obtain ⟨t, rfl⟩ := Value.isStrOf_shape hisk
    have hrm : (c, u) ∈ rows := List.mem_of_getElem? hrow
    have N6 : News H L h2 ((It, oI) :: (C, oC) :: (D, LCg.lst ys) :: (L + 4, oM) :: (md, od) :: (tl2 ++ news)) := by
      intro q hq
      refine N5 q ?_
      simp only [List.mem_cons, List.mem_append] at hq ⊢
      rcases hq with h | h | h | h | h | h | h
      · simp [h]
      · simp [h]
      · simp [h]
      · simp [h, hM]
      · simp [h, hod]
      · simp [h]
      · simp [h]
    clear N5
    k_steps
    refine means_get (by assumption) (d := md) (by simp) lo hm hfree hrm fun v' hv' => ?_
    k_steps
    rename Fr H L _ _ => F9
    rename News H L _ _ => N9
    refine compEnd_new (tl2 ++ news) F9 N9 lew1 (by omega) (by omega) (by omega) off5 (.tail _ (List.mem_append_right _ hod)) ⟨_ :: tl2, rfl, ?_, ?_⟩
    · rw [List.take_add_one, hrow]
      exact RowsIn.append (hys.mono fun _ h => .tail _ h) (.cons (.head _) hv' .nil)
    · intro q hq
      rcases List.mem_cons.mp hq with rfl | hq
      · rfl
      · exact hcls q hq
  · rintro ys nw ⟨tl2, rfl, hys, hcls⟩
    rw [hkv.length, List.take_length] at hys
    unfold LCg.FinE
    intro D h2 tk2 F5 N5 off5
    walk1
    walk1
    refine wpAny_call ?_
    refine tree_ok w 25 K0 F5 KX N5 T rfl rfl rfl rfl (by show callerA.depth + 1 + 25 < _; decide) (hys.mono fun _ h => List.mem_append_left _ h) hlen hne hfree (by rw [hys.length]; omega) (by decide) (by show callerA.units + 3 + 8 * 25 + 200 < cLine; decide) ?_
    intro r tl h4 tk4 F6 N6 hD _
    k_steps
    refine h r tl _ _ F6 (News.sub N6 lew2) hD
end

-- part W6
section
open PySem PySem.W PyProof.Rows
abbrev cv (x : Code × Tok) : Value := .str (enc x.1) x.2
theorem lel1 {a b c d e r : Addr × Obj} {t : List (Addr × Obj)} : ∀ x ∈ [r] ++ (a :: b :: c :: d :: e :: t), x ∈ a :: b :: c :: d :: e :: r :: t := by
  intro x hx; grind
theorem lel2 {a b c d e : Addr × Obj} {t n o : List (Addr × Obj)} : ∀ x ∈ a :: b :: c :: d :: e :: (n ++ (t ++ o)), x ∈ n ++ (a :: b :: c :: d :: e :: t) ++ o := by
  intro x hx; grind
theorem lel3 {q a b c d e : Addr × Obj} {t n : List (Addr × Obj)} : ∀ x ∈ n ++ (q :: a :: b :: c :: d :: e :: t), x ∈ q :: a :: b :: c :: d :: e :: (n ++ t) := by
  intro x hx; grind
theorem lel4 {q a b c d e : Addr × Obj} {t n : List (Addr × Obj)} : ∀ x ∈ a :: b :: d :: e :: c :: (n ++ t), x ∈ n ++ (q :: a :: b :: c :: d :: e :: t) := by
  intro x hx; grind

/-- what stands at each turn of the law's last loop -/
def LawJ (w : World) (L md oA vA R : Addr) (n₁ n₂ : Nat) (oM oh : Obj) (ct : List (Code × Tok)) (vs : List Value) (rows : List Row) (news : List (Addr × Obj)) (k : Nat) (m : Str → Option Value) (nx : List (Addr × Obj)) : Prop :=
  ∃ (f : Addr → Value × Value) (fp : List Addr) (od : Obj), nx = nds f fp ++ ((L + 1, oh) :: (L + 4, oM) :: (md, od) :: (oA, W.listOf (ct.map cv).toArray n₁) :: (vA, W.listOf vs.toArray n₂) :: news) ∧
    TF f (.ref R) (build 25 (rows.take k)) fp ∧ fp.Nodup ∧ (∀ a ∈ fp, (@Ne Nat a (L + 1)) ∧ (@Ne Nat a (L + 4)) ∧ (@Ne Nat a md) ∧ (@Ne Nat a oA) ∧ (@Ne Nat a vA) ∧ ∀ q ∈ news, q.1 ≠ a) ∧ MeansAre prog w od (rows.take k) ∧
    m "order" = some (.ref oA) ∧ m "values" = some (.ref vA) ∧ m "root" = some (.ref R)

theorem lel5 {a b c d e : Addr × Obj} {tl g n o : List (Addr × Obj)} : ∀ x ∈ g ++ (a :: b :: c :: d :: e :: n), x ∈ tl ++ (a :: b :: d :: e :: c :: (g ++ (n ++ o))) := by
  intro x hx; grind
theorem lel6 {a b c d e : Addr × Obj} {tl g n o : List (Addr × Obj)} : ∀ x ∈ o, x ∈ tl ++ (a :: b :: d :: e :: c :: (g ++ (n ++ o))) := by
  intro x hx; grind
theorem free_zip {cs : List Code} (h : cs.Pairwise Apart) : ∀ us : List Val, Free (cs.zip us) := by
  induction h with
  | nil => intro us; rw [List.zip_nil_left]; exact .nil
  | @cons c cs h1 _ ih =>
    intro us
    cases us with
    | nil => rw [List.zip_nil_right]; exact .nil
    | cons u us =>
      rw [List.zip_cons_cons]
      exact .cons (fun x hx => h1 _ (List.of_mem_zip (a := x.1) (b := x.2) hx).1) (ih us)
theorem lawJ_start {w : World} {L md oA vA R : Addr} {n₁ n₂ : Nat} {oM oh od : Obj} {ct : List (Code × Tok)} {vs : List Value} {rows : List Row} {news : List (Addr × Obj)} {m : Str → Option Value}
    (hRo : (@Ne Nat R (L + 1)) ∧ (@Ne Nat R (L + 4)) ∧ (@Ne Nat R oA) ∧ (@Ne Nat R vA) ∧ (∀ q ∈ news, q.1 ≠ R)) (hdist : (@Ne Nat md (L + 1)) ∧ (@Ne Nat md (L + 4)) ∧ (@Ne Nat md oA) ∧ (@Ne Nat md vA) ∧ (@Ne Nat md R) ∧ (∀ q ∈ news, q.1 ≠ md))
    (hm : MeansAre prog w od []) (mo : m "order" = some (.ref oA)) (mv : m "values" = some (.ref vA)) (mr : m "root" = some (.ref R)) :
    LawJ w L md oA vA R n₁ n₂ oM oh ct vs rows news 0 m ([(R, W.listOf #[.none, .none] 0)] ++ ((L + 1, oh) :: (L + 4, oM) :: (md, od) :: (oA, W.listOf (ct.map cv).toArray n₁) :: (vA, W.listOf vs.toArray n₂) :: news)) := by
  refine ⟨fun _ => (.none, .none), [R], od, rfl, .node (a := R) (fl := []) (fr := []) .none .none, by simp, ?_, hm, mo, mv, mr⟩
  intro a ha
  rw [List.mem_singleton.mp ha]
  exact ⟨hRo.1, hRo.2.1, Ne.symm hdist.2.2.2.2.1, hRo.2.2.1, hRo.2.2.2.1, hRo.2.2.2.2⟩
end

-- part W8
section
open PySem PySem.W PyProof.Rows
theorem law_ret {w : World} {H : Heap} {L fa : Addr} {cd : Value} {m mg mb : Str → Option Value} {mean : ExcName → Option Value} {s : Shared} {Q : Flow → Shared → Prop}
    {oM od : Obj} {md R : Addr} {all : List (Addr × Obj)} {rows : List Row} {f : Addr → Value × Value} {fp : List Addr}
    (K0 : Below callerA H [] H) (KX : (hd.heap_39 w.params).In H) (T : Top hd.view_39 (looseW hd.view_39 [Str.ofString "BitParser"]) mean mg mb H) (F : Fr H L s.heap m)
    (N : News H L s.heap all) (hM : (L + 4, oM) ∈ all) (hMm : (md, od) ∈ all) (hnds : ∀ a ∈ fp, nd f a ∈ all) (hMd : oM.data = .cell (some (.ref md))) (lo : (md == sysModules) = false)
    (hT : TF f (.ref R) (build 25 rows) fp) (hm : MeansAre prog w od rows) (hfr : Free rows) (hrw : ∀ x ∈ rows, x.1 ≠ [] ∧ x.1.length ≤ 26) (hrn : rows.length ≤ 20)
    (mr : m "root" = some (.ref R)) (hQ : ∀ h' tk m', Fr H L h' m' → Q (.ret (.bool true)) { s with heap := h', toks := tk }) :
    wpAny (model prog w) (callerA.deeper (lawEnv L fa cd)) (execs (lawBody.drop 9) (lawEnv L fa cd)) Q (fun _ _ => False) s := by
  w_top off
  have _ : (PySem.Challenge.rw_ae5029_01 = PySem.Challenge.rw_ae5029_01 ∧ hd.heap_39 = hd.heap_39) := by (k_fill; exact ⟨rfl, rfl⟩)
  dsimp only [lawEnv, lawScope, lawScopeS]
  conv => enter [3,1]; whnf
  have F2 := fr_at "root" _ F mr
  clear F
  walk1
  walk1
  walk1
  walk1
  refine tree_expr (oM := oM) (md := md) (od := od) (rows := rows) K0 KX T F2 N hM hMd hMm lo hm hfr (fun x hx => (hrw x hx).1) (fun x hx => (hrw x hx).2) hrn ?_
  intro r tl h7 tk7 F11 N11 hD
  refine root_eq (n := 25) (rows := rows) (tl := tl) (f := f) (fp := fp) N11 hT (fun a ha => List.mem_append_right _ (hnds a ha)) hD (fun p hp => List.mem_append_left _ hp) (by decide) (by show callerA.units + 3 + 64 < cLine; decide) ?_
  exact hQ _ _ _ F11

theorem law_last {w : World} {H : Heap} {L fa : Addr} {cd : Value} {m mg mb : Str → Option Value} {mean : ExcName → Option Value} {s : Shared} {Q : Flow → Shared → Prop}
    {oM oh : Obj} {md oA vA R : Addr} {n₁ n₂ : Nat} {hdv : Int} {th : Tok} {news nx : List (Addr × Obj)} {ct : List (Code × Tok)} {vs : List Value} {us : List Val}
    (K0 : Below callerA H [] H) (KX : (hd.heap_39 w.params).In H) (T : Top hd.view_39 (looseW hd.view_39 [Str.ofString "BitParser"]) mean mg mb H) (F : Fr H L s.heap m)
    (N : News H L s.heap nx) (J : LawJ w L md oA vA R n₁ n₂ oM oh ct vs ((ct.map (·.1)).zip us) news ct.length m nx)
    (hhd : oh.data = .cell (some (.int hdv th))) (hMd : oM.data = .cell (some (.ref md))) (lo : (md == sysModules) = false)
    (hdist : (@Ne Nat md (L + 1)) ∧ (@Ne Nat md (L + 4)) ∧ (@Ne Nat md oA) ∧ (@Ne Nat md vA) ∧ (@Ne Nat md R) ∧ (∀ q ∈ news, q.1 ≠ md))
    (hfree : (ct.map (·.1)).Pairwise Apart) (hne : ∀ x ∈ ct, x.1 ≠ []) (hlen : ∀ x ∈ ct, x.1.length ≤ 26) (hsz : ct.length ≤ 8) (hul : ct.length ≤ us.length)
    (hQ : ∀ h' tk m', Fr H L h' m' → Q (.ret (.bool true)) { s with heap := h', toks := tk }) :
    wpAny (model prog w) (callerA.deeper (lawEnv L fa cd)) (execs (lawBody.drop 8) (lawEnv L fa cd)) Q (fun _ _ => False) s := by
  w_top off
  have _ : (PySem.Challenge.rw_ae5029_01 = PySem.Challenge.rw_ae5029_01 ∧ hd.heap_39 = hd.heap_39) := by (k_fill; exact ⟨rfl, rfl⟩)
  dsimp only [lawEnv, lawScope, lawScopeS]
  conv => enter [3,1]; whnf
  obtain ⟨f, fp, od, rfl, hT, hnd, hoff, hm, mo, mv, mr⟩ := J
  have hfr : Free ((ct.map (·.1)).zip us) := free_zip hfree us
  have hrw : ∀ x ∈ (ct.map (·.1)).zip us, x.1 ≠ [] ∧ x.1.length ≤ 26 := fun x hx => by
    have := (List.of_mem_zip (a := x.1) (b := x.2) hx).1
    obtain ⟨z, hz, e⟩ := List.mem_map.mp this
    rw [← e]; exact ⟨hne z hz, hlen z hz⟩
  have hrl : ((ct.map (·.1)).zip us).length = ct.length := by rw [List.length_zip, List.length_map]; exact Nat.min_eq_left hul
  rw [List.take_of_length_le (by omega)] at hT hm
  have hfst : ((ct.map (·.1)).zip us).map (·.1) = ct.map (·.1) := List.map_fst_zip (by rw [List.length_map]; exact hul)
  have hrn : ((ct.map (·.1)).zip us).length ≤ 20 := by omega
  generalize (ct.map (·.1)).zip us = rows at *
  have F1 := fr_at "order" _ F mo
  have F2 := fr_at "root" _ F1 (by show (if _ then _ else _) = _; rw [if_neg (by decide)]; exact mr)
  have N3 : News H L s.heap ((L + 1, oh) :: (L + 4, oM) :: (md, od) :: (oA, W.listOf (ct.map cv).toArray n₁) :: (vA, W.listOf vs.toArray n₂) :: (nds f fp ++ (news ++ []))) := News.sub (by rw [List.append_nil]; exact N) lel2
  clear N F F1
  have hcz : (ct.map cv).length = ct.length := List.length_map ..
  k_steps
  refine truthy_any (vs := ct.map cv) (n := n₁) (by assumption) (by simp) (by omega) ?_
  by_cases hpos : ct.length = 0
  · have he : (ct.map cv).isEmpty = true := by rw [List.isEmpty_iff_length_eq_zero]; omega
    rw [he]
    walk1
    walk1
    walk1
    walk1
    refine law_ret (md := md) (od := od) (oM := oM) (R := R) K0 KX T F2 N3 (by simp) (by simp) (fun a ha => by simp [mem_nds ha]) hMd lo hT hm hfr hrw hrn rfl ?_
    intro h' tk m' F'
    exact hQ _ _ _ F'
  · have he : (ct.map cv).isEmpty = false := by rw [List.isEmpty_eq_false_iff_exists_mem]; exact ⟨_, List.getElem_mem (n := 0) (by omega)⟩
    have hcp : (0 : Int) < ct.length := by omega
    rw [he]
    k_steps
    refine len_any (vs := ct.map cv) (n := n₁) (by assumption) (by simp) (by omega) ?_
    rw [hcz]
    k_steps
    have hj0 : 0 ≤ (hdv.fdiv 7).fmod ct.length := Int.fmod_nonneg_of_pos _ hcp
    have hj1 : (hdv.fdiv 7).fmod ct.length < ct.length := Int.fmod_lt_of_pos _ hcp
    generalize (hdv.fdiv 7).fmod ct.length = j at *
    obtain ⟨⟨c, tc⟩, hck⟩ : ∃ x, ct[j.toNat]? = some x := ⟨_, List.getElem?_eq_getElem (by omega)⟩
    have hcm : (c, tc) ∈ ct := List.mem_of_getElem? hck
    have hok : (ct.map cv)[j.toNat]? = some (.str (enc c) tc) := by rw [List.getElem?_map, hck]; rfl
    refine item_any (vs := ct.map cv) (n := n₁) (by assumption) (by simp) hj0 (by omega) hok ?_
    k_steps
    rename Fr H _ _ _ => F6
    rename News H _ _ _ => N6
    rename _ ∧ _ ∧ _ ∧ _ => hlt
    have hcl2 : (enc c).length ≤ 100 := by rw [enc_length]; have := hlen _ hcm; simp only at this; omega
    have hcr : c ∈ rows.map (·.1) := by rw [hfst]; exact List.mem_map_of_mem (f := (·.1)) hcm
    have hbp := build_put (n := 25) (r := rows) (c := c) (v := .int (-1)) (fun x hx => (hrw x hx).2) (hne _ hcm) hfr hcr
    refine add_ok (u := .int (-1)) (f := f) (fp := fp) (rest := _ :: (L + 1, oh) :: (L + 4, oM) :: (md, od) :: (oA, W.listOf (ct.map cv).toArray n₁) :: (vA, W.listOf vs.toArray n₂) :: (news ++ [])) K0 F6 KX (News.sub N6 lel3) T rfl rfl rfl rfl (by show callerA.depth + 1 < _; decide) (.int _ _) hT hnd ?_ (hne _ hcm) hbp.2 hcl2 ?_
    · intro a ha q hq
      have h1 := hoff a ha
      rcases List.mem_cons.mp hq with rfl | hq
      · exact Nat.ne_of_gt (allLt_mem hlt.2.2.2.2.2 (nd f a) (List.mem_append_left _ (mem_nds ha)))
      rcases List.mem_cons.mp hq with rfl | hq
      · exact Ne.symm h1.1
      rcases List.mem_cons.mp hq with rfl | hq
      · exact Ne.symm h1.2.1
      rcases List.mem_cons.mp hq with rfl | hq
      · exact Ne.symm h1.2.2.1
      rcases List.mem_cons.mp hq with rfl | hq
      · exact Ne.symm h1.2.2.2.1
      rcases List.mem_cons.mp hq with rfl | hq
      · exact Ne.symm h1.2.2.2.2.1
      exact h1.2.2.2.2.2 q (by rwa [List.append_nil] at hq)
    · intro h5 tk5 g fp' F7 N7 hT' hnd' hoff'
      have hmd1 : ∀ q ∈ nds g fp' ++ (news ++ []), q.1 ≠ md := fun q hq => by
        rcases List.mem_append.mp hq with hq | hq
        · exact Ne.symm (hoff' _ (of_mem_nds hq).1 (md, od) (by simp))
        · exact hdist.2.2.2.2.2 q (by rwa [List.append_nil] at hq)
      obtain ⟨hd1, hd2, hd3, hd4, hd5, hd6⟩ := hdist
      have N8 : News H L h5 ((L + 1, oh) :: (L + 4, oM) :: (oA, W.listOf (ct.map cv).toArray n₁) :: (vA, W.listOf vs.toArray n₂) :: (md, od) :: (nds g fp' ++ (news ++ []))) := News.sub N7 lel4
      clear N7 N6
      walk1
      walk1
      walk1
      walk1
      walk1
      walk1
      walk1
      refine means_set (o := od) (rows := rows) (rows' := put c (.int (-1)) rows) (g := fun o => (L + 1, oh) :: (L + 4, oM) :: (oA, W.listOf (ct.map cv).toArray n₁) :: (vA, W.listOf vs.toArray n₂) :: (md, o) :: (nds g fp' ++ (news ++ []))) (by assumption) (by assumption) ?_ hm (.int _ _) (.inr ⟨rfl, hcr⟩) (by omega) ?_
      · exact .tail (Ne.symm hd1) (.tail (Ne.symm hd2) (.tail (Ne.symm hd3) (.tail (Ne.symm hd4) (.head hmd1))))
      intro h6 od6 F8 N9 hm6
      walk1
      refine law_ret (md := md) (od := od6) (oM := oM) (R := R) (f := g) (fp := fp') K0 KX T F8 N9 (by simp) (by simp) (fun a ha => by simp [mem_nds ha]) hMd lo (by rw [hbp.1]; exact hT') hm6 (put_free hfr) ?_ (by unfold put; rw [List.length_map]; exact hrn) rfl ?_
      · intro x hx
        obtain ⟨y, hy, e⟩ := List.mem_map.mp hx
        have := hrw y hy
        rw [← e]
        split <;> exact this
      intro h' tk m' F'
      exact hQ _ _ _ F'
end

-- part W7
section
open PySem PySem.W PyProof.Rows
theorem law_for {w : World} {H : Heap} {L fa : Addr} {cd : Value} {m mg mb : Str → Option Value} {mean : ExcName → Option Value} {s : Shared} {Q : Flow → Shared → Prop}
    {oM oh od : Obj} {md oA vA R : Addr} {n₁ n₂ : Nat} {hdv : Int} {th : Tok} {news : List (Addr × Obj)} {ct : List (Code × Tok)} {vs : List Value} {us : List Val}
    (K0 : Below callerA H [] H) (KX : (hd.heap_39 w.params).In H) (T : Top hd.view_39 (looseW hd.view_39 [Str.ofString "BitParser"]) mean mg mb H) (F : Fr H L s.heap m)
    (N : News H L s.heap ((L + 1, oh) :: (L + 4, oM) :: (md, od) :: (oA, W.listOf (ct.map cv).toArray n₁) :: (vA, W.listOf vs.toArray n₂) :: (R, W.listOf #[.none, .none] 0) :: news))
    (hhd : oh.data = .cell (some (.int hdv th))) (hMd : oM.data = .cell (some (.ref md))) (lo : (md == sysModules) = false) (hm : MeansAre prog w od [])
    (mo : m "order" = some (.ref oA)) (mv : m "values" = some (.ref vA)) (mr : m "root" = some (.ref R))
    (hdist : (@Ne Nat md (L + 1)) ∧ (@Ne Nat md (L + 4)) ∧ (@Ne Nat md oA) ∧ (@Ne Nat md vA) ∧ (@Ne Nat md R) ∧ (∀ q ∈ news, q.1 ≠ md)) (hRo : (@Ne Nat R (L + 1)) ∧ (@Ne Nat R (L + 4)) ∧ (@Ne Nat R oA) ∧ (@Ne Nat R vA) ∧ (∀ q ∈ news, q.1 ≠ R))
    (hfree : (ct.map (·.1)).Pairwise Apart) (hne : ∀ x ∈ ct, x.1 ≠ []) (hlen : ∀ x ∈ ct, x.1.length ≤ 26) (hsz : ct.length ≤ 8)
    (hvl : vs.length = us.length) (hvs : ∀ (i : Nat) v u, vs[i]? = some v → us[i]? = some u → VIn v u) (hcl : ct.length ≤ vs.length)
    (hQ : ∀ h' tk m', Fr H L h' m' → Q (.ret (.bool true)) { s with heap := h', toks := tk }) :
    wpAny (model prog w) (callerA.deeper (lawEnv L fa cd)) (execs (lawBody.drop 7) (lawEnv L fa cd)) Q (fun _ _ => False) s := by
  w_top off
  have _ : (PySem.Challenge.rw_ae5029_01 = PySem.Challenge.rw_ae5029_01 ∧ hd.heap_39 = hd.heap_39) := by (k_fill; exact ⟨rfl, rfl⟩)
  dsimp only [lawEnv, lawScope, lawScopeS]
  conv => enter [3,1]; whnf
  have F1 := fr_at "order" _ F mo
  have F2 := fr_at "values" _ F1 (by show (if _ then _ else _) = _; rw [if_neg (by decide)]; exact mv)
  have F3 := fr_at "root" _ F2 (by show (if _ then _ else if _ then _ else _) = _; rw [if_neg (by decide), if_neg (by decide)]; exact mr)
  clear F F1 F2
  k_steps
  have hcz : (ct.map cv).length = ct.length := List.length_map ..
  refine len_any N (.tail _ (.tail _ (.tail _ (.head _)))) (by omega) ?_
  rw [hcz]
  walk1
  walk1
  rename Fr H L _ _ => F1
  rename News H L _ _ => N1
  rename IsRange _ _ _ _ _ _ _ _ => R1
  have hfr : Free ((ct.map (·.1)).zip us) := free_zip hfree us
  have hrw : ∀ x ∈ (ct.map (·.1)).zip us, x.1 ≠ [] ∧ x.1.length ≤ 26 := fun x hx => by
    have := (List.of_mem_zip (a := x.1) (b := x.2) hx).1
    obtain ⟨z, hz, e⟩ := List.mem_map.mp this
    rw [← e]; exact ⟨hne z hz, hlen z hz⟩
  refine iter_rangeJ (n := ct.length) (LawJ w L md oA vA R n₁ n₂ oM oh ct vs ((ct.map (·.1)).zip us) news) rfl R1 (smallRange (by omega)) (sizeRange _) F1 (News.sub N1 lel1) ?_ ?_ ?_
  · exact lawJ_start hRo hdist hm rfl rfl rfl
  · rintro k t m₁ nx h tk own hk hown ⟨f, fp, od', rfl, hT, hnd, hoff, hm', mo', mv', mr'⟩ F2 N2
    have F3 := fr_at "order" _ F2 (by show (if _ then _ else _) = _; rw [if_neg (by decide)]; exact mo')
    have F4 := fr_at "values" _ F3 (by show (if _ then _ else if _ then _ else _) = _; rw [if_neg (by decide), if_neg (by decide)]; exact mv')
    have F5 := fr_at "root" _ F4 (by show (if _ then _ else if _ then _ else if _ then _ else _) = _; rw [if_neg (by decide), if_neg (by decide), if_neg (by decide)]; exact mr')
    clear F1 F2 F3 F4 N1
    have N3 : News H L h ((L + 1, oh) :: (L + 4, oM) :: (md, od') :: (oA, W.listOf (ct.map cv).toArray n₁) :: (vA, W.listOf vs.toArray n₂) :: (nds f fp ++ (news ++ own))) := News.sub N2 lel2
    clear N2
    obtain ⟨⟨c, tc⟩, hck⟩ : ∃ x, ct[k]? = some x := ⟨_, List.getElem?_eq_getElem hk⟩
    obtain ⟨v, hvk⟩ : ∃ x, vs[k]? = some x := ⟨_, List.getElem?_eq_getElem (Nat.lt_of_lt_of_le hk hcl)⟩
    obtain ⟨u, huk⟩ : ∃ x, us[k]? = some x := ⟨_, List.getElem?_eq_getElem (by omega)⟩
    have hVv : VIn v u := hvs k v u hvk huk
    have hrk : ((ct.map (·.1)).zip us)[k]? = some (c, u) := by simp [List.getElem?_zip_eq_some, hck, huk]
    have hcm : (c, tc) ∈ ct := List.mem_of_getElem? hck
    have hxk : vs[(0 + (k : Int)).toNat]? = some v := by rw [show (0 + (k : Int)).toNat = k by omega]; exact hvk
    have hok : (ct.map cv)[(0 + (k : Int)).toNat]? = some (.str (enc c) tc) := by rw [show (0 + (k : Int)).toNat = k by omega, List.getElem?_map, hck]; rfl
    have hk0 : 0 ≤ (0 + (k : Int)) := by omega
    have hk1 : (0 + (k : Int)) ≤ 100000 := by omega
    generalize hiv : (0 + (k : Int)) = iv at F5 hxk hok hk0 hk1
    have hap : ∀ x ∈ ((ct.map (·.1)).zip us).take k, Apart x.1 c := by
      have hfk : Free (((ct.map (·.1)).zip us).take (k + 1)) := hfr.take
      rw [List.take_add_one, hrk] at hfk
      exact fun x hx => (List.pairwise_append.mp hfk).2.2 x hx (c, u) (by simp)
    k_steps
    refine item_any (vs := vs) (n := n₂) (by assumption) (by simp) hk0 hk1 hxk ?_
    k_steps
    refine item_any (vs := ct.map cv) (n := n₁) (by assumption) (by simp) hk0 hk1 hok ?_
    walk1
    walk1
    · walk1
    walk1
    rename Fr H _ _ _ => F6
    rename News H _ _ _ => N6
    rename _ ∧ _ ∧ _ ∧ _ => hlt
    have hcl2 : (enc c).length ≤ 100 := by rw [enc_length]; have := hlen _ hcm; simp only at this; omega
    have hbs := build_snoc (n := 25) (r := ((ct.map (·.1)).zip us).take k) (c := c) (v := u) (fun x hx => ?_) (hlen _ hcm) (hne _ hcm) ?_
    refine add_ok (f := f) (fp := fp) (rest := _ :: (L + 1, oh) :: (L + 4, oM) :: (md, od') :: (oA, W.listOf (ct.map cv).toArray n₁) :: (vA, W.listOf vs.toArray n₂) :: (news ++ own)) K0 F6 KX (News.sub N6 lel3) T rfl rfl rfl rfl (by show callerA.depth + 1 < _; decide) hVv hT hnd ?_ (hne _ hcm) hbs.2 hcl2 ?_
    · intro a ha q hq
      have h1 := hoff a ha
      rcases List.mem_cons.mp hq with rfl | hq
      · exact Nat.ne_of_gt (allLt_mem hlt.2.2.2.2.2 (nd f a) (List.mem_append_left _ (mem_nds ha)))
      rcases List.mem_cons.mp hq with rfl | hq
      · exact Ne.symm h1.1
      rcases List.mem_cons.mp hq with rfl | hq
      · exact Ne.symm h1.2.1
      rcases List.mem_cons.mp hq with rfl | hq
      · exact Ne.symm h1.2.2.1
      rcases List.mem_cons.mp hq with rfl | hq
      · exact Ne.symm h1.2.2.2.1
      rcases List.mem_cons.mp hq with rfl | hq
      · exact Ne.symm h1.2.2.2.2.1
      rcases List.mem_append.mp hq with hq | hq
      · exact h1.2.2.2.2.2 q hq
      · exact hown q hq a (by rw [List.map_append, nds_fst]; exact List.mem_append_left _ ha)
    · intro h5 tk5 g fp' F7 N7 hT' hnd' hoff'
      have hmd1 : ∀ q ∈ nds g fp' ++ (news ++ own), q.1 ≠ md := fun q hq => by
        rcases List.mem_append.mp hq with hq | hq
        · exact Ne.symm (hoff' _ (of_mem_nds hq).1 (md, od') (by simp))
        · rcases List.mem_append.mp hq with hq | hq
          · exact hdist.2.2.2.2.2 q hq
          · exact hown q hq md (by simp)
      obtain ⟨hd1, hd2, hd3, hd4, hd5, hd6⟩ := hdist
      have N8 : News H L h5 ((L + 1, oh) :: (L + 4, oM) :: (oA, W.listOf (ct.map cv).toArray n₁) :: (vA, W.listOf vs.toArray n₂) :: (md, od') :: (nds g fp' ++ (news ++ own))) := News.sub N7 lel4
      clear N7 N6 N3
      k_steps
      refine item_any (vs := vs) (n := n₂) (by assumption) (by simp) hk0 hk1 hxk ?_
      k_steps
      refine item_any (vs := ct.map cv) (n := n₁) (by assumption) (by simp) hk0 hk1 hok ?_
      refine means_set (o := od') (rows := ((ct.map (·.1)).zip us).take k) (rows' := ((ct.map (·.1)).zip us).take k ++ [(c, u)]) (g := fun o => (L + 1, oh) :: (L + 4, oM) :: (oA, W.listOf (ct.map cv).toArray n₁) :: (vA, W.listOf vs.toArray n₂) :: (md, o) :: (nds g fp' ++ (news ++ own))) (by assumption) (by assumption) ?_ hm' hVv (.inl ⟨rfl, ?_⟩) ?_ ?_
      · exact .tail (Ne.symm hd1) (.tail (Ne.symm hd2) (.tail (Ne.symm hd3) (.tail (Ne.symm hd4) (.head hmd1))))
      · exact fun x hx e => by
          have := hap x hx
          rw [e] at this; exact this.1 (List.prefix_refl _)
      · have := List.length_take_le k ((ct.map (·.1)).zip us)
        have h2 : ((ct.map (·.1)).zip us).length ≤ ct.length := by rw [List.length_zip, List.length_map]; exact Nat.min_le_left _ _
        have h3 := List.length_take_le' k ((ct.map (·.1)).zip us)
        omega
      intro h6 od6 F8 N9 hm6
      have hrt : ((ct.map (·.1)).zip us).take (k + 1) = ((ct.map (·.1)).zip us).take k ++ [(c, u)] := by rw [List.take_add_one, hrk]; rfl
      rw [← hrt] at hm6
      have hT6 : TF g (.ref R) (build 25 (((ct.map (·.1)).zip us).take (k + 1))) fp' := by rw [hrt, hbs.1]; exact hT'
      walk1
      walk1
      walk1
      walk1
      rename Fr H _ _ _ => F10
      rename News H _ _ _ => N10
      refine tree_expr (oM := oM) (md := md) (od := od6) (rows := ((ct.map (·.1)).zip us).take (k + 1)) K0 KX T F10 N10 (by simp) hMd (by simp) lo hm6 ?_ ?_ ?_ ?_ ?_
      · exact hfr.take
      · exact fun x hx => (hrw x (List.mem_of_mem_take hx)).1
      · exact fun x hx => (hrw x (List.mem_of_mem_take hx)).2
      · have h2 : ((ct.map (·.1)).zip us).length ≤ ct.length := by rw [List.length_zip, List.length_map]; exact Nat.min_le_left _ _
        have h3 := List.length_take_le' (k + 1) ((ct.map (·.1)).zip us)
        omega
      intro r tl h7 tk7 F11 N11 hD
      refine root_ne (n := 25) (rows := ((ct.map (·.1)).zip us).take (k + 1)) (tl := tl) (f := g) (fp := fp') N11 hT6 ?_ hD (fun p hp => List.mem_append_left _ hp) (by decide) (by show callerA.units + 3 + 64 < cLine; decide) ?_
      · exact fun a ha => List.mem_append_right _ (.tail _ (.tail _ (.tail _ (.tail _ (.tail _ (List.mem_append_left _ (mem_nds ha)))))))
      k_steps
      refine close_end F11 N11 ⟨_, ⟨g, fp', od6, rfl, hT6, hnd', ?_, hm6, rfl, rfl, rfl⟩, lel5, ?_⟩ lel6
      · intro a ha
        have h1 := hoff' a ha
        exact ⟨Ne.symm (h1 _ (.tail _ (.head _))), Ne.symm (h1 _ (.tail _ (.tail _ (.head _)))), Ne.symm (h1 _ (.tail _ (.tail _ (.tail _ (.head _))))), Ne.symm (h1 _ (.tail _ (.tail _ (.tail _ (.tail _ (.head _)))))),
          Ne.symm (h1 _ (.tail _ (.tail _ (.tail _ (.tail _ (.tail _ (.head _))))))), fun q hq => h1 q (.tail _ (.tail _ (.tail _ (.tail _ (.tail _ (.tail _ (List.mem_append_left _ hq)))))))⟩
      · intro q hq b hb
        rw [List.map_append, nds_fst] at hb
        rcases List.mem_append.mp hb with hb | hb
        · exact (hoff' b hb q (.tail _ (.tail _ (.tail _ (.tail _ (.tail _ (.tail _ (List.mem_append_right _ hq))))))))
        · exact hown q hq b (by rw [List.map_append]; exact List.mem_append_right _ hb)
    · exact (hrw x (List.mem_of_mem_take hx)).2
    · exact hap
  · rintro m₁ nx h tk J F2 N2
    refine law_last (s := { s with heap := h, toks := tk }) (us := us) K0 KX T F2 N2 J hhd hMd lo hdist hfree hne hlen hsz (by omega) ?_
    exact fun h' tk m' F' => hQ h' tk m' F'
end

-- part W4
section
open PySem PySem.W PyProof.Rows
theorem lem2 {x y o r d v k a1 a4 : Addr × Obj} {n : List (Addr × Obj)} : ∀ z ∈ o :: a1 :: a4 :: d :: v :: r :: k :: n, z ∈ o :: x :: y :: a4 :: d :: r :: v :: k :: a1 :: n := by
  intro z hz; simp only [List.mem_cons] at hz ⊢; rcases hz with h | h | h | h | h | h | h | h <;> simp [h]
theorem lem3 {o r d v k a1 a4 : Addr × Obj} {n : List (Addr × Obj)} : ∀ z ∈ a1 :: a4 :: d :: o :: v :: r :: k :: n, z ∈ o :: a1 :: a4 :: d :: v :: r :: k :: n := by
  intro z hz; simp only [List.mem_cons] at hz ⊢; rcases hz with h | h | h | h | h | h | h | h <;> simp [h]
theorem lem4 {r d v k a1 a4 : Addr × Obj} {n : List (Addr × Obj)} : ∀ z ∈ a1 :: a4 :: d :: v :: r :: k :: n, z ∈ a4 :: d :: r :: v :: k :: a1 :: n := by
  intro z hz; simp only [List.mem_cons] at hz ⊢; rcases hz with h | h | h | h | h | h | h <;> simp [h]
theorem law_five {w : World} {H : Heap} {L fa : Addr} {cd : Value} {m mg mb : Str → Option Value} {mean : ExcName → Option Value} {s : Shared} {Q : Flow → Shared → Prop}
    {oM oh od : Obj} {D aV md R : Addr} {nk nv : Nat} {hdv st : Int} {th ts : Tok} {news : List (Addr × Obj)} {kt : List (Code × Tok)} {vs : List Value} {us : List Val}
    (K0 : Below callerA H [] H) (KX : (hd.heap_39 w.params).In H) (T : Top hd.view_39 (looseW hd.view_39 [Str.ofString "BitParser"]) mean mg mb H) (F : Fr H L s.heap m)
    (N : News H L s.heap ((L + 4, oM) :: (md, od) :: (R, W.listOf #[.none, .none] 0) :: (aV, W.listOf vs.toArray nv) :: (D, W.listOf (kt.map cv).toArray nk) :: (L + 1, oh) :: news))
    (hhd : oh.data = .cell (some (.int hdv th))) (hMd : oM.data = .cell (some (.ref md))) (lo : (md == sysModules) = false) (hm : MeansAre prog w od [])
    (mv : m "values" = some (.ref aV)) (mk : m "kept" = some (.ref D)) (mr : m "root" = some (.ref R)) (ms : m "start" = some (.int st ts)) (hs0 : 0 ≤ st) (hs1 : st ≤ kt.length)
    (hdist : (@Ne Nat md (L + 1)) ∧ (@Ne Nat md (L + 4)) ∧ (@Ne Nat md aV) ∧ (@Ne Nat md R) ∧ (∀ q ∈ (D, W.listOf (kt.map cv).toArray nk) :: news, q.1 ≠ md)) (hRo : (@Ne Nat R (L + 1)) ∧ (@Ne Nat R (L + 4)) ∧ (@Ne Nat R aV) ∧ (∀ q ∈ (D, W.listOf (kt.map cv).toArray nk) :: news, q.1 ≠ R))
    (hfree : (kt.map (·.1)).Pairwise Apart) (hne : ∀ x ∈ kt, x.1 ≠ []) (hlen : ∀ x ∈ kt, x.1.length ≤ 26) (hsz : kt.length ≤ 8)
    (hvl : vs.length = us.length) (hvs : ∀ (i : Nat) v u, vs[i]? = some v → us[i]? = some u → VIn v u) (hcl : kt.length ≤ vs.length)
    (hQ : ∀ h' tk m', Fr H L h' m' → Q (.ret (.bool true)) { s with heap := h', toks := tk }) :
    wpAny (model prog w) (callerA.deeper (lawEnv L fa cd)) (execs (lawBody.drop 5) (lawEnv L fa cd)) Q (fun _ _ => False) s := by
  w_top off
  have _ : (PySem.Challenge.rw_ae5029_01 = PySem.Challenge.rw_ae5029_01 ∧ hd.heap_39 = hd.heap_39) := by (k_fill; exact ⟨rfl, rfl⟩)
  dsimp only [lawEnv, lawScope, lawScopeS]
  conv => enter [3,1]; whnf
  have F1 := fr_at "values" _ F mv
  have F2 := fr_at "kept" _ F1 (by show (if _ then _ else _) = _; rw [if_neg (by decide)]; exact mk)
  have F3 := fr_at "root" _ F2 (by show (if _ then _ else if _ then _ else _) = _; rw [if_neg (by decide), if_neg (by decide)]; exact mr)
  have F4 := fr_at "start" _ F3 (by show (if _ then _ else if _ then _ else if _ then _ else _) = _; rw [if_neg (by decide), if_neg (by decide), if_neg (by decide)]; exact ms)
  clear F F1 F2 F3
  have hkz : (kt.map cv).length = kt.length := List.length_map ..
  have pn : st = (st.toNat : Int) := by omega
  have hsl1 : slicePick (kt.map cv).toArray (some st) none none = ((kt.drop st.toNat).map cv).toArray := by
    have h := slicePick_from' (kt.map cv).toArray st.toNat
    rw [← pn] at h
    rw [h, List.map_drop]
  have hsl2 : slicePick (kt.map cv).toArray none (some st) none = ((kt.take st.toNat).map cv).toArray := by
    have h := slicePick_upto' (kt.map cv).toArray st.toNat
    rw [← pn] at h
    rw [h, List.map_take]
  have hz1 : ((kt.drop st.toNat).map cv).length ≤ 8 := by rw [List.length_map, List.length_drop]; omega
  have hz2 : ((kt.take st.toNat).map cv).length ≤ 8 := by rw [List.length_map, List.length_take]; omega
  k_steps
  refine slice_any (vs := kt.map cv) (n := nk) (ys := (kt.drop st.toNat).map cv) (lo := some st) (hi := none) F4 N (by simp) (.int _ _) .none hsl1 (by omega) ?_
  intro h5 F5 N5
  clear F4 N
  k_steps
  refine slice_any (vs := kt.map cv) (n := nk) (ys := (kt.take st.toNat).map cv) (lo := none) (hi := some st) F5 N5 (by simp) .none (.int _ _) hsl2 (by omega) ?_
  intro h6 F6 N6
  refine add_any F6 N6 (.tail _ (.head _)) (.head _) (by omega) ?_
  intro h7 F7 N7
  have qA : ∀ p ∈ (L + 4, oM) :: (md, od) :: (R, W.listOf #[.none, .none] 0) :: (aV, W.listOf vs.toArray nv) :: (D, W.listOf (kt.map cv).toArray nk) :: (L + 1, oh) :: news, @LT.lt Nat _ p.1 h6.objs.size := fun p hp => Heap.lt_size (N6 p (.tail _ (.tail _ hp))).1
  have hpp : (kt.drop st.toNat ++ kt.take st.toNat).Perm kt := (List.perm_append_comm).trans (by rw [List.take_append_drop])
  rw [← List.map_append] at N7
  generalize kt.drop st.toNat ++ kt.take st.toNat = ct at N7 hpp
  simp only at N7
  generalize Array.size (Heap.objs h6) = oA at *
  have N8 := News.sub N7 (lem2 (r := (R, W.listOf #[.none, .none] 0)) (a1 := (L + 1, oh)) (a4 := (L + 4, oM)) (d := (md, od)) (v := (aV, W.listOf vs.toArray nv)) (k := (D, W.listOf (kt.map cv).toArray nk)))
  clear N7 N6 N5 F6 F5
  have fin : ∀ (ct : List (Code × Tok)) (s' : Shared) (m' : Str → Option Value), ct.Perm kt → Fr H L s'.heap m' →
      News H L s'.heap ((oA, W.listOf (ct.map cv).toArray 0) :: (L + 1, oh) :: (L + 4, oM) :: (md, od) :: (aV, W.listOf vs.toArray nv) :: (R, W.listOf #[.none, .none] 0) :: (D, W.listOf (kt.map cv).toArray nk) :: news) →
      m' "order" = some (.ref oA) → m' "values" = some (.ref aV) → m' "root" = some (.ref R) → (∃ h tk, s' = { s with heap := h, toks := tk }) →
      wpAny (model prog w) (callerA.deeper (lawEnv L fa cd)) (execs (lawBody.drop 7) (lawEnv L fa cd)) Q (fun _ _ => False) s' := by
    rintro ct s' m' hp F N mo mv mr ⟨h, tk, rfl⟩
    have hl : ct.length = kt.length := hp.length_eq
    refine law_for (us := us) (md := md) (oA := oA) (vA := aV) (R := R) (od := od) (ct := ct) (vs := vs) (n₁ := 0) (n₂ := nv) (news := (D, W.listOf (kt.map cv).toArray nk) :: news) K0 KX T F (News.sub N lem3) hhd hMd lo hm mo mv mr ?_ ?_ ?_ ?_ ?_ (by omega) hvl hvs (by omega) fun h' tk m' F' => hQ h' tk m' F'
    · exact ⟨hdist.1, hdist.2.1, Nat.ne_of_lt (qA _ (.tail _ (.head _))), hdist.2.2.1, hdist.2.2.2.1, hdist.2.2.2.2⟩
    · exact ⟨hRo.1, hRo.2.1, Nat.ne_of_lt (qA _ (.tail _ (.tail _ (.head _)))), hRo.2.2.1, hRo.2.2.2⟩
    · exact (hp.map _).symm.pairwise hfree (fun h => Apart.symm h)
    · exact fun x hx => hne x (hp.mem_iff.mp hx)
    · exact fun x hx => hlen x (hp.mem_iff.mp hx)
  iterate 15 walk1
  · iterate 7 walk1
    rename Fr H L _ _ => F9
    rename News H L _ _ => N9
    refine reverse_any (vs := ct.map cv) F9 N9 (.head (fun p hp => Nat.ne_of_lt (qA p (lem4 p hp)))) (by rw [List.length_map]; have := hpp.length_eq; omega) ?_
    intro h10 F10 N10
    rw [← List.map_reverse] at N10
    iterate 1 walk1
    exact fin ct.reverse _ _ (ct.reverse_perm.trans hpp) F10 N10 rfl rfl rfl ⟨_, _, rfl⟩
  · rename Fr H L _ _ => F9
    rename News H L _ _ => N9
    iterate 2 walk1
    exact fin ct _ _ hpp F9 N9 rfl rfl rfl ⟨_, _, rfl⟩
end

-- part W3
section
open PySem PySem.W PyProof.Rows
theorem lem1 {t r d a y k a1 a4 v : Addr × Obj} {n : List (Addr × Obj)} : ∀ x ∈ a4 :: d :: r :: a :: k :: a1 :: n, x ∈ t :: r :: d :: a :: y :: k :: a1 :: a4 :: v :: n := by
  intro x hx; grind
theorem law_three {w : World} {H : Heap} {L fa : Addr} {cd : Value} {m mg mb : Str → Option Value} {mean : ExcName → Option Value} {s : Shared} {Q : Flow → Shared → Prop}
    {oM oh : Obj} {D vA : Addr} {nk nv : Nat} {hdv : Int} {th : Tok} {news : List (Addr × Obj)} {kt : List (Code × Tok)} {vs : List Value} {us : List Val}
    (K0 : Below callerA H [] H) (KX : (hd.heap_39 w.params).In H) (T : Top hd.view_39 (looseW hd.view_39 [Str.ofString "BitParser"]) mean mg mb H) (F : Fr H L s.heap m)
    (N : News H L s.heap ((D, W.listOf (kt.map cv).toArray nk) :: (L + 1, oh) :: (L + 4, oM) :: (vA, W.listOf vs.toArray nv) :: news))
    (hhd : oh.data = .cell (some (.int hdv th))) (hMd : oM.data = .cell none)
    (mv : m "values" = some (.ref vA)) (mk : m "kept" = some (.ref D))
    (hDL : (@Ne Nat D (L + 4)) ∧ (@Ne Nat vA (L + 4)) ∧ ∀ q ∈ news, q.1 ≠ L + 4)
    (hfree : (kt.map (·.1)).Pairwise Apart) (hne : ∀ x ∈ kt, x.1 ≠ []) (hlen : ∀ x ∈ kt, x.1.length ≤ 26) (hsz : kt.length ≤ 8)
    (hvl : vs.length = us.length) (hvs : ∀ (i : Nat) v u, vs[i]? = some v → us[i]? = some u → VIn v u) (hvz : vs.length ≤ 6)
    (hQ : ∀ h' tk m', Fr H L h' m' → Q (.ret (.bool true)) { s with heap := h', toks := tk }) :
    wpAny (model prog w) (callerA.deeper (lawEnv L fa cd)) (execs (lawBody.drop 3) (lawEnv L fa cd)) Q (fun _ _ => False) s := by
  w_top off
  have _ : (PySem.Challenge.rw_ae5029_01 = PySem.Challenge.rw_ae5029_01 ∧ hd.heap_39 = hd.heap_39) := by (k_fill; exact ⟨rfl, rfl⟩)
  dsimp only [lawEnv, lawScope, lawScopeS]
  conv => enter [3,1]; whnf
  have F1 := fr_at "values" _ F mv
  have F2 := fr_at "kept" _ F1 (by show (if _ then _ else _) = _; rw [if_neg (by decide)]; exact mk)
  clear F F1
  obtain ⟨hDL1, hDL2, hDL3⟩ := hDL
  have hkz : (kt.map cv).length = kt.length := List.length_map ..
  k_steps
  refine len_any (vs := kt.map cv) (n := nk) (by assumption) (by simp) (by omega) ?_
  rw [hkz]
  walk1
  walk1
  rename Fr H L _ _ => F3
  rename News H L _ _ => N3
  rename IsRange _ _ _ _ _ _ _ _ => R3
  have q1 := Heap.lt_size (N3 (L + 4, oM) (by simp)).1
  walk1
  refine list_range_any (k := kt.length) rfl F3 N3 R3 (smallRange (by omega)) (sizeRange _) (by omega) ?_
  intro h4 tk4 ys c4 hyl hyi F4 N4
  have q2 := Heap.lt_size (N4 (L + 4, oM) (by simp)).1
  refine add_any (vs := vs) (n := nv) (vs' := ys) (n' := c4) F4 N4 (by simp) (by simp) (by omega) ?_
  intro h5 F5 N5
  clear N4 F4
  simp only at q1 q2
  generalize Array.size (Heap.objs h4) = aV at *
  k_steps
  rename Fr H L _ _ => F6
  rename News H L _ _ => N6
  rename_i md h10 od lo hs fs hi fi l1 R h11 l2 Dt h12 l3 h13 h14
  generalize hyA : Array.size _ = yA at N6 l1 l2 l3 q1
  refine storeX_C (o := oM) (v₀ := none) (g := fun o => (L + 4, o) :: (md, od) :: (R, W.listOf #[.none, .none] 0) :: (aV, W.listOf (vs ++ ys).toArray 0) :: (D, W.listOf (kt.map cv).toArray nk) :: (L + 1, oh) :: news) F6 (News.sub N6 lem1) (by rfl) (.head ?_) hMd ?_
  · intro p hp
    simp only [List.mem_cons] at hp
    rcases hp with rfl | rfl | rfl | rfl | rfl | hp
    · exact Nat.ne_of_gt l1.2.2.2.2.1
    · exact Nat.ne_of_gt l2.2.2.2.2.2.1
    · exact Nat.ne_of_gt q2
    · exact hDL1
    · exact Nat.ne_of_lt (Nat.lt_succ_of_lt (Nat.lt_succ_of_lt (Nat.lt_succ_self _)))
    · exact hDL3 p hp
  have hfv : (vs ++ ys).length = (us ++ (List.range kt.length).map fun (i : Nat) => Val.int (i : Int)).length := by simp [hvl, hyl]
  have hfs : ∀ (i : Nat) v u, (vs ++ ys)[i]? = some v → (us ++ (List.range kt.length).map fun (i : Nat) => Val.int (i : Int))[i]? = some u → VIn v u := by
    intro i v u h1 h2
    by_cases hi : i < vs.length
    · rw [List.getElem?_append_left hi] at h1
      rw [List.getElem?_append_left (by omega)] at h2
      exact hvs i v u h1 h2
    · rw [List.getElem?_append_right (by omega)] at h1 h2
      obtain ⟨t, rfl⟩ := hyi _ _ h1
      rw [← hvl] at h2
      rw [List.getElem?_map] at h2
      have hlt : i - vs.length < kt.length := by have := (List.getElem?_eq_some_iff.mp h1).1; omega
      rw [List.getElem?_range hlt] at h2
      simp only [Option.map_some, Option.some.injEq] at h2
      rw [← h2, Int.zero_add]
      exact .int _ _
  have fin : ∀ (oM' : Obj) (s' : Shared) (st : Int) (m' : Str → Option Value) {ts : Tok}, Fr H L s'.heap m' →
      News H L s'.heap ((L + 4, oM') :: (md, od) :: (R, W.listOf #[.none, .none] 0) :: (aV, W.listOf (vs ++ ys).toArray 0) :: (D, W.listOf (kt.map cv).toArray nk) :: (L + 1, oh) :: news) →
      oM'.data = .cell (some (.ref md)) → m' "values" = some (.ref aV) → m' "kept" = some (.ref D) → m' "root" = some (.ref R) → m' "start" = some (.int st ts) → 0 ≤ st → st ≤ kt.length → (∃ h tk, s' = { s with heap := h, toks := tk }) →
      wpAny (model prog w) (callerA.deeper (lawEnv L fa cd)) (execs (lawBody.drop 5) (lawEnv L fa cd)) Q (fun _ _ => False) s' := by
    rintro oM' s' st m' ts F N hMd' mv mk mr ms hs0 hs1 ⟨h, tk, rfl⟩
    refine law_five (us := us ++ (List.range kt.length).map fun (i : Nat) => Val.int (i : Int)) (md := md) (aV := aV) (R := R) (od := od) (kt := kt) (vs := vs ++ ys) (nv := 0) (nk := nk) K0 KX T F N hhd hMd' lo ⟨⟨[], hs, .nil⟩⟩ mv mk mr ms hs0 hs1 ?_ ?_ hfree hne hlen hsz hfv hfs (by rw [List.length_append]; omega) fun h' tk m' F' => hQ h' tk m' F'
    · refine ⟨Nat.ne_of_gt l1.2.2.2.1, Nat.ne_of_gt l1.2.2.2.2.1, Nat.ne_of_gt l1.1, Nat.ne_of_lt l2.1, fun q hq => ?_⟩
      rcases List.mem_cons.mp hq with rfl | hq
      · exact Nat.ne_of_lt l1.2.2.1
      · exact Nat.ne_of_lt (allLt_mem l1.2.2.2.2.2.2 q hq)
    · refine ⟨Nat.ne_of_gt l2.2.2.2.2.1, Nat.ne_of_gt l2.2.2.2.2.2.1, Nat.ne_of_gt l2.2.1, fun q hq => ?_⟩
      rcases List.mem_cons.mp hq with rfl | hq
      · exact Nat.ne_of_lt l2.2.2.2.1
      · exact Nat.ne_of_lt (allLt_mem l2.2.2.2.2.2.2.2 q hq)
  intro h7 oM' F7 N7 hMd'
  walk1
  walk1
  walk1
  walk1
  walk1
  walk1
  walk1
  walk1
  walk1
  walk1
  walk1
  walk1
  walk1
  · rename _ = true => hem
    have hk0 : kt.length = 0 := by rw [← hkz]; exact List.isEmpty_iff_length_eq_zero.mp hem
    iterate 3 walk1
    rename Fr H L _ _ => F9
    rename News H L _ _ => N9
    exact fin _ _ 0 _ F9 N9 hMd' rfl rfl rfl rfl (by omega) (by omega) ⟨_, _, rfl⟩
  · rename _ = false => hem
    have hk0 : kt.length ≠ 0 := fun e => by
      have : (kt.map cv).isEmpty = true := List.isEmpty_iff_length_eq_zero.mpr (by omega)
      rw [hem] at this; cases this
    have hcp : (0 : Int) < kt.length := by omega
    k_steps
    refine len_any (vs := kt.map cv) (n := nk) (by assumption) (by simp) (by omega) ?_
    rw [hkz]
    have hj0 : 0 ≤ hdv.fmod kt.length := Int.fmod_nonneg_of_pos _ hcp
    have hj1 : hdv.fmod kt.length < kt.length := Int.fmod_lt_of_pos _ hcp
    iterate 2 walk1
    rename Fr H L _ _ => F9
    rename News H L _ _ => N9
    exact fin _ _ _ _ F9 N9 hMd' rfl rfl rfl rfl hj0 (by omega) ⟨_, _, rfl⟩
end

-- part W2
section
open PySem PySem.W PyProof.Rows
theorem lek1 {d a1 a2 a4 k v : Addr × Obj} {n : List (Addr × Obj)} : ∀ z ∈ d :: a1 :: a4 :: v :: k :: a2 :: n, z ∈ d :: a1 :: a2 :: a4 :: k :: v :: n := by
  intro z hz; simp only [List.mem_cons] at hz ⊢; rcases hz with h | h | h | h | h | h | h <;> simp [h]
theorem law_mid {w : World} {H : Heap} {L fa : Addr} {cd : Value} {m mg mb : Str → Option Value} {mean : ExcName → Option Value} {s : Shared} {Q : Flow → Shared → Prop}
    {oM oh oC : Obj} {cA vA : Addr} {nc nv : Nat} {hdv : Int} {th : Tok} {news : List (Addr × Obj)} {ct : List (Code × Tok)} {vs : List Value} {us : List Val}
    (K0 : Below callerA H [] H) (KX : (hd.heap_39 w.params).In H) (T : Top hd.view_39 (looseW hd.view_39 [Str.ofString "BitParser"]) mean mg mb H) (F : Fr H L s.heap m)
    (N : News H L s.heap ((L + 1, oh) :: (L + 2, oC) :: (L + 4, oM) :: (cA, W.listOf (ct.map cv).toArray nc) :: (vA, W.listOf vs.toArray nv) :: news))
    (hhd : oh.data = .cell (some (.int hdv th))) (hCd : oC.data = .cell (some (.ref cA))) (hMd : oM.data = .cell none)
    (mv : m "values" = some (.ref vA))
    (hDL1 : @Ne Nat vA (L + 4)) (hDL2 : ∀ q ∈ (cA, W.listOf (ct.map cv).toArray nc) :: (L + 2, oC) :: news, q.1 ≠ L + 4)
    (hfree : (ct.map (·.1)).Pairwise Apart) (hne : ∀ x ∈ ct, x.1 ≠ []) (hlen : ∀ x ∈ ct, x.1.length ≤ 26) (hsz : ct.length ≤ 8)
    (hvl : vs.length = us.length) (hvs : ∀ (i : Nat) v u, vs[i]? = some v → us[i]? = some u → VIn v u) (hvz : vs.length ≤ 6)
    (hQ : ∀ h' tk m', Fr H L h' m' → Q (.ret (.bool true)) { s with heap := h', toks := tk }) :
    wpAny (model prog w) (callerA.deeper (lawEnv L fa cd)) (execs (lawBody.drop 2) (lawEnv L fa cd)) Q (fun _ _ => False) s := by
  w_top off
  have _ : (PySem.Challenge.rw_ae5029_01 = PySem.Challenge.rw_ae5029_01 ∧ hd.heap_39 = hd.heap_39) := by (k_fill; exact ⟨rfl, rfl⟩)
  dsimp only [lawEnv, lawScope, lawScopeS]
  conv => enter [3,1]; whnf
  have F1 := fr_at "values" _ F mv
  clear F
  have hcz : (ct.map cv).length = ct.length := List.length_map ..
  walk1
  refine LCt.Assign_ListComp_T (F₀ := F1) (by rfl) (by with_unfolding_all rfl) (by with_unfolding_all rfl) (by decide) (by rfl) (by decide) (by rfl) (by rfl) (by rfl) ?_
  k_steps
  refine len_any (vs := ct.map cv) (n := nc) (by assumption) (by simp) (by omega) ?_
  rw [hcz]
  walk1
  walk1
  rename Fr H L _ _ => F2
  rename News H L _ _ => N2
  rename IsRange _ _ _ _ _ _ _ _ => R2
  refine LCt.CompSrcT.range (n := ct.length) rfl F2 N2 R2 (smallRange (by omega)) (sizeRange _) (by rw [sizeLine_eq]; omega) ?_
  intro g9
  refine compT_ind (fun j ys nw => nw = (L + 1, oh) :: (L + 2, oC) :: (L + 4, oM) :: (cA, W.listOf (ct.map cv).toArray nc) :: (vA, W.listOf vs.toArray nv) :: news ∧ ∃ kt, ys = List.map cv kt ∧ kt.Sublist (ct.take j)) ⟨rfl, [], rfl, List.nil_sublist _⟩ ?_ ?_
  · rintro j ys nw v It oI C oC' D m₂ h2 tk2 hj ⟨rfl, kt, rfl, hkt⟩ ⟨tv, rfl⟩ hns hm2 F5 N5 off5 ⟨ne5, ne6, ne7⟩
    obtain ⟨⟨c, tc⟩, hck⟩ : ∃ x, ct[j]? = some x := ⟨_, List.getElem?_eq_getElem hj⟩
    have hok : (ct.map cv)[(0 + (j : Int)).toNat]? = some (.str (enc c) tc) := by rw [show (0 + (j : Int)).toNat = j by omega, List.getElem?_map, hck]; rfl
    have hj0 : 0 ≤ (0 + (j : Int)) := by omega
    have hj1 : (0 + (j : Int)) ≤ 8 := by omega
    generalize hiv : (0 + (j : Int)) = iv at *
    have hsz1 : ct.take (j + 1) = ct.take j ++ [(c, tc)] := by rw [List.take_add_one, hck]; rfl
    k_steps
    · refine item_any (vs := ct.map cv) (n := nc) N5 (by simp) hj0 (by omega) hok ?_
      refine compEnd_old F5 N5 off5 trivial ⟨rfl, kt ++ [(c, tc)], by simp [cv], ?_⟩
      rw [hsz1]
      exact hkt.append_right _
    · refine compEnd_old F5 N5 off5 trivial ⟨rfl, kt, rfl, ?_⟩
      rw [hsz1]
      exact hkt.trans (List.sublist_append_left _ _)
  · rintro ys nw ⟨rfl, kt, rfl, hkt⟩
    rw [List.take_length] at hkt
    have hkl : kt.length ≤ ct.length := hkt.length_le
    have hkf : (kt.map (·.1)).Pairwise Apart := hfree.sublist (hkt.map _)
    have hkne : ∀ x ∈ kt, x.1 ≠ [] := fun x hx => hne x (hkt.subset hx)
    have hklen : ∀ x ∈ kt, x.1.length ≤ 26 := fun x hx => hlen x (hkt.subset hx)
    have hkz : (kt.map cv).length = kt.length := List.length_map ..
    unfold LCg.FinA
    intro D h2 tk2 F5 N5 off5
    refine law_three (D := D) (vA := vA) (us := us) (s := { s with heap := h2, toks := tk2 }) K0 KX T F5 (News.sub N5 lek1) hhd hMd rfl rfl ?_ hkf hkne hklen (by omega) hvl hvs hvz (fun h' tk m' F' => hQ h' tk m' F')
    exact ⟨Ne.symm (off1_mem off5 (L + 4, oM) (by simp)), hDL1, hDL2⟩
end

-- part WJ
section
open PySem PySem.W PyProof.Rows
def forBody : List Stmt → List Stmt
  | .For _ _ b _ _ :: _ => b
  | _ => []
def bitsOf : List Stmt → Stmt
  | [_, _, _, f, _] => f
  | _ => .Pass default
def joinOf : List Stmt → Expr
  | .Expr (.Call _ [.BinOp _ _ b _] _ _) _ :: _ => b
  | _ => default
abbrev lawJoin : Expr := joinOf (forBody [bitsOf (forBody (lawBody.drop 1))])
abbrev bv (x : Bool × Tok) : Value := .str (enc [x.1]) x.2
theorem strs_bits : ∀ et : List (Bool × Tok), StrsAre (et.map bv) (et.map fun x => enc [x.1])
  | [] => .nil
  | _ :: et => .cons _ _ (strs_bits et)
theorem join_code : ∀ e : Code, e.length ≤ 3 → Txt.join (Str.ofString "") (e.map fun b => enc [b]) = enc e
  | [], _ => by decide
  | [a], _ => by cases a <;> decide
  | [a, b], _ => by cases a <;> cases b <;> decide
  | [a, b, c], _ => by cases a <;> cases b <;> cases c <;> decide
  | _ :: _ :: _ :: _ :: _, h => absurd h (by simp only [List.length_cons]; omega)
theorem join_bits (et : List (Bool × Tok)) (h : et.length ≤ 3) : Txt.join (Str.ofString "") (et.map fun x => enc [x.1]) = enc (et.map (·.1)) := by
  have := join_code (et.map (·.1)) (by rw [List.length_map]; exact h)
  rw [List.map_map] at this
  exact this
theorem bits_weight : ∀ et : List (Bool × Tok), ((et.map fun x => enc [x.1]).map (·.length)).sum = et.length
  | [] => rfl
  | x :: et => by
    rw [List.map_cons, List.map_cons, List.sum_cons, bits_weight et, enc_length]; simp only [List.length_cons, List.length_nil]; omega
theorem bit_item {k : Int} (h0 : 0 ≤ k) (h1 : k < 2) : Txt.item (Str.ofString "01") k = enc [decide (k = 1)] := by
  have : k = 0 ∨ k = 1 := by omega
  rcases this with rfl | rfl <;> decide

theorem bits_snoc {et : List (Bool × Tok)} {j : Nat} {k : Int} {t : Tok} (het : et.length = j) (h0 : 0 ≤ k) (h1 : k < 2) :
    ∃ et' : List (Bool × Tok), et.map bv ++ [.str (Txt.item (Str.ofString "01") k) t] = et'.map bv ∧ et'.length = j + 1 := by
  refine ⟨et ++ [(decide (k = 1), t)], ?_, by rw [List.length_append, het]; rfl⟩
  rw [List.map_append, bit_item h0 h1]
  rfl
theorem join_ok {w : World} {H : Heap} {L fa : Addr} {cd : Value} {m mg mb : Str → Option Value} {mean : ExcName → Option Value} {s : Shared} {Q : Value → Shared → Prop}
    {oX : Obj} {news : List (Addr × Obj)} {more : Int} {tm : Tok}
    (K0 : Below callerA H [] H) (KX : (hd.heap_39 w.params).In H) (T : Top hd.view_39 (looseW hd.view_39 [Str.ofString "BitParser"]) mean mg mb H)
    (F : Fr H L s.heap m) (N : News H L s.heap ((L + 3, oX) :: news)) (hXd : oX.data = .cell (some (.int more tm)))
    (hQ : ∀ h' tk t (e : Code), e.length ≤ 3 → Fr H L h' m → News H L h' ((L + 3, oX) :: news) → Q (.str (enc e) t) { s with heap := h', toks := tk }) :
    wpAny (model prog w) (callerA.deeper (lawEnv L fa cd)) (eval lawJoin (lawEnv L fa cd)) Q (fun _ _ => False) s := by
  w_top off
  have _ : (PySem.Challenge.rw_ae5029_01 = PySem.Challenge.rw_ae5029_01 ∧ hd.heap_39 = hd.heap_39) := by (k_fill; exact ⟨rfl, rfl⟩)
  dsimp only [lawEnv, lawScope, lawScopeS]
  conv => enter [3,1]; whnf
  walk1
  walk1
  walk1
  walk1
  walk1
  refine LCg.ListComp_U (F₀ := F) (by with_unfolding_all rfl) (by decide) (by rfl) (by decide) (by rfl) ?_
  iterate 13 walk1
  have hn0 : 0 ≤ (more.fdiv 8).fmod 4 := Int.fmod_nonneg_of_pos _ (by decide)
  have hn1 : (more.fdiv 8).fmod 4 < 4 := Int.fmod_lt_of_pos _ (by decide)
  generalize (more.fdiv 8).fmod 4 = n0 at *
  obtain ⟨n, rfl⟩ : ∃ n : Nat, n0 = (n : Int) := ⟨n0.toNat, by omega⟩
  rename Fr H L _ _ => F2
  rename News H L _ _ => N2
  rename IsRange _ _ _ _ _ _ _ _ => R2
  refine LCg.CompSrc.range (n := n) rfl F2 N2 R2 (smallRange (by omega)) (sizeRange _) (by rw [sizeLine_eq]; omega) ?_
  intro g9
  refine comp_ind (fun j ys nw => nw = (L + 3, oX) :: news ∧ ∃ et : List (Bool × Tok), ys = et.map bv ∧ et.length = j) ⟨rfl, [], rfl, rfl⟩ ?_ ?_
  · rintro j ys nw v It oI C oC' D m₂ h2 tk2 hj ⟨rfl, et, rfl, het⟩ ⟨tv, rfl⟩ hns hm2 F5 N5 off5 ⟨ne5, ne6, ne7⟩
    have hj0 : 0 ≤ (0 + (j : Int)) := by omega
    have hj1 : (0 + (j : Int)) ≤ 8 := by omega
    generalize hiv : (0 + (j : Int)) = iv at *
    have hb0 : 0 ≤ (more.fdiv (2 ^ iv.toNat)).fmod 2 := Int.fmod_nonneg_of_pos _ (by decide)
    have hb1 : (more.fdiv (2 ^ iv.toNat)).fmod 2 < 2 := Int.fmod_lt_of_pos _ (by decide)
    k_steps
    exact compEnd_old F5 N5 off5 trivial ⟨rfl, bits_snoc het hb0 hb1⟩
  · rintro ys nw ⟨rfl, et, rfl, het⟩
    unfold LCg.FinE
    intro D h2 tk2 F5 N5 off5
    walk1
    refine join_listW (N5.isList (.head _)) (ys := et.map fun x => enc [x.1]) (by show StrsAre (et.map bv) _; exact strs_bits et) (by decide) ?_ ?_
    · rw [bits_weight, List.length_map]; omega
    intro t' k'
    rw [join_bits et (by omega)]
    exact hQ _ _ _ (et.map (·.1)) (by rw [List.length_map]; omega) F5 (News.sub N5 fun p hp => .tail _ hp)
end

-- part WL
section
open PySem PySem.W PyProof.Rows
structure LoopJ (H : Heap) (L cA vA sl : Addr) (oh oC oM : Obj) (nn : Nat) (its : List Value) (news : List (Addr × Obj)) (i : Nat) (m : Str → Option Value) (nx : List (Addr × Obj))
  (ct : List (Code × Tok)) (vs : List Value) (us : List Val) (nc nv : Nat) (oX : Obj) (ov : Option Value) : Prop where
  nx : nx = (L + 3, oX) :: (L + 1, oh) :: (L + 2, oC) :: (L + 4, oM) :: (cA, W.listOf (ct.map cv).toArray nc) :: (vA, W.listOf vs.toArray nv) :: (sl, W.listOf its.toArray nn) :: news
  hX : oX.data = .cell ov
  free : (ct.map (·.1)).Pairwise Apart
  ne : ∀ x ∈ ct, x.1 ≠ []
  len : ∀ x ∈ ct, x.1.length ≤ 1 + 4 * i
  cl : ct.length = i + 2
  vl : vs.length = i
  ul : us.length = i
  hv : ∀ (j : Nat) v u, vs[j]? = some v → us[j]? = some u → VIn v u
  mv : m "values" = some (.ref vA)

theorem erase_map {α β : Type} (f : α → β) : ∀ (l : List α) (k : Nat), (l.map f).eraseIdx k = (l.eraseIdx k).map f
  | [], _ => rfl
  | _ :: _, 0 => rfl
  | a :: l, k + 1 => by simp only [List.map_cons, List.eraseIdx_cons_succ, erase_map f l k]
theorem lep1 {t x a1 a2 a4 k v l : Addr × Obj} {n : List (Addr × Obj)} : ∀ z ∈ k :: x :: a1 :: a2 :: a4 :: v :: l :: n, z ∈ t :: x :: a1 :: a2 :: a4 :: k :: v :: l :: n := by
  intro z hz; simp only [List.mem_cons] at hz ⊢; rcases hz with h | h | h | h | h | h | h | h <;> simp [h]
theorem leq1 {t k x : Addr × Obj} {n : List (Addr × Obj)} : ∀ z ∈ x :: t :: k :: n, z ∈ t :: k :: x :: n := by
  intro z hz; simp only [List.mem_cons] at hz ⊢; rcases hz with h | h | h | h <;> simp [h]
theorem leq2 {t k x : Addr × Obj} {n : List (Addr × Obj)} : ∀ z ∈ t :: k :: x :: n, z ∈ x :: t :: k :: n := by
  intro z hz; simp only [List.mem_cons] at hz ⊢; rcases hz with h | h | h | h <;> simp [h]
theorem enc_app (a b : Code) : enc a ++ enc b = enc (a ++ b) := by
  show (⟨_ ++ _⟩ : Str) = _
  simp [enc]
theorem enc_zero (a : Code) : enc a ++ Str.ofString "0" = enc (a ++ [false]) := by
  rw [show Str.ofString "0" = enc [false] by decide, enc_app]
theorem enc_oneS (a : Code) : enc a ++ Str.ofString "1" = enc (a ++ [true]) := by
  rw [show Str.ofString "1" = enc [true] by decide, enc_app]
theorem add_enc {prog : Program} {w : World} {A : Around} {E : Value → Shared → Prop} {s : Shared} {a b : Str} {t u : Tok} {Q : Value → Shared → Prop} (hz : a.length + b.length ≤ 1000) (h : ∀ t' tk, Q (.str (a ++ b) t') { s with toks := tk }) :
    wpAny (model prog w) A (binaryOp .Add (.str a t) (.str b u)) Q E s := add_str h (by rw [sizeLine_eq]; omega)
theorem off_all {i k x a1 a2 a4 v l : Addr} {oK oX o1 o2 o4 oV oL : Obj} {n : List (Addr × Obj)} (h1 : @LT.lt Nat _ k i) (h2 : @LT.lt Nat _ x i) (h3 : @LT.lt Nat _ a1 i) (h4 : @LT.lt Nat _ a2 i) (h5 : @LT.lt Nat _ a4 i) (h6 : @LT.lt Nat _ v i) (h7 : @LT.lt Nat _ l i) (h8 : AllLt i n) :
    ∀ p ∈ (k, oK) :: (x, oX) :: (a1, o1) :: (a2, o2) :: (a4, o4) :: (v, oV) :: (l, oL) :: n, p.1 ≠ i := by
  intro p hp
  simp only [List.mem_cons] at hp
  rcases hp with rfl | rfl | rfl | rfl | rfl | rfl | rfl | hp
  · exact Nat.ne_of_lt h1
  · exact Nat.ne_of_lt h2
  · exact Nat.ne_of_lt h3
  · exact Nat.ne_of_lt h4
  · exact Nat.ne_of_lt h5
  · exact Nat.ne_of_lt h6
  · exact Nat.ne_of_lt h7
  · exact Nat.ne_of_lt (allLt_mem h8 p hp)
theorem lep9 {x a1 a2 a4 k v l : Addr × Obj} {n : List (Addr × Obj)} : ∀ z ∈ x :: a1 :: a2 :: a4 :: k :: v :: l :: n, z ∈ k :: x :: a1 :: a2 :: a4 :: v :: l :: n := by
  intro z hz; simp only [List.mem_cons] at hz ⊢; rcases hz with h | h | h | h | h | h | h | h <;> simp [h]
theorem p_ok (v : Int) (h0 : 0 ≤ v) (h1 : v < 1000) : PyData.strOk (Str.ofString "p" ++ Str.ofString (toString v)) = true := by
  obtain ⟨n, rfl⟩ : ∃ n : Nat, v = n := ⟨v.toNat, by omega⟩
  have hn : n < 1000 := by omega
  have : ∀ n : Fin 1000, PyData.strOk (Str.ofString "p" ++ Str.ofString (toString (n.1 : Int))) = true := by decide +kernel
  exact this ⟨n, hn⟩
theorem law_turn {w : World} {H : Heap} {L fa : Addr} {cd : Value} {m mg mb : Str → Option Value} {mean : ExcName → Option Value} {s : Shared} {Q : Flow → Shared → Prop}
    {oM oh oC : Obj} {cA vA sl : Addr} {nn : Nat} {its : List Value} {news own : List (Addr × Obj)} {i : Nat} {n : Int} {t : Tok}
    {ct : List (Code × Tok)} {vs : List Value} {us : List Val} {nc nv : Nat} {oX : Obj} {ov : Option Value}
    (K0 : Below callerA H [] H) (KX : (hd.heap_39 w.params).In H) (T : Top hd.view_39 (looseW hd.view_39 [Str.ofString "BitParser"]) mean mg mb H)
    (F : Fr H L s.heap (fun y => if y = Str.ofString "number" then some (.int n t) else m y))
    (N : News H L s.heap ((L + 3, oX) :: (L + 1, oh) :: (L + 2, oC) :: (L + 4, oM) :: (cA, W.listOf (ct.map cv).toArray nc) :: (vA, W.listOf vs.toArray nv) :: (sl, W.listOf its.toArray nn) :: (news ++ own)))
    (hCd : oC.data = .cell (some (.ref cA))) (hXd : oX.data = .cell ov) (mv : m "values" = some (.ref vA)) (hi : i < 6) (hcl : ct.length = i + 2) (hvl : vs.length = i)
    (hlen : ∀ x ∈ ct, x.1.length ≤ 1 + 4 * i)
    (hc : (@Ne Nat cA (L + 1)) ∧ (@Ne Nat cA (L + 2)) ∧ (@Ne Nat cA (L + 3)) ∧ (@Ne Nat cA (L + 4)) ∧ (@Ne Nat cA vA) ∧ (@Ne Nat cA sl)) (hc' : ∀ q ∈ news ++ own, q.1 ≠ cA)
    (hx : (@Ne Nat vA (L + 3)) ∧ (@Ne Nat sl (L + 3))) (hx' : ∀ q ∈ news ++ own, q.1 ≠ L + 3)
    (hv : (@Ne Nat vA (L + 1)) ∧ (@Ne Nat vA (L + 2)) ∧ (@Ne Nat vA (L + 4)) ∧ (@Ne Nat vA sl)) (hv' : ∀ q ∈ news ++ own, q.1 ≠ vA)
    (hQ : ∀ h' tk m' oX' ov' (j : Nat) c tc (e1 e2 : Code) t1 t2 v u nc' nv', Fr H L h' m' → ct[j]? = some (c, tc) → e1.length ≤ 3 → e2.length ≤ 3 → VIn v u → oX'.data = .cell ov' → m' "values" = some (.ref vA) →
      News H L h' ((L + 3, oX') :: (L + 1, oh) :: (L + 2, oC) :: (L + 4, oM) :: (cA, W.listOf ((ct.eraseIdx j ++ [(c ++ [false] ++ e1, t1), (c ++ [true] ++ e2, t2)]).map cv).toArray nc') :: (vA, W.listOf (vs ++ [v]).toArray nv') :: (sl, W.listOf its.toArray nn) :: (news ++ own)) →
      Q .next { s with heap := h', toks := tk }) :
    wpAny (model prog w) (callerA.deeper (lawEnv L fa cd)) (execs (forBody (lawBody.drop 1)) (lawEnv L fa cd)) Q (fun _ _ => False) s := by
  w_top off
  have _ : (PySem.Challenge.rw_ae5029_01 = PySem.Challenge.rw_ae5029_01 ∧ hd.heap_39 = hd.heap_39) := by (k_fill; exact ⟨rfl, rfl⟩)
  dsimp only [lawEnv, lawScope, lawScopeS]
  conv => enter [3,1]; whnf
  have F1 := fr_at "values" _ F (by show (if _ then _ else _) = _; rw [if_neg (by decide)]; exact mv)
  clear F
  have hcz : (ct.map cv).length = i + 2 := by rw [List.length_map]; exact hcl
  k_steps
  refine len_any (vs := ct.map cv) (n := nc) (by assumption) (by simp) (by omega) ?_
  rw [hcz]
  have hcp : (0 : Int) < ((i + 2 : Nat) : Int) := by omega
  k_steps
  generalize n.fmod (10 ^ Int.toNat 9) = r at *
  have hj0 : 0 ≤ (r.fdiv 3).fmod ((i + 2 : Nat) : Int) := Int.fmod_nonneg_of_pos _ hcp
  have hj1 : (r.fdiv 3).fmod ((i + 2 : Nat) : Int) < ((i + 2 : Nat) : Int) := Int.fmod_lt_of_pos _ hcp
  have hv0 : 0 ≤ (r.fdiv 3).fmod 1000 := Int.fmod_nonneg_of_pos _ (by decide)
  have hv1 : (r.fdiv 3).fmod 1000 < 1000 := Int.fmod_lt_of_pos _ (by decide)
  generalize (r.fdiv 3).fmod ((i + 2 : Nat) : Int) = j at *
  generalize (r.fdiv 3).fmod 1000 = val at *
  generalize r.fdiv 3000 = more at *
  obtain ⟨⟨c, tc⟩, hck⟩ : ∃ x, ct[j.toNat]? = some x := ⟨_, List.getElem?_eq_getElem (by omega)⟩
  have hok : (ct.map cv)[j.toNat]? = some (.str (enc c) tc) := by rw [List.getElem?_map, hck]; rfl
  rename Fr H L _ _ => F2
  rename News H L _ _ => N2
  rename _ = Data.cell (some (Value.int more _)) => hX2
  obtain ⟨hc1, hc2, hc3, hc4, hc5, hc6⟩ := hc
  obtain ⟨hv2, hv3, hv4, hv5⟩ := hv
  obtain ⟨hx1, hx2⟩ := hx
  refine pop_any (vs := ct.map cv) (n := nc) F2 (News.sub N2 lep1) hj0 (by omega) hok (.head ?_) (by omega) ?_
  · intro p hp
    simp only [List.mem_cons] at hp
    rcases hp with rfl | rfl | rfl | rfl | rfl | rfl | hp
    · exact Ne.symm hc3
    · exact Ne.symm hc1
    · exact Ne.symm hc2
    · exact Ne.symm hc4
    · exact Ne.symm hc5
    · exact Ne.symm hc6
    · exact hc' p hp
  intro h3 F3 N3
  have herase : (ct.map cv).eraseIdx j.toNat = (ct.eraseIdx j.toNat).map cv := erase_map cv ct j.toNat
  rw [herase] at N3
  have hcc : (enc c).length ≤ 30 := by rw [enc_length]; have := hlen _ (List.mem_of_getElem? hck); simp only at this; omega
  have hez : ((ct.eraseIdx j.toNat).map cv).length ≤ 8 := by rw [List.length_map]; have := List.length_eraseIdx_le ct j.toNat; omega
  obtain ⟨ct1, hct1⟩ : ∃ x, x = ct.eraseIdx j.toNat := ⟨_, rfl⟩
  rw [← hct1] at herase hez N3
  clear N2 F2
  iterate 14 walk1
  iterate 5 walk1
  rename Fr H _ _ _ => F4
  rename News H _ _ _ => N4
  rename cA < _ ∧ _ ∧ _ ∧ _ => hi1
  refine join_ok K0 KX T F4 (News.sub N4 leq1) hX2 ?_
  intro h5 tk5 t5 e1 he1 F5 N5
  have N6 := News.sub N5 leq2
  clear N4 F4 N5
  refine add_enc (by rw [enc_zero, enc_length, enc_length]; rw [enc_length] at hcc; simp only [List.length_append, List.length_cons, List.length_nil]; omega) fun t6 tk6 => ?_
  rw [enc_zero, enc_app]
  iterate 3 walk1
  rename Fr H _ _ _ => F7
  rename News H _ _ _ => N7
  have hap1 : (ct1.map cv).toArray.push (.str (enc (c ++ [false] ++ e1)) t6) = ((ct1 ++ [(c ++ [false] ++ e1, t6)]).map cv).toArray := by simp
  rw [hap1] at N7
  have hez2 : ((ct1 ++ [(c ++ [false] ++ e1, t6)]).map cv).length ≤ 9 := by rw [List.length_map] at hez ⊢; rw [List.length_append]; simp only [List.length_cons, List.length_nil]; omega
  iterate 9 walk1
  clear hX2
  rename Fr H _ _ _ => F8
  rename News H _ _ _ => N8
  rename _ = Data.cell (some (Value.int (more.fdiv 32) _)) => hX2
  refine UnrEnd.intro F8 N8 _ (fun _ h => h) (off_all hi1.1 hi1.2.1 hi1.2.2.1 hi1.2.2.2.1 hi1.2.2.2.2.1 hi1.2.2.2.2.2.1 hi1.2.2.2.2.2.2.1 hi1.2.2.2.2.2.2.2) ?_
  generalize more.fdiv 32 = more2 at *
  iterate 13 walk1
  rename Fr H _ _ _ => F4
  rename News H _ _ _ => N4
  rename cA < _ ∧ _ ∧ _ ∧ _ => hi2
  refine join_ok K0 KX T F4 (News.sub N4 leq1) hX2 ?_
  intro h5 tk5 t5 e2 he2 F5 N5
  have N6 := News.sub N5 leq2
  clear N4 F4 N5
  refine add_enc (by rw [enc_oneS, enc_length, enc_length]; rw [enc_length] at hcc; simp only [List.length_append, List.length_cons, List.length_nil]; omega) fun t7 tk7 => ?_
  rw [enc_oneS, enc_app]
  iterate 3 walk1
  rename Fr H _ _ _ => F7
  rename News H _ _ _ => N7
  have hap2 : ((ct1 ++ [(c ++ [false] ++ e1, t6)]).map cv).toArray.push (.str (enc (c ++ [true] ++ e2)) t7) = ((ct1 ++ [(c ++ [false] ++ e1, t6), (c ++ [true] ++ e2, t7)]).map cv).toArray := by simp
  rw [hap2] at N7
  iterate 9 walk1
  clear hX2
  rename Fr H _ _ _ => F8
  rename News H _ _ _ => N8
  rename _ = Data.cell (some (Value.int (more2.fdiv 32) _)) => hX2
  refine UnrEnd.intro F8 N8 _ (fun _ h => h) (off_all hi2.1 hi2.2.1 hi2.2.2.1 hi2.2.2.2.1 hi2.2.2.2.2.1 hi2.2.2.2.2.2.1 hi2.2.2.2.2.2.2.1 hi2.2.2.2.2.2.2.2) ?_
  have hvz : vs.length ≤ 10 := by omega
  k_steps
  · subst hct1
    rename Fr H _ _ _ => F9
    rename News H _ _ _ => N9
    rw [show ∀ z : Value, vs.toArray.push z = (vs ++ [z]).toArray from fun z => by simp] at N9
    exact hQ _ _ _ _ _ j.toNat c tc e1 e2 t6 t7 (.int val _) _ _ _ F9 hck he1 he2 (.int _ _) hX2 rfl (News.sub N9 lep9)
  · subst hct1
    rename Fr H _ _ _ => F9
    rename News H _ _ _ => N9
    rw [show ∀ z : Value, vs.toArray.push z = (vs ++ [z]).toArray from fun z => by simp] at N9
    refine hQ _ _ _ _ _ j.toNat c tc e1 e2 t6 t7 (.str _ _) _ _ _ F9 hck he1 he2 (.str _ _ ?_) hX2 rfl (News.sub N9 lep9)
    exact p_ok _ hv0 hv1
end

-- part PG
section
open PySem PySem.W PySem.Spec PySem.Calls PyProof.Rows
theorem apart_one {c d x : Code} (h : Apart c d) : Apart d (c ++ x) := by
  refine ⟨fun p => ?_, fun p => h.1 ((List.prefix_append c x).trans p)⟩
  rcases List.prefix_or_prefix_of_prefix p (List.prefix_append c x) with q | q
  · exact h.2 q
  · exact h.1 q
theorem apart_two (c e1 e2 : Code) : Apart (c ++ [false] ++ e1) (c ++ [true] ++ e2) := by
  simp only [Apart, List.append_assoc, List.prefix_append_right_inj, List.singleton_append, List.cons_prefix_cons]
  simp
theorem erase_perm {α : Type} {x : α} : ∀ {l : List α} {j : Nat}, l[j]? = some x → (x :: l.eraseIdx j).Perm l
  | [], _, h => by simp at h
  | a :: l, 0, h => by simp at h; subst h; exact List.Perm.refl _
  | a :: l, j + 1, h => by
    have ih := erase_perm (l := l) (j := j) (by simpa using h)
    rw [List.eraseIdx_cons_succ]
    exact (List.Perm.swap a x _).trans (ih.cons a)
theorem apart_grow {α : Type} {ct : List (Code × α)} {j : Nat} {c e1 e2 : Code} {tc t1 t2 : α} (h : (ct.map (·.1)).Pairwise Apart) (hj : ct[j]? = some (c, tc)) :
    ((ct.eraseIdx j ++ [(c ++ [false] ++ e1, t1), (c ++ [true] ++ e2, t2)]).map (·.1)).Pairwise Apart := by
  have hp : ((c, tc) :: ct.eraseIdx j).Perm ct := erase_perm hj
  have h1 := (hp.map (·.1)).symm.pairwise h fun q => Apart.symm q
  rw [List.map_cons] at h1
  have h2 := List.pairwise_cons.mp h1
  rw [List.map_append]
  refine List.pairwise_append.mpr ⟨h2.2, ?_, fun d hd x hx => ?_⟩
  · simp only [List.map_cons, List.map_nil]
    refine List.pairwise_cons.mpr ⟨fun x hx => ?_, List.pairwise_singleton _ _⟩
    rw [List.mem_singleton.mp hx]
    exact apart_two c e1 e2
  · simp only [List.map_cons, List.map_nil, List.mem_cons, List.not_mem_nil, or_false] at hx
    rcases hx with rfl | rfl
    · rw [List.append_assoc]; exact apart_one (h2.1 d hd)
    · rw [List.append_assoc]; exact apart_one (h2.1 d hd)
theorem grow_len {α : Type} {ct : List (Code × α)} {j i : Nat} {c e1 e2 : Code} {tc t1 t2 : α} (hl : ∀ x ∈ ct, x.1.length ≤ 1 + 4 * i) (hn : ∀ x ∈ ct, x.1 ≠ []) (hj : ct[j]? = some (c, tc)) (h1 : e1.length ≤ 3) (h2 : e2.length ≤ 3) :
    ∀ x ∈ ct.eraseIdx j ++ [(c ++ [false] ++ e1, t1), (c ++ [true] ++ e2, t2)], x.1 ≠ [] ∧ x.1.length ≤ 1 + 4 * (i + 1) := by
  intro x hx
  have hc := hl _ (List.mem_of_getElem? hj)
  simp only at hc
  rcases List.mem_append.mp hx with hx | hx
  · have hm := List.mem_of_mem_eraseIdx hx
    have := hl x hm
    exact ⟨hn x hm, by omega⟩
  · simp only [List.mem_cons, List.not_mem_nil, or_false] at hx
    rcases hx with rfl | rfl
    · refine ⟨by simp, ?_⟩
      simp only [List.length_append, List.length_cons, List.length_nil]; omega
    · refine ⟨by simp, ?_⟩
      simp only [List.length_append, List.length_cons, List.length_nil]; omega
end

-- part WM
section
open PySem PySem.W PyProof.Rows
theorem ints_shape {vs : List Value} {ns : List Int} (h : IntsAre vs ns) : ∀ v ∈ vs, ∃ n t, v = .int n t := by
  induction h with
  | nil => exact fun v hv => nomatch hv
  | cons k t _ ih =>
    intro v hv
    rcases List.mem_cons.mp hv with rfl | hv
    · exact ⟨k, t, rfl⟩
    · exact ih v hv
theorem lem5 {a1 a2 a3 a4 k v l : Addr × Obj} : ∀ z ∈ [a3, a1, a2, a4, k, v, l], z ∈ l :: [a1, a2, a3, a4, k, v] := by
  intro z hz; simp only [List.mem_cons, List.not_mem_nil, or_false] at hz ⊢; rcases hz with h | h | h | h | h | h | h <;> simp [h]
theorem lem6 {a1 a2 a3 a4 k v l : Addr × Obj} : ∀ z ∈ a1 :: a2 :: a4 :: k :: v :: [a3, l], z ∈ [a3, a1, a2, a4, k, v, l] := by
  intro z hz; simp only [List.mem_cons, List.not_mem_nil, or_false] at hz ⊢; rcases hz with h | h | h | h | h | h | h <;> simp [h]

theorem lem7 {a b c d e f g : Addr × Obj} {own : List (Addr × Obj)} : ∀ z ∈ [a, b, c, d, e, f, g], z ∈ a :: b :: c :: d :: e :: f :: g :: ([] ++ own) := by
  intro z hz; simp only [List.mem_cons, List.not_mem_nil, or_false] at hz ⊢; rcases hz with h | h | h | h | h | h | h <;> simp [h]
theorem lem8 {a b c d e f g : Addr × Obj} {own : List (Addr × Obj)} : ∀ z ∈ own, z ∈ a :: b :: c :: d :: e :: f :: g :: ([] ++ own) := by
  intro z hz; simp [hz]
theorem law_loop {w : World} {H : Heap} {L fa : Addr} {cd : Value} {m mg mb : Str → Option Value} {mean : ExcName → Option Value} {s : Shared} {Q : Flow → Shared → Prop}
    {oM oh oC oX : Obj} {cA vA sA : Addr} {hdv : Int} {th : Tok} {ct : List (Code × Tok)} {svs : List Value} {ns : List Int} {ov : Option Value}
    (K0 : Below callerA H [] H) (KX : (hd.heap_39 w.params).In H) (T : Top hd.view_39 (looseW hd.view_39 [Str.ofString "BitParser"]) mean mg mb H) (F : Fr H L s.heap m)
    (N : News H L s.heap [(L + 1, oh), (L + 2, oC), (L + 3, oX), (L + 4, oM), (cA, W.listOf (ct.map cv).toArray 0), (vA, W.listOf #[] 0)])
    (hhd : oh.data = .cell (some (.int hdv th))) (hCd : oC.data = .cell (some (.ref cA))) (hMd : oM.data = .cell none) (hXd : oX.data = .cell ov)
    (mv : m "values" = some (.ref vA)) (ms : m "script" = some (.ref sA)) (hl : H.IsList sA svs.toArray) (hi : IntsAre svs ns) (hz : svs.length ≤ 1000)
    (hc1 : @LT.lt Nat _ (L + 4) cA) (hc2 : @LT.lt Nat _ cA vA)
    (hct : ∃ t0 t1, ct = [([false], t0), ([true], t1)])
    (hQ : ∀ h' tk m', Fr H L h' m' → Q (.ret (.bool true)) { s with heap := h', toks := tk }) :
    wpAny (model prog w) (callerA.deeper (lawEnv L fa cd)) (execs (lawBody.drop 1) (lawEnv L fa cd)) Q (fun _ _ => False) s := by
  w_top off
  have _ : (PySem.Challenge.rw_ae5029_01 = PySem.Challenge.rw_ae5029_01 ∧ hd.heap_39 = hd.heap_39) := by (k_fill; exact ⟨rfl, rfl⟩)
  dsimp only [lawEnv, lawScope, lawScopeS]
  conv => enter [3,1]; whnf
  have F1 := fr_at "values" _ F mv
  have F2 := fr_at "script" _ F1 (by show (if _ then _ else _) = _; rw [if_neg (by decide)]; exact ms)
  clear F F1
  iterate 10 walk1
  rename Fr H L _ _ => F3
  have hls : s.heap.IsList sA svs.toArray := hl.at fun o e => F3.keep _ o e
  have hsl : slicePick svs.toArray (some 1) (some 7) none = ((svs.drop 1).take 6).toArray := by
    rw [slicePick_plain]
    congr 1
    show List.take (clipAt svs.toArray.size 7 - clipAt svs.toArray.size 1) (List.drop (clipAt svs.toArray.size 1) svs) = _
    have h1 := clipAt_nat svs.toArray.size 1
    have h7 := clipAt_nat svs.toArray.size 7
    rw [List.size_toArray] at h1 h7 ⊢
    rw [show ((1 : Nat) : Int) = 1 from rfl] at h1
    rw [show ((7 : Nat) : Int) = 7 from rfl] at h7
    rw [h1, h7]
    cases svs with
    | nil => rfl
    | cons a l =>
      have e1 : min 1 (a :: l).length = 1 := by simp only [List.length_cons]; omega
      rw [e1]
      simp only [List.drop_succ_cons, List.drop_zero, List.length_cons]
      by_cases h : l.length ≤ 6
      · rw [List.take_of_length_le (by omega), List.take_of_length_le h]
      · congr 1; omega
  refine slice_list F3 N hls (.int _ _) (.int _ _) ?_ (hsz := by rw [List.size_toArray, sizeLine_eq]; omega)
  intro h2 F4 N4
  rw [hsl] at N4
  have hint : ∀ (i : Nat) v, ((svs.drop 1).take 6)[i]? = some v → ∃ n t, v = .int n t := fun i v hv => ints_shape hi v (List.mem_of_mem_drop (List.mem_of_mem_take (List.mem_of_getElem? hv)))
  have hl6 : ((svs.drop 1).take 6).length ≤ 6 := by rw [List.length_take]; omega
  generalize (svs.drop 1).take 6 = its at *
  have qA : ∀ p ∈ [(L + 1, oh), (L + 2, oC), (L + 3, oX), (L + 4, oM), (cA, W.listOf (ct.map cv).toArray 0), (vA, W.listOf #[] 0)], @LT.lt Nat _ p.1 (s.heap.objs.size + 1) := fun p hp => Nat.lt_succ_of_lt (Heap.lt_size (N p hp).1)
  have qc := qA _ (.tail _ (.tail _ (.tail _ (.tail _ (.head _)))))
  have qv := qA _ (.tail _ (.tail _ (.tail _ (.tail _ (.tail _ (.head _))))))
  have q4 := qA _ (.tail _ (.tail _ (.tail _ (.head _))))
  simp only at qc qv q4
  show wpAny _ _ (pyIter (.ref (s.heap.objs.size + 1))) _ _ _
  generalize hslA : s.heap.objs.size + 1 = sl at *
  clear F3 N
  obtain ⟨t0, t1, rfl⟩ := hct
  refine kdl_iter (fun i m nx => ∃ ct vs us nc nv oX ov, LoopJ H L cA vA sl oh oC oM 0 its [] i m nx ct vs us nc nv oX ov) rfl (.tail _ (.tail _ (.tail _ (.tail _ (.tail _ (.tail _ (.head _))))))) F4 (News.sub N4 lem5) ⟨_, [], [], 0, 0, oX, ov, ⟨rfl, hXd, ?_, ?_, ?_, rfl, rfl, rfl, fun j v u h => by simp at h, rfl⟩⟩ ?_ ?_
  · refine List.pairwise_cons.mpr ⟨fun x hx => ?_, List.pairwise_singleton _ _⟩
    rw [List.mem_singleton.mp hx]
    exact apart_two [] [] []
  · intro x hx
    simp only [List.mem_cons, List.not_mem_nil, or_false] at hx
    rcases hx with rfl | rfl <;> simp
  · intro x hx
    simp only [List.mem_cons, List.not_mem_nil, or_false] at hx
    rcases hx with rfl | rfl <;> simp
  · rintro i v m₁ nx h tk own hv hown hmem ⟨ct, vs, us, nc, nv, oX, ov, J⟩ F5 N5
    obtain ⟨n, t, rfl⟩ := hint i v hv
    have hi6 : i < 6 := by have := (List.getElem?_eq_some_iff.mp hv).1; omega
    have hnx := J.nx
    subst hnx
    refine law_turn (s := { s with heap := h, toks := tk }) (news := []) (own := own) (i := i) (n := n) (t := t) (ct := ct) (vs := vs) (us := us) (nc := nc) (nv := nv) (oX := oX) (ov := ov) (its := its) (nn := 0) (sl := sl) (cA := cA) (vA := vA) (oh := oh) (oC := oC) (oM := oM) (m := m₁) K0 KX T F5 N5 hCd J.hX J.mv hi6 J.cl J.vl J.len ?_ ?_ ?_ ?_ ?_ ?_ ?_
    · exact ⟨by omega, by omega, by omega, by omega, by omega, by omega⟩
    · exact fun q hq => hown q hq cA (by simp)
    · exact ⟨by omega, by omega⟩
    · exact fun q hq => hown q hq (L + 3) (by simp)
    · exact ⟨by omega, by omega, by omega, by omega⟩
    · exact fun q hq => hown q hq vA (by simp)
    · intro h' tk' m' oX' ov' j c tc e1 e2 t1 t2 v u nc' nv' F6 hj h1 h2 hv hX mv N6
      have hgl := grow_len (t1 := t1) (t2 := t2) J.len J.ne hj h1 h2
      refine close_end (tk := tk') F6 N6 ⟨_, ⟨.tail _ (.tail _ (.tail _ (.tail _ (.tail _ (.tail _ (.head _)))))), ⟨_, vs ++ [v], us ++ [u], nc', nv', oX', ov', ⟨rfl, hX, apart_grow J.free hj, fun x hx => (hgl x hx).1, fun x hx => (hgl x hx).2, ?_, ?_, ?_, ?_, mv⟩⟩⟩, lem7, hown⟩ lem8
      · have := J.cl
        have hlt := (List.getElem?_eq_some_iff.mp hj).1
        rw [List.length_append, List.length_eraseIdx_of_lt hlt]
        simp only [List.length_cons, List.length_nil]; omega
      · rw [List.length_append, J.vl]; rfl
      · rw [List.length_append, J.ul]; rfl
      · intro k x y hx hy
        have hvu : vs.length = us.length := by rw [J.vl, J.ul]
        by_cases hk : k < vs.length
        · rw [List.getElem?_append_left hk] at hx
          rw [List.getElem?_append_left (by omega)] at hy
          exact J.hv k x y hx hy
        · rw [List.getElem?_append_right (by omega)] at hx hy
          rw [← hvu] at hy
          have hk0 : k - vs.length = 0 := by
            have := (List.getElem?_eq_some_iff.mp hx).1
            simp only [List.length_cons, List.length_nil] at this; omega
          rw [hk0] at hx hy
          simp at hx hy
          subst hx hy
          exact hv
  · rintro m₁ nx h tk ⟨ct, vs, us, nc, nv, oX, ov, J⟩ F5 N5
    have hnx := J.nx
    subst hnx
    refine law_mid (s := { s with heap := h, toks := tk }) (us := us) K0 KX T F5 (News.sub N5 lem6) hhd hCd hMd J.mv (by omega) ?_ J.free J.ne (fun x hx => Nat.le_trans (J.len x hx) (by omega)) (by rw [J.cl]; omega) (by rw [J.vl, J.ul]) J.hv (by rw [J.vl]; exact hl6) fun h' tk m' F' => hQ h' tk m' F'
    intro q hq
    simp only [List.mem_cons, List.not_mem_nil, or_false] at hq
    rcases hq with rfl | rfl | rfl | rfl
    · show @Ne Nat cA (L + 4); omega
    · show @Ne Nat (L + 2) (L + 4); omega
    · show @Ne Nat (L + 3) (L + 4); omega
    · show @Ne Nat sl (L + 4); omega
end

-- part WS
section
open PySem PySem.W PyProof.Rows
theorem law_start {w : World} {H : Heap} {L fa : Addr} {cd : Value} {m mg mb : Str → Option Value} {mean : ExcName → Option Value} {s : Shared} {Q : Flow → Shared → Prop} {E : Value → Shared → Prop}
    {oM oh oC oX oD : Obj} {cA vA sA D : Addr} {hdv : Int} {th t0 t1 : Tok} {svs : List Value} {ns : List Int} {ov : Option Value}
    (K0 : Below callerA H [] H) (KX : (hd.heap_39 w.params).In H) (T : Top hd.view_39 (looseW hd.view_39 [Str.ofString "BitParser"]) mean mg mb H) (F : Fr H L s.heap m)
    (N : News H L s.heap [(D, oD), (vA, W.listOf #[] 0), (cA, W.listOf #[.str (Str.ofString "0") t0, .str (Str.ofString "1") t1] 0), (L + 1 + 1 + 1 + 1, oM), (L + 1 + 1 + 1, oX), (L + 1 + 1, oC), (L + 1, oh)])
    (hhd : oh.data = .cell (some (.int hdv th))) (hCd : oC.data = .cell (some (.ref cA))) (hMd : oM.data = .cell none) (hXd : oX.data = .cell ov)
    (mv : m "values" = some (.ref vA)) (ms : m "script" = some (.ref sA)) (hl : H.IsList sA svs.toArray) (hi : IntsAre svs ns) (hz : ns.length ≤ 63)
    (hc1 : @LT.lt Nat _ (L + 4) cA) (hc2 : @LT.lt Nat _ cA vA)
    (hQ : ∀ h' tk m', Fr H L h' m' → Q (.ret (.bool true)) { s with heap := h', toks := tk }) :
    wpAny (model prog w) (callerA.deeper (lawEnv L fa cd)) (execs (lawBody.drop 1) (lawEnv L fa cd)) Q E s := by
  have e0 : (W.listOf #[.str (Str.ofString "0") t0, .str (Str.ofString "1") t1] 0 : Obj) = W.listOf (([([false], t0), ([true], t1)] : List (Code × Tok)).map cv).toArray 0 := by
    rw [show Str.ofString "0" = enc [false] by decide, show Str.ofString "1" = enc [true] by decide]
    rfl
  rw [e0] at N
  refine wpAny_mono (law_loop (ct := [([false], t0), ([true], t1)]) K0 KX T F (News.sub N ?_) hhd hCd hMd hXd mv ms hl hi (by have := hi.length; omega) hc1 hc2 ⟨t0, t1, rfl⟩ hQ) (fun _ _ h => h) (fun _ _ e => e.elim)
  intro z hz
  simp only [List.mem_cons, List.not_mem_nil, or_false] at hz ⊢
  rcases hz with h | h | h | h | h | h <;> simp [h]
end

end Mine

theorem PySem.Challenge.cw_ae5029_01_holds : PySem.Challenge.rw_ae5029_01.Holds :=
  Mine.hd (by
  w_top off
  k_go0
  all_goals try k_fold
  iterate 42 walk1
  · rename Fr _ _ _ _ => F9
    rename News _ _ _ _ => N9
    rename IntsAre _ _ => hI9
    rename _ = Data.cell (bindC _ _ _ (Str.ofString "means")) => hMe
    rename _ = Data.cell (bindC _ _ _ (Str.ofString "more")) => hMo
    refine Mine.law_start (by assumption) (by assumption) (by assumption) F9 N9 (by assumption) (by assumption) (by rw [hMe]; with_unfolding_all rfl) hMo rfl (by with_unfolding_all rfl) (by assumption) hI9 (by omega) (by omega) (by omega) ?_
    intro h' tk m' F'
    k_steps
  · iterate 27 walk1
    rename Fr _ _ _ _ => F9
    rename News _ _ _ _ => N9
    rename IntsAre _ _ => hI9
    rename _ = Data.cell (bindC _ _ _ (Str.ofString "means")) => hMe
    rename _ = Data.cell (bindC _ _ _ (Str.ofString "more")) => hMo
    refine Mine.law_start (by assumption) (by assumption) (by assumption) F9 N9 (by assumption) (by assumption) (by rw [hMe]; with_unfolding_all rfl) hMo rfl (by with_unfolding_all rfl) (by assumption) hI9 (by omega) (by omega) (by omega) ?_
    intro h' tk m' F'
    k_steps)
