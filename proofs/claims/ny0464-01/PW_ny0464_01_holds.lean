import PyProof.Rows.All
import Wide.All
import OpenK.AllK
import Wide.FinOn
import PySem.Challenge.RW_ny0464_01
set_option Elab.async false

section PartHead
open PySem PySem.W PyProof.Rows
namespace Mine
set_option maxRecDepth 100000
set_option maxHeartbeats 0
open_top hd for PySem.Challenge.rw_ny0464_01
end Mine

end PartHead

section PartBase
open PySem PySem.W PyProof.Rows PySem.Calls
set_option maxRecDepth 100000
set_option maxHeartbeats 400000
namespace Mine
abbrev Loose0 : List Str := [Str.ofString "_twin_re_1", Str.ofString "_ver_stages"]
noncomputable abbrev Loose : List Str := looseW hd.view_39 Loose0
abbrev PR : Program := PySem.Challenge.rw_ny0464_01.row.prog

section
variable {prog : Program} {w : World} {A : Around} {E : Value → Shared → Prop} {s : Shared} {env : Env} {h₀ : Heap} {x : Str} {body : List Stmt} {Q : Flow → Shared → Prop} {m₀ : Str → Option Value} {news : List (Addr × Obj)}

/-- the end of a turn that neither leaves nor breaks the loop -/
def TurnEnd (h₀ : Heap) (L : Addr) (J : (Str → Option Value) → List (Addr × Obj) → Prop) (own : List (Addr × Obj)) (adr : List Addr) (s₁ : Shared) (f : Flow) (s₂ : Shared) : Prop :=
  match f with
  | .next => InvEndN h₀ L J own adr s₁ s₂
  | .cont => InvEndN h₀ L J own adr s₁ s₂
  | _ => False
theorem TurnEnd.post {L : Addr} {J : (Str → Option Value) → List (Addr × Obj) → Prop} {own : List (Addr × Obj)} {adr : List Addr} {s₁ s₂ : Shared} {f : Flow} (h : TurnEnd h₀ L J own adr s₁ f s₂) : InvPostN h₀ L J own adr s₁ Q f s₂ := by
  cases f with
  | next => exact h
  | cont => exact h
  | brk => exact h.elim
  | ret v => exact h.elim

theorem fr_lt (F : Fr h₀ env.locals s.heap m₀) : env.locals < s.heap.objs.size := F.ns.lt
theorem new_of (F : Fr h₀ env.locals s.heap m₀) : h₀.get? s.heap.objs.size = none := by
  cases e : h₀.get? s.heap.objs.size with
  | none => rfl
  | some o' => exact absurd (Heap.lt_size (F.keep _ _ e)) (Nat.lt_irrefl _)

theorem iter_list {l : Addr} {vs : List Value} (J : Nat → (Str → Option Value) → List (Addr × Obj) → Prop)
    (hh : A.handled = none) (hl : s.heap.IsList l vs.toArray) (hlL : env.locals ≠ l) (hln : ∀ p ∈ news, p.1 ≠ l)
    (F : Fr h₀ env.locals s.heap m₀) (N : News h₀ env.locals s.heap news) (hj : J 0 m₀ news)
    (turn : ∀ i v m₁ news₁ h tk own, vs[i]? = some v → news₁.map (·.1) = news.map (·.1) → OwnOff own (news.map (·.1)) → J i m₁ news₁ → Fr h₀ env.locals h (fun y => if y = x then some v else m₁ y) → News h₀ env.locals h (news₁ ++ own) →
      wpAny (model prog w) A (execs body env) (TurnEnd h₀ env.locals (J (i + 1)) own (news.map (·.1)) { s with heap := h, toks := tk }) (fun _ _ => False) { s with heap := h, toks := tk })
    (done : ∀ m₁ news₁ h tk, J vs.length m₁ news₁ → Fr h₀ env.locals h m₁ → News h₀ env.locals h news₁ → Q .next { s with heap := h, toks := tk }) :
    wpAny (model prog w) A (pyIter (.ref l)) (fun it s₂ => LoopAtV prog w A h₀ env x body Q E it s₂) E s := by
  have hlt : l < s.heap.objs.size := let ⟨_, ho, _⟩ := hl; Heap.lt_size ho
  refine wpAny_pyIter_list hl ?_
  have W := Walks.list (prog := prog) (w := w) hh s.heap.objs.size l (Nat.ne_of_lt hlt) vs.toArray
  refine loop_invN (n := vs.toArray.size) J W ?_ ?_ ?_ ?_ ⟨⟨_, Heap.get?_push_size _ rfl, rfl, rfl⟩, hl.push _⟩ (F.push _) (fun p hp => ⟨Heap.get?_push_of_some _ (N p hp).1, (N p hp).2⟩) hj ?_ ?_
  · intro hm
    rcases List.mem_cons.mp hm with e | hm
    · exact absurd (fr_lt F) (e ▸ Nat.lt_irrefl _)
    · exact hlL (List.mem_singleton.mp hm)
  · intro b hb
    rw [List.mem_singleton.mp hb]
    exact new_of F
  · intro p hp hI
    exact absurd (Heap.lt_size (N p hp).1) ((List.mem_singleton.mp hI) ▸ Nat.lt_irrefl _)
  · intro p hp hm
    rcases List.mem_cons.mp hm with e | hm
    · exact absurd (Heap.lt_size (N p hp).1) (e ▸ Nat.lt_irrefl _)
    · exact hln p hp (List.mem_singleton.mp hm)
  · intro i v m₁ news₁ h tk own hi hP ha ho hJ F₁ N₁
    exact wpAny_mono (turn i v m₁ news₁ h tk own (by simpa using hP) ha ho hJ F₁ N₁) (fun _ _ q => q.post) fun _ _ q => q.elim
  · intro m₁ news₁ h tk hJ F₁ N₁
    exact done m₁ news₁ h tk (by simpa using hJ) F₁ N₁

theorem iter_signs {y : Str} {t : Tok} (J : Nat → (Str → Option Value) → List (Addr × Obj) → Prop)
    (hh : A.handled = none) (F : Fr h₀ env.locals s.heap m₀) (N : News h₀ env.locals s.heap news) (hj : J 0 m₀ news)
    (turn : ∀ i c u m₁ news₁ h tk own, y.cps[i]? = some c → news₁.map (·.1) = news.map (·.1) → OwnOff own (news.map (·.1)) → J i m₁ news₁ → Fr h₀ env.locals h (fun y => if y = x then some (.str ⟨#[c]⟩ u) else m₁ y) → News h₀ env.locals h (news₁ ++ own) →
      wpAny (model prog w) A (execs body env) (TurnEnd h₀ env.locals (J (i + 1)) own (news.map (·.1)) { s with heap := h, toks := tk }) (fun _ _ => False) { s with heap := h, toks := tk })
    (done : ∀ m₁ news₁ h tk, J y.cps.size m₁ news₁ → Fr h₀ env.locals h m₁ → News h₀ env.locals h news₁ → Q .next { s with heap := h, toks := tk }) :
    wpAny (model prog w) A (pyIter (.str y t)) (fun it s₂ => LoopAtV prog w A h₀ env x body Q E it s₂) E s := by
  refine wpAny_pyIter_str fun o St W hst => ?_
  refine loop_invN (n := y.cps.size) J (W A hh) ?_ ?_ ?_ ?_ hst (F.push _) (fun p hp => ⟨Heap.get?_push_of_some _ (N p hp).1, (N p hp).2⟩) hj ?_ ?_
  · intro hm
    exact absurd (fr_lt F) ((List.mem_singleton.mp hm) ▸ Nat.lt_irrefl _)
  · intro b hb
    rw [List.mem_singleton.mp hb]
    exact new_of F
  · intro p hp hI
    exact absurd (Heap.lt_size (N p hp).1) ((List.mem_singleton.mp hI) ▸ Nat.lt_irrefl _)
  · intro p hp hm
    exact absurd (Heap.lt_size (N p hp).1) ((List.mem_singleton.mp hm) ▸ Nat.lt_irrefl _)
  · intro i v m₁ news₁ h tk own hi hP ha ho hJ F₁ N₁
    obtain ⟨c, u, hc, rfl⟩ := hP
    exact wpAny_mono (turn i c u m₁ news₁ h tk own hc ha ho hJ F₁ N₁) (fun _ _ q => q.post) fun _ _ q => q.elim
  · intro m₁ news₁ h tk hJ F₁ N₁
    exact done m₁ news₁ h tk hJ F₁ N₁
end
end Mine

end PartBase

section PartPlain1
open PySem PySem.W PyProof.Rows PySem.Calls
set_option maxRecDepth 100000
set_option maxHeartbeats 400000
namespace Mine

/-- the twelve signs that only part runs -/
def sepB (c : Nat) : Bool := [46, 95, 43, 45, 32, 47, 92, 58, 59, 34, 40, 41].contains c
def digB (c : Nat) : Bool := decide (48 ≤ c) && decide (c ≤ 57)
def kindOf (c : Nat) : Nat := if sepB c then 0 else if digB c then 1 else 2

inductive Run where
  | num (n : Nat)
  | txt (l : List Nat)

def bump (rs : List Run) (c : Nat) : List Run := match rs.getLast? with
  | some (.num n) => rs.dropLast ++ [.num (n * 10 + (c - 48))]
  | _ => rs
def grow (rs : List Run) (c : Nat) : List Run := match rs.getLast? with
  | some (.txt l) => rs.dropLast ++ [.txt (l ++ [c])]
  | _ => rs
def stepR (st : List Run × Nat) (c : Nat) : List Run × Nat :=
  if kindOf c = 0 then (st.1, 0)
  else if kindOf c = 1 then (if st.2 = 1 then bump st.1 c else st.1 ++ [.num (c - 48)], 1)
  else (if st.2 = 2 then grow st.1 c else st.1 ++ [.txt [c]], 2)

def RunV : Run → Value → Prop
  | .num n, v => ∃ t, v = .int n t
  | .txt l, v => ∃ t, v = .str ⟨l.toArray⟩ t
def RunsAre : List Run → List Value → Prop
  | [], [] => True
  | r :: rs, v :: vs => RunV r v ∧ RunsAre rs vs
  | _, _ => False

theorem RunsAre.length : ∀ {rs : List Run} {vs : List Value}, RunsAre rs vs → vs.length = rs.length
  | [], [], _ => rfl
  | _ :: _, _ :: _, h => by simp [h.2.length]
  | [], _ :: _, h => h.elim
  | _ :: _, [], h => h.elim
theorem RunsAre.snoc : ∀ {rs : List Run} {vs : List Value} {r : Run} {v : Value}, RunsAre rs vs → RunV r v → RunsAre (rs ++ [r]) (vs ++ [v])
  | [], [], _, _, _, h => ⟨h, trivial⟩
  | _ :: _, _ :: _, _, _, h, h' => ⟨h.1, h.2.snoc h'⟩
  | [], _ :: _, _, _, h, _ => h.elim
  | _ :: _, [], _, _, h, _ => h.elim
theorem RunsAre.unsnoc : ∀ {rs : List Run} {vs : List Value} {r : Run}, RunsAre (rs ++ [r]) vs → ∃ vs' v, vs = vs' ++ [v] ∧ RunsAre rs vs' ∧ RunV r v
  | [], [v], _, h => ⟨[], v, rfl, trivial, h.1⟩
  | [], [], _, h => h.elim
  | [], _ :: _ :: _, _, h => h.2.elim
  | _ :: _, [], _, h => h.elim
  | _ :: _, v :: vs, _, h => by
    obtain ⟨vs', x, e, h1, h2⟩ := RunsAre.unsnoc h.2
    exact ⟨v :: vs', x, by rw [e]; rfl, ⟨h.1, h1⟩, h2⟩

/-- what holds of the state of the scan behind i signs -/
structure OkSt (st : List Run × Nat) (i : Nat) : Prop where
  len : st.1.length ≤ i
  num : st.2 = 1 → ∃ init n, st.1 = init ++ [.num n] ∧ n < 10 ^ i
  txt : st.2 = 2 → ∃ init l, st.1 = init ++ [.txt l] ∧ l.length ≤ i

theorem kindOf_sep {c : Nat} (h : sepB c = true) : kindOf c = 0 := by simp [kindOf, h]
theorem kindOf_dig {c : Nat} (h : sepB c = false) (h' : digB c = true) : kindOf c = 1 := by simp [kindOf, h, h']
theorem kindOf_oth {c : Nat} (h : sepB c = false) (h' : digB c = false) : kindOf c = 2 := by simp [kindOf, h, h']
theorem digB_le {c : Nat} (h : digB c = true) : 48 ≤ c ∧ c ≤ 57 := by
  simpa [digB] using h
theorem kindOf_le (c : Nat) : kindOf c ≤ 2 := by
  unfold kindOf; split
  · omega
  · split <;> omega
theorem pow_step {n i d : Nat} (h : n < 10 ^ i) (hd : d < 10) : n * 10 + d < 10 ^ (i + 1) := by
  rw [Nat.pow_succ]; omega

theorem stepR_sep {st : List Run × Nat} {c : Nat} (h : kindOf c = 0) : stepR st c = (st.1, 0) := by simp [stepR, h]
theorem stepR_dig1 {st : List Run × Nat} {c n : Nat} {init : List Run} (h : kindOf c = 1) (ha : st.2 = 1) (e : st.1 = init ++ [.num n]) : stepR st c = (init ++ [.num (n * 10 + (c - 48))], 1) := by
  simp [stepR, h, ha, bump, e]
theorem stepR_dig {st : List Run × Nat} {c : Nat} (h : kindOf c = 1) (ha : st.2 ≠ 1) : stepR st c = (st.1 ++ [.num (c - 48)], 1) := by
  simp [stepR, h, ha]
theorem stepR_oth2 {st : List Run × Nat} {c : Nat} {l : List Nat} {init : List Run} (h : kindOf c = 2) (ha : st.2 = 2) (e : st.1 = init ++ [.txt l]) : stepR st c = (init ++ [.txt (l ++ [c])], 2) := by
  simp [stepR, h, ha, grow, e]
theorem stepR_oth {st : List Run × Nat} {c : Nat} (h : kindOf c = 2) (ha : st.2 ≠ 2) : stepR st c = (st.1 ++ [.txt [c]], 2) := by
  simp [stepR, h, ha]

theorem okSt_step {st : List Run × Nat} {i c : Nat} (h : OkSt st i) : OkSt (stepR st c) (i + 1) := by
  have hk := kindOf_le c
  by_cases h0 : kindOf c = 0
  · rw [stepR_sep h0]; exact ⟨Nat.le_succ_of_le h.len, by simp, by simp⟩
  by_cases h1 : kindOf c = 1
  · have hd : c - 48 < 10 := by
      unfold kindOf at h1
      split at h1
      · cases h1
      · split at h1
        · rename_i hd; have := digB_le hd; omega
        · cases h1
    by_cases ha : st.2 = 1
    · obtain ⟨init, n, e, hn⟩ := h.num ha
      rw [stepR_dig1 h1 ha e]
      have hl := h.len
      rw [e] at hl
      exact ⟨by simp at hl ⊢; omega, fun _ => ⟨init, _, rfl, pow_step hn hd⟩, by simp⟩
    · rw [stepR_dig h1 ha]
      have hl := h.len
      refine ⟨by simp; omega, fun _ => ⟨st.1, _, rfl, ?_⟩, by simp⟩
      exact Nat.lt_of_lt_of_le hd (by rw [Nat.pow_succ]; have := Nat.pow_pos (n := i) (show 0 < 10 by decide); omega)
  · have h2 : kindOf c = 2 := by omega
    by_cases ha : st.2 = 2
    · obtain ⟨init, l, e, hn⟩ := h.txt ha
      rw [stepR_oth2 h2 ha e]
      have hl := h.len
      rw [e] at hl
      exact ⟨by simp at hl ⊢; omega, by simp, fun _ => ⟨init, _, rfl, by simp; omega⟩⟩
    · rw [stepR_oth h2 ha]
      have hl := h.len
      exact ⟨by simp; omega, by simp, fun _ => ⟨st.1, _, rfl, by simp⟩⟩

/-- the state behind the first i signs of a text -/
def stAt (t : List Nat) (i : Nat) : List Run × Nat := (t.take i).foldl stepR ([], 0)
theorem stAt_zero (t : List Nat) : stAt t 0 = ([], 0) := by simp [stAt]
theorem stAt_succ {t : List Nat} {i c : Nat} (h : t[i]? = some c) : stAt t (i + 1) = stepR (stAt t i) c := by
  unfold stAt
  rw [List.take_add_one, h]; simp
theorem okSt_at (t : List Nat) : ∀ i, i ≤ t.length → OkSt (stAt t i) i
  | 0, _ => by rw [stAt_zero]; exact ⟨Nat.le_refl _, by simp, by simp⟩
  | i + 1, h => by
    obtain ⟨c, hc⟩ : ∃ c, t[i]? = some c := ⟨t[i], by simp [Nat.lt_of_succ_le h]⟩
    rw [stAt_succ hc]
    exact okSt_step (okSt_at t i (by omega))
def runsOf (t : List Nat) : List Run := (t.foldl stepR ([], 0)).1
theorem runsOf_at (t : List Nat) : (stAt t t.length).1 = runsOf t := by simp [stAt, runsOf]

theorem in_lit (x : Str) (c : Nat) : (!(Builtin.Str.occurrences x ⟨#[c]⟩ 0 x.length 1).isEmpty) = x.cps.toList.contains c := by
  rw [StrLaws.found_one]; simp [List.contains_iff_mem]
theorem in_seps (c : Nat) : (!(Builtin.Str.occurrences (Str.ofString "._+- /\\:;\"()") ⟨#[c]⟩ 0 (Str.ofString "._+- /\\:;\"()").length 1).isEmpty) = sepB c := by
  rw [in_lit]; rfl
theorem in_digs (c : Nat) : (!(Builtin.Str.occurrences (Str.ofString "0123456789") ⟨#[c]⟩ 0 (Str.ofString "0123456789").length 1).isEmpty) = digB c := by
  rw [in_lit]
  have e : (Str.ofString "0123456789").cps.toList = [48, 49, 50, 51, 52, 53, 54, 55, 56, 57] := by rfl
  rw [e]
  rw [Bool.eq_iff_iff, List.contains_iff_mem]
  unfold digB
  constructor
  · intro h; simp at h; simp; omega
  · intro h; simp at h; simp; omega
theorem occ_dig {c : Nat} (h : digB c = true) : ∃ rest, Builtin.Str.occurrences (Str.ofString "0123456789") ⟨#[c]⟩ 0 (Str.ofString "0123456789").length 1 = (c - 48) :: rest := by
  have hc := digB_le h
  obtain ⟨d, hd, rfl⟩ : ∃ d, d < 10 ∧ c = d + 48 := ⟨c - 48, by omega, by omega⟩
  have : ∀ d < 10, Builtin.Str.occurrences (Str.ofString "0123456789") ⟨#[d + 48]⟩ 0 (Str.ofString "0123456789").length 1 = [d] := by decide +kernel
  exact ⟨[], by rw [this d hd]; simp⟩
end Mine

end PartPlain1

section PartBase2
open PySem PySem.W PyProof.Rows PySem.Calls
set_option maxRecDepth 100000
set_option maxHeartbeats 400000
namespace Mine
section
variable {prog : Program} {w : World} {A : Around} {E : Value → Shared → Prop} {s : Shared} {h₀ : Heap} {L D : Addr} {m : Str → Option Value} {news news' : List (Addr × Obj)}

theorem getLast {value slice : PySem.Expr} {init : List Value} {x : Value} {u : Tok} {Q : Value → Shared → Prop} (hl : s.heap.IsList D (init ++ [x]).toArray) (h : Q x s)
    (hs : subscripted slice false (.ref D) (.int (-1) u) = operate [.ref D, .int (-1) u] (getItem (.ref D) (.int (-1) u)) := by with_unfolding_all rfl) :
    wpAny (model prog w) A (subscriptTail value slice (.ref D) (.int (-1) u)) Q E s := by
  refine tail_any hl.typeIs slot_list_getitem.lookup (wpAny_getItem_list_neg hl (by decide) ?_ (by decide) ?_ h) hs
  · simp; omega
  · have e : ((-1 : Int) + (((init ++ [x]).toArray.size : Nat) : Int)).toNat = init.length := by simp; omega
    rw [e]; simp

theorem setItem_list_neg {l : Addr} {o : Obj} {items : Array Value} {n : Nat} {k : Int} {t : Tok} {v : Value} {Q : Unit → Shared → Prop} (ho : s.heap.get? l = some o) (hc : o.cls = .type "list") (hd : o.data = .seq items n)
    (h0 : k < 0) (h1 : -(items.size : Int) ≤ k) (hfit : -(2 ^ 63) ≤ k)
    (hQ : Q () { s with heap := s.heap.update l (Obj.mapSeq (·.setIfInBounds (k + items.size).toNat v)) }) :
    wpAny (model prog w) A (setItem (.ref l) (.int k t) v) Q E s := by
  have hl : s.heap.IsList l items := ⟨o, ho, hc, n, hd⟩
  unfold setItem
  try with_reducible refine wpAny_holding ?_
  first | refine wpAny_bind (wpAny_pure ?_) | skip
  refine wpAny_bind (wpAny_sequenceKey hl.typeIs (by decide) ?_)
  refine wpAny_bind (wpAny_callSpecial?_slot (name := Str.ofString "__setitem__") hl.typeIs slot_list_setitem
    (wpAny_call_entry slot_list_setitem hl.typeIs entry_list_setitem ?_ (args_list_setitem _ _ _)))
  show wpAny _ _ (Builtin.List.listSubscript? (.int k t) >>= _) _ _ s
  refine wpAny_bind (wpAny_listSubscript_int (fitsIndex_neg h0 hfit) ?_)
  clear hfit
  have hidx := seqIndex_neg h0 h1
  have hlt : (k + items.size).toNat < items.size := by omega
  obtain ⟨j, rfl⟩ : ∃ j : Nat, k = Int.negSucc j := by
    cases k with
    | ofNat n => exact absurd h0 (Int.not_lt.mpr (Int.natCast_nonneg n))
    | negSucc n => exact ⟨n, rfl⟩
  show wpAny _ _ ((Builtin.List.listItems (.ref l) >>= fun xs => pure ((seqIndex? (Int.negSucc j) xs.size).bind fun i => xs[i]?.map (i, ·))) >>= _) _ _ s
  refine wpAny_bind (wpAny_bind ?_)
  show wpAny _ _ (seqItems? (.ref l) >>= _) _ _ s
  refine wpAny_bind (wpAny_seqItems ho hd (wpAny_pure (wpAny_pure ?_)))
  rw [hidx]
  simp only [Option.bind_some, Array.getElem?_eq_getElem hlt, Option.map_some]
  refine wpAny_bind (wpAny_setSeqItemAt ho hd ?_)
  first
    | exact wpAny_bind (wpAny_pure (wpAny_pure ⟨.none, rfl, wpAny_pure hQ⟩))
    | exact wpAny_pure ⟨.none, rfl, wpAny_pure hQ⟩

theorem setLast {init : List Value} {x v : Value} {u : Tok} {n : Nat} {Q : Unit → Shared → Prop} (F : Fr h₀ L s.heap m) (N : News h₀ L s.heap news)
    (U : Upd D (listOf (init ++ [x]).toArray n) (listOf (init ++ [v]).toArray n) news news')
    (h : ∀ h', Fr h₀ L h' m → News h₀ L h' news' → Q () { s with heap := h' }) : wpAny (model prog w) A (setItem (.ref D) (.int (-1) u) v) Q E s := by
  obtain ⟨pre, post, rfl, rfl, a, b⟩ := U.split
  have z := N (D, listOf (init ++ [x]).toArray n) (List.mem_append.mpr (.inr (.head _)))
  have hu : (s.heap.update D (Obj.mapSeq (·.setIfInBounds ((-1 : Int) + ((init ++ [x]).toArray.size : Nat)).toNat v))).get? D = some (listOf (init ++ [v]).toArray n) := by
    rw [Heap.get?_update_self _ z.1 rfl]
    have e : ((-1 : Int) + (((init ++ [x]).toArray.size : Nat) : Int)).toNat = init.length := by simp; omega
    rw [e]
    simp [Obj.mapSeq, W.listOf]
  refine setItem_list_neg z.1 rfl rfl (by decide) (by simp; omega) (by decide) (h _ (F.change (Heap.SameBut.update ..) z.2.1 z.2.2) (news_set N a b (Heap.SameBut.update ..) hu))

theorem strip_toks {x y : Str} {t u : Tok} {Q : Value → Shared → Prop} (h : ∀ t' k, s.toks ≤ k → (Txt.stripChars x y).length ≤ x.length → Q (.str (Txt.stripChars x y) t') { s with toks := k }) (hsz : x.length ≤ sizeLine := by size_fits) :
    wpAny (model prog w) A (call (.builtin "str.strip") [.str x t, .str y u]) Q E s :=
  wpAny_with_toks (Nat.le_refl s.toks) (SC.stripChars (fun t' k hk => h t' k hk (len_stripChars x y)) hsz)
theorem strip0_toks {x : Str} {t : Tok} {Q : Value → Shared → Prop} (h : ∀ t' k, s.toks ≤ k → (Txt.strip x).length ≤ x.length → Q (.str (Txt.strip x) t') { s with toks := k }) (hsz : x.length ≤ sizeLine := by size_fits) :
    wpAny (model prog w) A (call (.builtin "str.strip") [.str x t]) Q E s :=
  wpAny_with_toks (Nat.le_refl s.toks) (SC.strip (fun t' k hk => h t' k hk (len_strip x)) hsz)
theorem replace_toks {x y z : Str} {t u v : Tok} {Q : Value → Shared → Prop} (hu : u ≠ 0) (hv : v ≠ 0) (huv : u ≠ v) (hyz : (y == z) = false) (hx : x.length ≤ 1048576) (hz : z.length ≤ 14)
    (h : ∀ t' k, s.toks ≤ k → Q (.str (Txt.replace x y z) t') { s with toks := k }) :
    wpAny (model prog w) A (call (.builtin "str.replace") [.str x t, .str y u, .str z v]) Q E s :=
  wpAny_with_toks (Nat.le_refl s.toks) (SC.replaceW hu hv huv hyz hx hz (fun t' k hk => h t' k hk))
theorem add_str_toks {x y : Str} {t u : Tok} {Q : Value → Shared → Prop} (h : ∀ t' k, s.toks ≤ k → Q (.str (x ++ y) t') { s with toks := k }) (hsz : x.length + y.length ≤ sizeLine := by size_fits) :
    wpAny (model prog w) A (binaryOp .Add (.str x t) (.str y u)) Q E s :=
  wpAny_with_toks (Nat.le_refl s.toks) (PyProof.Rows.add_str (fun t' k hk => h t' k hk) hsz)
end
end Mine
namespace Mine
section
variable {prog : Program} {w : World} {A : Around} {E : Value → Shared → Prop} {s : Shared} {h₀ : Heap} {L D : Addr} {m : Str → Option Value} {news news' : List (Addr × Obj)}
theorem index_dig {c : Nat} {t u : Tok} {Q : Value → Shared → Prop} (hc : digB c = true) (h : Q (.int ((c - 48 : Nat) : Int) s.toks) { s with toks := s.toks + 1 }) :
    wpAny (model prog w) A (call (.builtin "str.index") [.str (Str.ofString "0123456789") t, .str ⟨#[c]⟩ u]) Q E s := by
  obtain ⟨rest, e⟩ := occ_dig hc
  exact SC.index e h
theorem News.list {its : Array Value} {n : Nat} {h : Heap} (N : News h₀ L h news) (hm : (D, W.listOf its n) ∈ news) : h.IsList D its := ⟨_, (N _ hm).1, rfl, n, rfl⟩
theorem invEnd1 {J : (Str → Option Value) → List (Addr × Obj) → Prop} {own rest : List (Addr × Obj)} {o : Obj} {s₁ : Shared} {h' : Heap} {tk : Nat} {m' : Str → Option Value}
    (F : Fr h₀ L h' m') (N : News h₀ L h' ((D, o) :: rest)) (ho : ∀ p ∈ own, p ∈ rest) (hj : J m' [(D, o)]) : TurnEnd h₀ L J own [D] s₁ .next { s₁ with heap := h', toks := tk } :=
  show InvEndN _ _ _ _ _ _ _ from InvEndN.intro F N hj rfl (fun p hp => by rw [List.mem_singleton.mp hp]; exact .head _) (fun p hp => .tail _ (ho p hp))
end
end Mine
namespace Mine
theorem runNum {n : Nat} {i : Int} {t : Tok} (h : i = n) : RunV (.num n) (.int i t) := ⟨t, by rw [h]⟩
theorem runTxt {l : List Nat} {x : Str} {t : Tok} (h : x = ⟨l.toArray⟩) : RunV (.txt l) (.str x t) := ⟨t, by rw [h]⟩
end Mine
namespace Mine
theorem len_replace_nil (x y : Str) : (Txt.replace x y (Str.ofString "")).length ≤ x.length := by
  unfold Txt.replace
  split
  · exact Nat.le_refl _
  · have hy : (Builtin.Str.glued y (Builtin.Str.partsBetween x (Builtin.Str.occurrences x y 0 x.length (x.length + 1)) y.length)).length = x.length := by rw [StrLaws.glued_between_self]
    rw [size_glued] at hy
    rw [size_glued]
    have e : (Str.ofString "").length = 0 := by rfl
    rw [e, Nat.mul_zero]
    omega
/-- what the law leaves of a field: its ends stripped, unknown struck -/
def cleanF (x : Str) : List Nat := (Txt.replace (Txt.stripChars x (Str.ofString " \t")) (Str.ofString "unknown") (Str.ofString "")).cps.toList
theorem str_snoc (l : List Nat) (c : Nat) : (⟨l.toArray⟩ : Str) ++ ⟨#[c]⟩ = ⟨(l ++ [c]).toArray⟩ := by
  show Str.mk (l.toArray ++ #[c]) = _
  simp
end Mine
namespace Mine
theorem invEnd2 {h₀ : Heap} {L D P : Addr} {J : (Str → Option Value) → List (Addr × Obj) → Prop} {own rest : List (Addr × Obj)} {o o' : Obj} {s₁ : Shared} {h' : Heap} {tk : Nat} {m' : Str → Option Value}
    (F : Fr h₀ L h' m') (N : News h₀ L h' ((D, o) :: (P, o') :: rest)) (ho : ∀ p ∈ own, p ∈ rest) (hj : J m' [(D, o), (P, o')]) : TurnEnd h₀ L J own [D, P] s₁ .next { s₁ with heap := h', toks := tk } :=
  show InvEndN _ _ _ _ _ _ _ from InvEndN.intro F N hj rfl (fun p hp => by
    rcases List.mem_cons.mp hp with rfl | hp
    · exact .head _
    · rw [List.mem_singleton.mp hp]; exact .tail _ (.head _)) (fun p hp => .tail _ (.tail _ (ho p hp)))
end Mine

end PartBase2

section PartFruns
open PySem PySem.W PyProof.Rows PySem.Calls
set_option maxRecDepth 100000
set_option pp.maxSteps 2000
set_option maxHeartbeats 0
namespace Mine
section
local macro_rules | `(tactic| walk_at "call builtin:str.strip") => `(tactic| (refine strip_toks ?_ ?_; rotate_left; (size_fits); intro _ _ hTk _; dsimp only at hTk))
local macro_rules | `(tactic| walk_at "call builtin:str.replace") => `(tactic| (refine replace_toks (by refine neN ?_; omega) (by refine neN ?_; omega) (by refine neN ?_; omega) (by decide) (by omega) (by decide) ?_; intro _ _ _))
local macro_rules | `(tactic| walk_at "GO") => `(tactic| (repeat' (first | (k_unfold; (try dsimp only)) | (walk1; try dsimp only) | (dsimp only; walk1))))
local macro_rules | `(tactic| walk_at "eval Name") => `(tactic| (refine ld (by assumption) (by first | with_reducible rfl | rfl | assumption) ?_))
local macro_rules | `(tactic| walk_at "compareOp In str str") => `(tactic| (refine PyProof.Rows.in_str ?_; first | rw [in_seps, ‹sepB _ = _›] | rw [in_digs, ‹digB _ = _›]))
local macro_rules | `(tactic| walk_at "subscriptTail") => `(tactic| (refine getLast (News.list (by assumption) (by exact List.Mem.head _)) ?_))
local macro_rules | `(tactic| walk_at "setItem ref int") => `(tactic| (refine' setLast ?k1 ?k2 ?k3 ?_; (case k1 => assumption); (case k2 => assumption); (case k3 => k_upd); intro h' F' N'; (try k_sweep)))
local macro_rules | `(tactic| walk_at "call builtin:str.index") => `(tactic| (refine index_dig (by assumption) ?_))
local macro_rules | `(tactic| walk_at "binaryOp Add str str") => `(tactic| (refine add_str_toks ?_ ?_; rotate_left; (size_fits); intro _ _ _))
local macro_rules | `(tactic| walk_at "call builtin:list.append") => `(tactic| (refine' append_K ?k1 ?k2 ?k3 ?_ ?k4; (case k1 => assumption); (case k2 => assumption); (case k3 => k_upd); (case k4 => (simp only [List.size_toArray]; size_fits)); intro h' F' N'; (try simp only [List.push_toArray] at N'); (try k_sweep)))

local macro_rules | `(tactic| walk_at "compareOp NotEq int int") => `(tactic| (refine ne_int ?_; rw [‹(_ != _) = true›]))

theorem runs_call {w : World} {A : Around} {s : Shared} {R : Result → Shared → Prop} {x : Str} {t : Tok} {mg mb : Str → Option Value}
    (X : (hd.heap_39 w.params).In s.heap) (T : TopRead hd.view_39 Loose mg mb s.heap) (hroom : A.depth < 900) (hx : x.length ≤ 1000) (hh : A.handled = none)
    (h : ∀ h' k a vs, s.heap.StaysIn h' → s.heap.get? a = none → h'.IsList a vs.toArray → RunsAre (runsOf (cleanF x)) vs → R (.ok (.ret (.ref a))) { s with heap := h', toks := k }) :
    codeAny (model PySem.Challenge.rw_ny0464_01.row.prog w) A (.call (.ref 65) ⟨[.str x t], []⟩) R s := by
  revert X; k_fill; intro X
  refine call_plain_ret (a := 65) (binds := [(Str.ofString "field", .str x t)]) (Nat.lt_trans hroom (by decide)) (X 65 _ (by k_is)) rfl T.nolimit (codeRec_of X (by k_is)) (by rfl) (locs (by rfl)) ?_
  intro h₁ F
  have N : News s.heap s.heap.objs.size h₁ [] := News.nil
  w_on
  walk_at "GO"
  rename Fr _ _ _ _ => F
  rename News _ _ _ _ => N
  rename_i D _ _ _ _ _ _ _ _ _ _ _ _
  have hy : (Txt.replace (Txt.stripChars x (Str.ofString " \t")) (Str.ofString "unknown") (Str.ofString "")).length ≤ 1000 :=
    Nat.le_trans (len_replace_nil _ _) (Nat.le_trans (len_stripChars _ _) hx)
  have hyc : cleanF x = (Txt.replace (Txt.stripChars x (Str.ofString " \t")) (Str.ofString "unknown") (Str.ofString "")).cps.toList := rfl
  revert hyc
  generalize Txt.replace (Txt.stripChars x (Str.ofString " \t")) (Str.ofString "unknown") (Str.ofString "") = y at hy ⊢
  intro hyc
  refine iter_signs (fun i m nx => m (Str.ofString "runs") = some (.ref D) ∧ (∃ t, m (Str.ofString "ahead") = some (.int ((stAt y.cps.toList i).2 : Nat) t)) ∧ ∃ vs n, nx = [(D, W.listOf vs.toArray n)] ∧ RunsAre (stAt y.cps.toList i).1 vs) hh F N ?_ ?_ ?_
  · exact ⟨rfl, ⟨_, rfl⟩, [], 0, rfl, trivial⟩
  · intro i c u m₁ news₁ h₂ tk₂ own hc hadr hown hJ F₁ N₁
    obtain ⟨hr, ⟨ta, ha⟩, vs, n, rfl, hR⟩ := hJ
    clear F N hadr
    replace F₁ : Fr s.heap s.heap.objs.size h₂ _ := F₁
    replace hown : OwnOff own [D] := hown
    replace N₁ : News s.heap s.heap.objs.size h₂ ((D, W.listOf vs.toArray n) :: own) := N₁
    have hc' : y.cps.toList[i]? = some c := by simpa using hc
    have hi : i < y.cps.toList.length := (List.getElem?_eq_some_iff.mp hc').1
    have hok := okSt_at y.cps.toList i (Nat.le_of_lt hi)
    rw [stAt_succ hc']
    have hlen : y.cps.toList.length ≤ 1000 := by simpa [Str.length] using hy
    generalize stAt y.cps.toList i = st at hok ha hR ⊢
    have hvl := hR.length
    have hsl := hok.len
    cases hs : sepB c with
    | true =>
      rw [stepR_sep (kindOf_sep hs)]
      walk_at "GO"
      rename Fr _ _ _ _ => F₂; rename News _ _ _ _ => N₂
      exact invEnd1 F₂ N₂ (fun p hp => hp) ⟨hr, ⟨_, rfl⟩, vs, n, rfl, hR⟩
    | false =>
      cases hd : digB c with
      | true =>
        by_cases h1 : st.2 = 1
        · obtain ⟨init, k, e, hk⟩ := hok.num h1
          rw [stepR_dig1 (kindOf_dig hs hd) h1 e]
          rw [e] at hR
          obtain ⟨vs', v, rfl, hR', ⟨tv, rfl⟩⟩ := hR.unsnoc
          rw [h1] at ha
          walk_at "GO"
          rename Fr _ _ _ _ => F₂; rename News _ _ _ _ => N₂
          exact invEnd1 F₂ N₂ (fun p hp => hp) ⟨hr, ⟨_, rfl⟩, _, n, rfl, hR'.snoc (runNum (by omega))⟩
        · rw [stepR_dig (kindOf_dig hs hd) h1]
          have hne : ((1 : Int) != (st.2 : Int)) = true := by simp; omega
          walk_at "GO"
          rename Fr _ _ _ _ => F₂; rename News _ _ _ _ => N₂
          exact invEnd1 F₂ N₂ (fun p hp => hp) ⟨hr, ⟨_, rfl⟩, _, _, rfl, hR.snoc (runNum (by omega))⟩
      | false =>
        by_cases h1 : st.2 = 2
        · obtain ⟨init, l, e, hk⟩ := hok.txt h1
          rw [stepR_oth2 (kindOf_oth hs hd) h1 e]
          rw [e] at hR
          obtain ⟨vs', v, rfl, hR', ⟨tv, rfl⟩⟩ := hR.unsnoc
          rw [h1] at ha
          walk_at "GO"
          rename Fr _ _ _ _ => F₂; rename News _ _ _ _ => N₂
          exact invEnd1 F₂ N₂ (fun p hp => hp) ⟨hr, ⟨_, rfl⟩, _, n, rfl, hR'.snoc (runTxt (str_snoc _ _))⟩
        · rw [stepR_oth (kindOf_oth hs hd) h1]
          have hne : ((2 : Int) != (st.2 : Int)) = true := by simp; omega
          walk_at "GO"
          rename Fr _ _ _ _ => F₂; rename News _ _ _ _ => N₂
          exact invEnd1 F₂ N₂ (fun p hp => hp) ⟨hr, ⟨_, rfl⟩, _, _, rfl, hR.snoc (runTxt rfl)⟩
  · intro m₁ news₁ h₂ tk₂ hJ F₁ N₁
    obtain ⟨hr, ⟨ta, ha⟩, vs, n, rfl, hR⟩ := hJ
    clear F N
    have e : y.cps.size = y.cps.toList.length := by simp
    rw [e, runsOf_at, ← hyc] at hR
    walk_at "GO"
    exact h h₂ tk₂ D vs F₁.keep (N₁ _ (.head _)).2.2 (News.list N₁ (.head _)) hR
end
end Mine

end PartFruns

section PartPlain2
open PySem PySem.W PyProof.Rows PySem.Calls
set_option maxRecDepth 100000
set_option maxHeartbeats 400000
namespace Mine

def pieces : List Str := [Str.ofString "0", Str.ofString "1", Str.ofString "9", Str.ofString ".", Str.ofString "_", Str.ofString "+", Str.ofString "-", Str.ofString "/", Str.ofString "\\", Str.ofString ":",
  Str.ofString ";", Str.ofString "\"", Str.ofString "(", Str.ofString ")", Str.ofString " ", Str.ofString "\t", Str.ofString "unknown", Str.ofString "un", Str.ofString "known", Str.ofString "a",
  Str.ofString "c", Str.ofString "p", Str.ofString "l", Str.ofString "rc", Str.ofString "RC", Str.ofString "dev", Str.ofString "alpha", Str.ofString "beta", Str.ofString "pl", Str.ofString "x"]
def pieceAt (x : Int) : Str := pieces.getD (x.fmod 32).toNat Str.empty

/-- the row of fields under way: those that are closed, and the last -/
def stepF (st : List Str × Str) (x : Int) : List Str × Str :=
  if x.fmod 32 > 29 then (st.1 ++ [st.2], Str.ofString "") else (st.1, st.2 ++ pieceAt x)
def stF (ns : List Int) (i : Nat) : List Str × Str := (ns.take i).foldl stepF ([], Str.ofString "")
def tailF : List Str := [Str.ofString "1unknown0 a", Str.ofString "\trc(9)dev ", Str.ofString "un known/pl\t.b"]
def fieldsOf (ns : List Int) : List Str := (ns.foldl stepF ([], Str.ofString "")).1 ++ [(ns.foldl stepF ([], Str.ofString "")).2] ++ tailF

theorem stF_zero (ns : List Int) : stF ns 0 = ([], Str.ofString "") := by simp [stF]
theorem stF_succ {ns : List Int} {i : Nat} {x : Int} (h : ns[i]? = some x) : stF ns (i + 1) = stepF (stF ns i) x := by
  unfold stF; rw [List.take_add_one, h]; simp
theorem fields_at (ns : List Int) : (stF ns ns.length).1 ++ [(stF ns ns.length).2] ++ tailF = fieldsOf ns := by simp [stF, fieldsOf]

def StrsAre : List Str → List Value → Prop
  | [], [] => True
  | x :: xs, v :: vs => (∃ t, v = .str x t) ∧ StrsAre xs vs
  | _, _ => False
theorem StrsAre.length : ∀ {xs : List Str} {vs : List Value}, StrsAre xs vs → vs.length = xs.length
  | [], [], _ => rfl
  | _ :: _, _ :: _, h => by simp [h.2.length]
  | [], _ :: _, h => h.elim
  | _ :: _, [], h => h.elim
theorem StrsAre.append : ∀ {xs : List Str} {vs : List Value} {ys : List Str} {ws : List Value}, StrsAre xs vs → StrsAre ys ws → StrsAre (xs ++ ys) (vs ++ ws)
  | [], [], _, _, _, h => h
  | _ :: _, _ :: _, _, _, h, h' => ⟨h.1, h.2.append h'⟩
  | [], _ :: _, _, _, h, _ => h.elim
  | _ :: _, [], _, _, h, _ => h.elim
theorem StrsAre.get : ∀ {xs : List Str} {vs : List Value} {i : Nat} {v : Value}, StrsAre xs vs → vs[i]? = some v → ∃ x t, xs[i]? = some x ∧ v = .str x t
  | [], [], _, _, _, h => by simp at h
  | x :: _, _ :: _, 0, _, h, h' => by obtain ⟨⟨t, e⟩, _⟩ := h; simp at h'; exact ⟨x, t, rfl, by rw [← h', e]⟩
  | _ :: _, _ :: _, i + 1, _, h, h' => by
    obtain ⟨x, t, e1, e2⟩ := h.2.get (i := i) (by simpa using h')
    exact ⟨x, t, by simpa using e1, e2⟩
  | [], _ :: _, _, _, h, _ => h.elim
  | _ :: _, [], _, _, h, _ => h.elim
theorem StrsAre.at : ∀ {xs : List Str} {vs : List Value} {i : Nat} {x : Str}, StrsAre xs vs → xs[i]? = some x → ∃ t, vs[i]? = some (.str x t)
  | [], [], _, _, _, h => by simp at h
  | x :: _, _ :: _, 0, _, h, h' => by obtain ⟨⟨t, e⟩, _⟩ := h; simp at h'; exact ⟨t, by rw [e, h']; rfl⟩
  | _ :: _, _ :: _, i + 1, _, h, h' => by
    obtain ⟨t, e⟩ := h.2.at (i := i) (by simpa using h')
    exact ⟨t, by simpa using e⟩
  | [], _ :: _, _, _, h, _ => h.elim
  | _ :: _, [], _, _, h, _ => h.elim
theorem StrsAre.take : ∀ {xs : List Str} {vs : List Value} (k : Nat), StrsAre xs vs → StrsAre (xs.take k) (vs.take k)
  | [], [], _, _ => by simp [StrsAre]
  | _ :: _, _ :: _, 0, _ => trivial
  | _ :: _, _ :: _, k + 1, h => ⟨h.1, h.2.take k⟩
  | [], _ :: _, _, h => h.elim
  | _ :: _, [], _, h => h.elim
theorem StrsAre.drop : ∀ {xs : List Str} {vs : List Value} (k : Nat), StrsAre xs vs → StrsAre (xs.drop k) (vs.drop k)
  | [], [], _, _ => by simp [StrsAre]
  | _ :: _, _ :: _, 0, h => h
  | _ :: _, _ :: _, k + 1, h => h.2.drop k
  | [], _ :: _, _, h => h.elim
  | _ :: _, [], _, h => h.elim
theorem StrsAre.unsnoc : ∀ {xs : List Str} {vs : List Value} {x : Str}, StrsAre (xs ++ [x]) vs → ∃ vs' t, vs = vs' ++ [.str x t] ∧ StrsAre xs vs'
  | [], [v], _, h => by obtain ⟨⟨t, e⟩, _⟩ := h; exact ⟨[], t, by rw [e]; rfl, trivial⟩
  | [], [], _, h => h.elim
  | [], _ :: _ :: _, _, h => h.2.elim
  | _ :: _, [], _, h => h.elim
  | _ :: _, v :: vs, _, h => by
    obtain ⟨vs', t, e, h1⟩ := StrsAre.unsnoc h.2
    exact ⟨v :: vs', t, by rw [e]; rfl, ⟨h.1, h1⟩⟩

theorem mod32 (x : Int) : 0 ≤ x.fmod 32 ∧ x.fmod 32 < 32 := by
  rw [Int.fmod_eq_emod_of_nonneg _ (by decide)]; omega
theorem pieceAt_get {x : Int} (h : ¬ x.fmod 32 > 29) : pieces[(x.fmod 32).toNat]? = some (pieceAt x) := by
  have := mod32 x
  have hl : (x.fmod 32).toNat < pieces.length := by show _ < 30; omega
  unfold pieceAt
  rw [List.getD_eq_getElem?_getD, List.getElem?_eq_getElem hl]; rfl
theorem piece_len {k : Nat} {p : Str} (h : pieces[k]? = some p) : p.length ≤ 7 := by
  have hk : k < 30 := (List.getElem?_eq_some_iff.mp h).1
  have : ∀ k < 30, ∀ p, pieces[k]? = some p → p.length ≤ 7 := by decide +kernel
  exact this k hk p h
theorem pieceAt_len {x : Int} (h : ¬ x.fmod 32 > 29) : (pieceAt x).length ≤ 7 := piece_len (pieceAt_get h)
theorem stepF_len {st : List Str × Str} {x : Int} {i : Nat} (h : st.2.length ≤ 7 * i) : (stepF st x).2.length ≤ 7 * (i + 1) := by
  unfold stepF
  split
  · show (Str.ofString "").length ≤ _; rw [show (Str.ofString "").length = 0 from rfl]; omega
  · rename_i hx
    have := pieceAt_len hx
    show (st.2 ++ pieceAt x).length ≤ _
    rw [Str.length_append]; omega
theorem stF_len (ns : List Int) : ∀ i, (stF ns i).2.length ≤ 7 * i
  | 0 => by rw [stF_zero]; decide
  | i + 1 => by
    cases h : ns[i]? with
    | some x => rw [stF_succ h]; exact stepF_len (stF_len ns i)
    | none =>
      have e : ns.take (i + 1) = ns.take i := by rw [List.take_add_one, h]; simp
      have := stF_len ns i
      unfold stF at this ⊢
      rw [e]; omega
theorem stF_count (ns : List Int) : ∀ i, (stF ns i).1.length ≤ i
  | 0 => by rw [stF_zero]; exact Nat.le_refl _
  | i + 1 => by
    have ih := stF_count ns i
    cases h : ns[i]? with
    | some x =>
      rw [stF_succ h]; unfold stepF
      split
      · simp; omega
      · exact Nat.le_succ_of_le ih
    | none =>
      have e : ns.take (i + 1) = ns.take i := by rw [List.take_add_one, h]; simp
      unfold stF at ih ⊢
      rw [e]; omega
end Mine

end PartPlain2

section PartFfields
open PySem PySem.W PyProof.Rows PySem.Calls
set_option maxRecDepth 100000
set_option pp.maxSteps 2000
set_option maxHeartbeats 0
namespace Mine
theorem getPiece {prog : Program} {w : World} {A : Around} {E : Value → Shared → Prop} {s : Shared} {value slice : PySem.Expr} {P : Addr} {pv : List Value} {x : Int} {u : Tok} {Q : Value → Shared → Prop}
    (hl : s.heap.IsList P pv.toArray) (hp : StrsAre pieces pv) (hx : ¬ x.fmod 32 > 29) (h : ∀ t, Q (.str (pieceAt x) t) s)
    (hs : subscripted slice false (.ref P) (.int (x.fmod 32) u) = operate [.ref P, .int (x.fmod 32) u] (getItem (.ref P) (.int (x.fmod 32) u)) := by with_unfolding_all rfl) :
    wpAny (model prog w) A (subscriptTail value slice (.ref P) (.int (x.fmod 32) u)) Q E s := by
  obtain ⟨t, ht⟩ := hp.at (pieceAt_get hx)
  have hm := mod32 x
  exact tail_any hl.typeIs slot_list_getitem.lookup (wpAny_getItem_list hl hm.1 (by omega) (by simpa using ht) (h t)) hs

section
local macro_rules | `(tactic| walk_at "GO") => `(tactic| (repeat' (first | (k_unfold; (try dsimp only)) | (walk1; try dsimp only) | (dsimp only; walk1))))
local macro_rules | `(tactic| walk_at "eval Name") => `(tactic| (refine ld (by assumption) (by first | with_reducible rfl | rfl | assumption) ?_))
local macro_rules | `(tactic| walk_at "subscriptTail Name UnaryOp ref int") => `(tactic| (refine getLast (News.list (by assumption) (by exact List.Mem.head _)) ?_))
local macro_rules | `(tactic| walk_at "subscriptTail Name BinOp ref int") => `(tactic| (refine getPiece (News.list (by assumption) (by exact List.Mem.tail _ (List.Mem.head _))) (by assumption) (by assumption) ?_; intro _))
local macro_rules | `(tactic| walk_at "setItem ref int") => `(tactic| (refine' setLast ?k1 ?k2 ?k3 ?_; (case k1 => assumption); (case k2 => assumption); (case k3 => k_upd); intro h' F' N'; (try k_sweep)))
local macro_rules | `(tactic| walk_at "binaryOp Add str str") => `(tactic| (refine add_str_toks ?_ ?_; rotate_left; (size_fits); intro _ _ _))
local macro_rules | `(tactic| walk_at "call builtin:list.append") => `(tactic| (refine' append_K ?k1 ?k2 ?k3 ?_ ?k4; (case k1 => assumption); (case k2 => assumption); (case k3 => k_upd); (case k4 => (simp only [List.size_toArray]; size_fits)); intro h' F' N'; (try simp only [List.push_toArray] at N'); (try k_sweep)))

theorem fields_call {w : World} {A : Around} {s : Shared} {R : Result → Shared → Prop} {nl : Addr} {vs : List Value} {ns : List Int} {mg mb : Str → Option Value}
    (X : (hd.heap_39 w.params).In s.heap) (T : TopRead hd.view_39 Loose mg mb s.heap) (hroom : A.depth < 900) (hl : s.heap.IsList nl vs.toArray) (hi : IntsAre vs ns) (hn : ns.length ≤ 14) (hh : A.handled = none)
    (h : ∀ h' k a ws, s.heap.StaysIn h' → s.heap.get? a = none → h'.IsList a ws.toArray → StrsAre (fieldsOf ns) ws → R (.ok (.ret (.ref a))) { s with heap := h', toks := k }) :
    codeAny (model PySem.Challenge.rw_ny0464_01.row.prog w) A (.call (.ref 58) ⟨[.ref nl], []⟩) R s := by
  revert X; k_fill; intro X
  refine call_plain_ret (a := 58) (binds := [(Str.ofString "numbers", .ref nl)]) (Nat.lt_trans hroom (by decide)) (X 58 _ (by k_is)) rfl T.nolimit (codeRec_of X (by k_is)) (by rfl) (locs (by rfl)) ?_
  intro h₁ F
  have N : News s.heap s.heap.objs.size h₁ [] := News.nil
  w_on
  walk_at "GO"
  rename Fr _ _ _ _ => F
  rename News _ _ _ _ => N
  rename IntsAre _ _ => hi
  rename_i P _ _ _ tk0 D _ hPD h₃
  obtain ⟨pv, hpv, N⟩ : ∃ pv, StrsAre pieces pv ∧ News s.heap s.heap.objs.size h₃ [(D, W.listOf [Value.str (Str.ofString "") tk0].toArray 0), (P, W.listOf pv.toArray 0)] :=
    ⟨_, by repeat (first | exact trivial | refine ⟨⟨_, rfl⟩, ?_⟩), N⟩
  obtain ⟨onl, honl, _⟩ := id hl
  have hnl : nl < s.heap.objs.size := Heap.lt_size honl
  refine iter_list (vs := vs) (fun i m nx => m (Str.ofString "fields") = some (.ref D) ∧ m (Str.ofString "pieces") = some (.ref P) ∧ ∃ ws n, nx = [(D, W.listOf ws.toArray n), (P, W.listOf pv.toArray 0)] ∧ StrsAre ((stF ns i).1 ++ [(stF ns i).2]) ws) hh
    (hl.at fun o e => F.keep _ _ e) (Nat.ne_of_gt hnl) (fun p hp e => by have := (N p hp).2.2; rw [e, honl] at this; cases this) F N ?_ ?_ ?_
  · exact ⟨rfl, rfl, _, 0, rfl, ⟨⟨_, rfl⟩, trivial⟩⟩
  · intro i v m₁ news₁ h₂ tk₂ own hv hadr hown hJ F₁ N₁
    obtain ⟨hf, hp, ws, n, rfl, hS⟩ := hJ
    clear F N hadr
    replace F₁ : Fr s.heap s.heap.objs.size h₂ _ := F₁
    replace hown : OwnOff own [D, P] := hown
    replace N₁ : News s.heap s.heap.objs.size h₂ ((D, W.listOf ws.toArray n) :: (P, W.listOf pv.toArray 0) :: own) := N₁
    have hlt : i < ns.length := by have := (List.getElem?_eq_some_iff.mp hv).1; rw [← hi.length]; exact this
    obtain ⟨t, hx⟩ := hi.get i ns[i] (by simp [hlt])
    rw [hv] at hx
    cases hx
    have hns : ns[i]? = some ns[i] := by simp [hlt]
    rw [stF_succ hns]
    have hlen := stF_len ns i
    have hcnt := stF_count ns i
    generalize ns[i] = x at hns F₁ ⊢
    generalize stF ns i = st at hlen hcnt hS ⊢
    obtain ⟨ws', tl, rfl, hS'⟩ := hS.unsnoc
    have hwl := hS'.length
    have hlen' : st.2.length ≤ 98 := by omega
    by_cases hm : x.fmod 32 > 29
    · rw [show stepF st x = (st.1 ++ [st.2], Str.ofString "") by unfold stepF; rw [if_pos hm]]
      walk_at "GO"
      rename Fr _ _ _ _ => F₂; rename News _ _ _ _ => N₂
      rw [List.push_toArray] at N₂
      exact invEnd2 F₂ N₂ (fun p hp => hp) ⟨hf, hp, _, _, rfl, hS.append ⟨⟨_, rfl⟩, trivial⟩⟩
    · rw [show stepF st x = (st.1, st.2 ++ pieceAt x) by unfold stepF; rw [if_neg hm]]
      have hpl := pieceAt_len hm
      walk_at "GO"
      rename Fr _ _ _ _ => F₂; rename News _ _ _ _ => N₂
      exact invEnd2 F₂ N₂ (fun p hp => hp) ⟨hf, hp, _, _, rfl, hS'.append ⟨⟨_, rfl⟩, trivial⟩⟩
  · intro m₁ news₁ h₂ tk₂ hJ F₁ N₁
    obtain ⟨hf, hp, ws, n, rfl, hS⟩ := hJ
    clear F N
    replace F₁ : Fr s.heap s.heap.objs.size h₂ _ := F₁
    replace N₁ : News s.heap s.heap.objs.size h₂ _ := N₁
    walk_at "GO"
    rename Fr _ _ _ _ => F₂; rename News _ _ _ _ => N₂
    have hcnt := stF_count ns vs.length
    have hwl := hS.length
    have hvl := hi.length
    refine add_lists F₂ N₂ (News.list N₂ (.tail _ (.head _))) (News.list N₂ (.head _)) ?_ ?_
    · intro h' F' N'
      refine h h' _ _ _ F'.keep (N' _ (.head _)).2.2 (News.list N' (.head _)) ?_
      rw [← fields_at, ← hvl]
      exact hS.append ⟨⟨_, rfl⟩, ⟨_, rfl⟩, ⟨_, rfl⟩, trivial⟩
    · simp only [List.length_append, List.length_cons, List.length_nil] at hwl ⊢
      rw [sizeLine_eq]; omega
end
end Mine

end PartFfields

section PartBase3
open PySem PySem.W PyProof.Rows PySem.Calls
set_option maxRecDepth 100000
set_option maxHeartbeats 400000
namespace Mine

/-- the ranks of the written stages -/
def RANKS : List (PyData × PyData) := [(.str (Str.ofString "dev"), .int 10), (.str (Str.ofString "alpha"), .int 20), (.str (Str.ofString "a"), .int 20), (.str (Str.ofString "beta"), .int 30), (.str (Str.ofString "b"), .int 30),
  (.str (Str.ofString "c"), .int 40), (.str (Str.ofString "RC"), .int 50), (.str (Str.ofString "rc"), .int 50), (.str (Str.ofString "pl"), .int 200), (.str (Str.ofString "p"), .int 200)]
def rankZ (x : Str) : Int := PyProof.Rows.intAt (.str x) 0 RANKS
def rankN (l : List Nat) : Nat := (rankZ ⟨l.toArray⟩).toNat
theorem lookup_mem {k d : PyData} : ∀ {D : List (PyData × PyData)}, Spec.lookup k D = some d → d ∈ D.map (·.2)
  | [], h => by cases h
  | (a, b) :: r, h => by
    unfold Spec.lookup at h
    split at h
    · cases h; exact .head _
    · exact .tail _ (lookup_mem h)
theorem rankZ_nonneg (x : Str) : 0 ≤ rankZ x := by
  unfold rankZ PyProof.Rows.intAt
  split
  · rename_i c e
    have h := lookup_mem e
    simp only [RANKS, List.map_cons, List.map_nil, List.mem_cons, PyData.int.injEq, List.not_mem_nil, or_false] at h
    omega
  · exact Int.le_refl _
theorem rank_cast (l : List Nat) : rankZ ⟨l.toArray⟩ = ((rankN l : Nat) : Int) := by
  unfold rankN; have := rankZ_nonneg ⟨l.toArray⟩; omega
theorem ranks_shaped : Shaped .str .int RANKS := by unfold Shaped; decide

/-- what a run brings into the list: its rank, and itself -/
def emitR : Run → List Run
  | .num n => [.num 100, .num n]
  | .txt l => [.num (rankN l), .txt l]
def emits (rs : List Run) : List Run := rs.flatMap emitR
theorem emits_append (a b : List Run) : emits (a ++ b) = emits a ++ emits b := by simp [emits]
theorem emits_one (r : Run) : emits [r] = emitR r := by simp [emits]
def toldOf (fs : List Str) : List Run := fs.flatMap fun f => emits (runsOf (cleanF f))
theorem toldOf_append (a b : List Str) : toldOf (a ++ b) = toldOf a ++ toldOf b := by simp [toldOf]
theorem RunsAre.append : ∀ {rs : List Run} {vs : List Value} {qs : List Run} {ws : List Value}, RunsAre rs vs → RunsAre qs ws → RunsAre (rs ++ qs) (vs ++ ws)
  | [], [], _, _, _, h => h
  | _ :: _, _ :: _, _, _, h, h' => ⟨h.1, h.2.append h'⟩
  | [], _ :: _, _, _, h, _ => h.elim
  | _ :: _, [], _, _, h, _ => h.elim
theorem RunsAre.get : ∀ {rs : List Run} {vs : List Value} {i : Nat} {v : Value}, RunsAre rs vs → vs[i]? = some v → ∃ r, rs[i]? = some r ∧ RunV r v
  | [], [], _, _, _, h => by simp at h
  | x :: _, _ :: _, 0, _, h, h' => by simp at h'; exact ⟨x, rfl, h' ▸ h.1⟩
  | _ :: _, _ :: _, i + 1, _, h, h' => by
    obtain ⟨x, e1, e2⟩ := h.2.get (i := i) (by simpa using h')
    exact ⟨x, by simpa using e1, e2⟩
  | [], _ :: _, _, _, h, _ => h.elim
  | _ :: _, [], _, _, h, _ => h.elim
theorem emits_len (rs : List Run) : (emits rs).length = 2 * rs.length := by
  induction rs with
  | nil => rfl
  | cons r rs ih =>
    have e : emits (r :: rs) = emitR r ++ emits rs := by simp [emits]
    rw [e, List.length_append, ih]
    cases r <;> simp [emitR] <;> omega

section
variable {prog : Program} {w : World} {A : Around} {E : Value → Shared → Prop} {s : Shared} {h₀ : Heap} {L D : Addr} {m : Str → Option Value} {news news' : List (Addr × Obj)} {env : Env}

theorem dict_K {keys : List (Option PySem.Expr)} {values : List PySem.Expr} {pos : Pos} {Q : Value → Shared → Prop} (F : Fr h₀ L s.heap m) (N : News h₀ L s.heap news) (hbig : h₀.NoLimit) (hD : litPairs keys values = some RANKS)
    (hall : keys.all (·.isSome) = true) (hl : keys.length = values.length) (h0 : keys ≠ []) (hlen : keys.length ≤ 15)
    (h : ∀ a o h' tk, Fr h₀ L h' m → News h₀ L h' ((a, o) :: news) → (∀ p ∈ news, p.1 < a) → (a == sysModules) = false → TabObj (strKind prog w) PyData.str RANKS o → Q (.ref a) { s with heap := h', toks := tk }) :
    wpAny (model prog w) A (eval (.Dict keys values pos) env) Q E s := by
  refine Dict_lits_str hD (by decide) (by decide) hall hl h0 hlen fun a o h₁ tk ha ho hT hk => ?_
  refine h a o h₁ tk (F.grownK hk) (fun p hp => ?_) (fun p hp => Nat.lt_of_lt_of_le (Heap.lt_size (N p hp).1) ha) (by
    have h1 := modules_low hbig
    have h2 := F.above
    have h3 := F.ns.lt
    exact beq_eq_false_iff_ne.mpr (Nat.ne_of_gt (Nat.lt_of_lt_of_le (Nat.lt_of_le_of_lt (Nat.le_trans (Nat.le_of_lt h1) h2) h3) ha))) hT
  rcases List.mem_cons.mp hp with rfl | hp
  · refine ⟨ho, Nat.ne_of_gt (Nat.lt_of_lt_of_le F.ns.lt ha), ?_⟩
    cases q : h₀.get? a with
    | none => rfl
    | some o' => exact absurd (Heap.lt_size (F.keep _ _ q)) (Nat.not_lt.mpr ha)
  · exact ⟨hk _ _ (N p hp).1, (N p hp).2⟩

theorem get_rank {d : Addr} {x : Str} {t u : Tok} {Q : Value → Shared → Prop} (T : TabAt (strKind prog w) PyData.str s.heap d RANKS)
    (h : ∀ t', Q (.int (rankZ x) t') { s with toks := s.toks + 1 }) : wpAny (model prog w) A (call (.builtin "dict.get") [.ref d, .str x t, .int 0 u]) Q E s :=
  call_get2_tab_int (knd := strKind prog w) (enc := PyData.str) (k := x) PyProof.V.same_str (strKind_is prog w x t) T ranks_shaped h

theorem extend_L {b : Addr} {ys its2 : List Value} {n n2 : Nat} {Q : Value → Shared → Prop} (F : Fr h₀ L s.heap m) (N : News h₀ L s.heap news)
    (hb : (b, W.listOf its2.toArray n2) ∈ news) (hne : its2 ≠ []) (U : Upd D (W.listOf ys.toArray n) (W.listOf (ys ++ its2).toArray (n + 1)) news news')
    (h : ∀ h', Fr h₀ L h' m → News h₀ L h' news' → Q .none { s with heap := h' }) (hsz : ys.length + its2.length ≤ sizeLine) :
    wpAny (model prog w) A (call (.builtin "list.extend") [.ref D, .ref b]) Q E s := by
  obtain ⟨pre, post, rfl, rfl, a, c⟩ := U.split
  have hm := N (D, W.listOf ys.toArray n) (List.mem_append.mpr (.inr (.head _)))
  have hsz' : ys.toArray.size + its2.toArray.size ≤ sizeLine := by simpa using hsz
  refine call_meets PySem.F.slot_list_extend ⟨_, hm.1, rfl⟩ PySem.F.entry_list_extend (PySem.F.args_list_extend_2 _ _) (AutoSeq1.list_extend_list_list_0 D ys.toArray n b its2.toArray n2 (extend_door hsz') (Nat.le_trans (Nat.le_add_right _ _) hsz') (by omega)) ⟨hm.1, (N _ hb).1, ?_⟩
  have hl : 0 < its2.length := List.length_pos_iff.mpr hne
  have ho' : (s.heap.update D (Obj.mapSeq fun x => x ++ its2.toArray)).get? D = some (W.listOf (ys ++ its2).toArray (n + 1)) := by
    rw [Heap.get?_update_self _ hm.1 (by rw [mapSeq_app]; rfl), mapSeq_app]
    have e : ((ys.toArray ++ its2.toArray).size == ys.toArray.size) = false := by simp; omega
    rw [e]; simp
  exact h _ (F.change (Heap.SameBut.update ..) hm.2.1 hm.2.2) (news_set N a c (Heap.SameBut.update ..) ho')
abbrev tupOf (its : Array Value) (n : Nat) : Obj := { cls := .type "tuple", data := .seq its n }
theorem extend_T {b : Addr} {ys its2 : List Value} {n n2 : Nat} {Q : Value → Shared → Prop} (F : Fr h₀ L s.heap m) (N : News h₀ L s.heap news)
    (hb : (b, tupOf its2.toArray n2) ∈ news) (hne : its2 ≠ []) (U : Upd D (W.listOf ys.toArray n) (W.listOf (ys ++ its2).toArray (n + 1)) news news')
    (h : ∀ h', Fr h₀ L h' m → News h₀ L h' news' → Q .none { s with heap := h' }) (hsz : ys.length + its2.length ≤ sizeLine) :
    wpAny (model prog w) A (call (.builtin "list.extend") [.ref D, .ref b]) Q E s := by
  obtain ⟨pre, post, rfl, rfl, a, c⟩ := U.split
  have hm := N (D, W.listOf ys.toArray n) (List.mem_append.mpr (.inr (.head _)))
  have hsz' : ys.toArray.size + its2.toArray.size ≤ sizeLine := by simpa using hsz
  refine call_meets PySem.F.slot_list_extend ⟨_, hm.1, rfl⟩ PySem.F.entry_list_extend (PySem.F.args_list_extend_2 _ _) (AutoSeq1.list_extend_list_tuple_0 D ys.toArray n b its2.toArray n2 (extend_door hsz') (Nat.le_trans (Nat.le_add_right _ _) hsz') (by omega)) ⟨hm.1, (N _ hb).1, ?_⟩
  have hl : 0 < its2.length := List.length_pos_iff.mpr hne
  have ho' : (s.heap.update D (Obj.mapSeq fun x => x ++ its2.toArray)).get? D = some (W.listOf (ys ++ its2).toArray (n + 1)) := by
    rw [Heap.get?_update_self _ hm.1 (by rw [mapSeq_app]; rfl), mapSeq_app]
    have e : ((ys.toArray ++ its2.toArray).size == ys.toArray.size) = false := by simp; omega
    rw [e]; simp
  exact h _ (F.change (Heap.SameBut.update ..) hm.2.1 hm.2.2) (news_set N a c (Heap.SameBut.update ..) ho')
theorem get_method {d : Addr} {o : Obj} {pl : Sem Bool} {Q : Value × List Value → Shared → Prop} (N : News h₀ L s.heap news) (hp : (d, o) ∈ news) (hT : TabObj (strKind prog w) PyData.str RANKS o)
    (h : Q (.builtin "dict.get", [.ref d]) s) : wpAny (model prog w) A (getMethod (.ref d) "get" pl) Q E s := by
  obtain ⟨kvs, hd, _⟩ := hT
  exact kdg_method N hp hd h
theorem get_rank_N {d : Addr} {o : Obj} {x : Str} {t u : Tok} {Q : Value → Shared → Prop} (N : News h₀ L s.heap news) (hp : (d, o) ∈ news) (lo : (d == sysModules) = false) (hT : TabObj (strKind prog w) PyData.str RANKS o)
    (h : ∀ t', Q (.int (rankZ x) t') { s with toks := s.toks + 1 }) : wpAny (model prog w) A (call (.builtin "dict.get") [.ref d, .str x t, .int 0 u]) Q E s := by
  obtain ⟨kvs, hd, hf⟩ := hT
  exact get_rank (TabAt.ofObj lo (N _ hp).1 hd hf) h
end
end Mine
namespace Mine
theorem runsOf_len (t : List Nat) : (runsOf t).length ≤ t.length := by
  have := (okSt_at t t.length (Nat.le_refl _)).len
  rwa [runsOf_at] at this
theorem cleanF_len (x : Str) : (cleanF x).length ≤ x.length := by
  have h : (Txt.replace (Txt.stripChars x (Str.ofString " \t")) (Str.ofString "unknown") (Str.ofString "")).length ≤ x.length :=
    Nat.le_trans (len_replace_nil _ _) (len_stripChars _ _)
  simpa [cleanF, Str.length] using h
theorem toldOf_len : ∀ fs : List Str, (∀ f ∈ fs, f.length ≤ 1000) → (toldOf fs).length ≤ 2000 * fs.length
  | [], _ => by simp [toldOf]
  | f :: fs, h => by
    have ih := toldOf_len fs fun g hg => h g (.tail _ hg)
    have h1 := h f (.head _)
    have h2 := runsOf_len (cleanF f)
    have h3 := cleanF_len f
    have e : toldOf (f :: fs) = emits (runsOf (cleanF f)) ++ toldOf fs := by simp [toldOf]
    rw [e, List.length_append, emits_len, List.length_cons]
    omega
theorem emits_take_succ {rs : List Run} {j : Nat} {r : Run} (h : rs[j]? = some r) : emits (rs.take (j + 1)) = emits (rs.take j) ++ emitR r := by
  rw [List.take_add_one, h, emits_append]; simp [emits]
theorem told_take_succ {fs : List Str} {i : Nat} {f : Str} (h : fs[i]? = some f) : toldOf (fs.take (i + 1)) = toldOf (fs.take i) ++ emits (runsOf (cleanF f)) := by
  rw [List.take_add_one, h, toldOf_append]; simp [toldOf]
end Mine

end PartBase3

section PartFtold
open PySem PySem.W PyProof.Rows PySem.Calls
set_option maxRecDepth 100000
set_option pp.maxSteps 2000
set_option maxHeartbeats 0
namespace Mine
section
local macro_rules | `(tactic| walk_at "GO") => `(tactic| (repeat' (first | (k_unfold; (try dsimp only)) | (walk1; try dsimp only) | (dsimp only; walk1))))
local macro_rules | `(tactic| walk_at "eval Name") => `(tactic| (refine ld (by assumption) (by first | with_reducible rfl | rfl | assumption) ?_))

theorem told_call {w : World} {A : Around} {s : Shared} {R : Result → Shared → Prop} {fl : Addr} {vs : List Value} {fs : List Str} {mg mb : Str → Option Value}
    (X : (hd.heap_39 w.params).In s.heap) (T : TopRead hd.view_39 Loose mg mb s.heap) (hroom : A.depth < 800) (hl : s.heap.IsList fl vs.toArray) (hi : StrsAre fs vs) (hn : ∀ f ∈ fs, f.length ≤ 1000) (hfn : fs.length ≤ 100) (hh : A.handled = none)
    (h : ∀ h' k a (ws : List Value), s.heap.StaysIn h' → s.heap.get? a = none → h'.IsList a ws.toArray → RunsAre (toldOf fs) ws → R (.ok (.ret (.ref a))) { s with heap := h', toks := k }) :
    codeAny (model PySem.Challenge.rw_ny0464_01.row.prog w) A (.call (.ref 72) ⟨[.ref fl], []⟩) R s := by
  revert X; k_fill; intro X
  refine call_plain_ret (a := 72) (binds := [(Str.ofString "fields", .ref fl)]) (Nat.lt_trans hroom (by decide)) (X 72 _ (by k_is)) rfl T.nolimit (codeRec_of X (by k_is)) (by rfl) (locs (by rfl)) ?_
  intro h₁ F
  have N : News s.heap s.heap.objs.size h₁ [] := News.nil
  w_on
  refine wpAny_execs_cons ?_
  with_reducible refine wpAny_Assign_Name ?_ ?_
  rotate_left
  · with_unfolding_all rfl
  with_reducible refine dict_K F N T.nolimit ?_ ?_ ?_ ?_ ?_ ?_
  · rfl
  · rfl
  · rfl
  · intro z; cases z
  · decide
  intro Rk o h₂ tk₂ F N hlt hlo hT
  dsimp only
  walk_at "GO"
  rename Fr _ _ _ _ => F
  rename News _ _ _ _ => N
  rename_i D _ hRD _
  refine For_invV s.heap rfl rfl ?_
  walk1
  obtain ⟨ofl, hofl, _⟩ := id hl
  have hfl : fl < s.heap.objs.size := Heap.lt_size hofl
  have hfsl := hi.length
  refine iter_list (vs := vs) (fun i m nx => m (Str.ofString "told") = some (.ref D) ∧ m (Str.ofString "ranks") = some (.ref Rk) ∧ ∃ ws n, nx = [(D, W.listOf ws.toArray n), (Rk, o)] ∧ RunsAre (toldOf (fs.take i)) ws) hh
    (hl.at fun o e => F.keep _ _ e) (Nat.ne_of_gt hfl) (fun p hp e => by have := (N p hp).2.2; rw [e, hofl] at this; cases this) F N ?_ ?_ ?_
  · exact ⟨rfl, rfl, [], 0, rfl, by simp [toldOf, RunsAre]⟩
  · intro i v m₁ news₁ h₃ tk₃ own hv hadr hown hJ F₁ N₁
    obtain ⟨hto, hra, ws, n, rfl, hS⟩ := hJ
    clear F N hadr
    replace F₁ : Fr s.heap s.heap.objs.size h₃ _ := F₁
    replace hown : OwnOff own [D, Rk] := hown
    replace N₁ : News s.heap s.heap.objs.size h₃ ((D, W.listOf ws.toArray n) :: (Rk, o) :: own) := N₁
    obtain ⟨f, tf, hf, rfl⟩ := hi.get hv
    have hfm : f ∈ fs := List.mem_of_getElem? hf
    have hfl' := hn f hfm
    refine wpAny_execs_cons ?_
    refine For_invV s.heap rfl rfl ?_
    walk_at "GO"
    refine wpAny_call (runs_call (X.keeps F₁.keep) (T.keeps F₁.keep) (show A.depth + 1 < 900 by omega) hfl' hh ?_)
    intro h₄ k₄ a rv hst hnew hrl hrr
    dsimp only
    have F₄ := F₁.grownK hst
    have N₄ := N₁.grown hst
    have haL : s.heap.objs.size ≠ a := fun e => by
      obtain ⟨_, _, _, q, _⟩ := F₁.ns
      rw [e] at q; exact absurd (q.symm.trans hnew) (by intro z; cases z)
    refine iter_list (vs := rv) (fun j m nx => m (Str.ofString "told") = some (.ref D) ∧ m (Str.ofString "ranks") = some (.ref Rk) ∧ ∃ ws n, nx = (D, W.listOf ws.toArray n) :: (Rk, o) :: own ∧ RunsAre (toldOf (fs.take i) ++ emits ((runsOf (cleanF f)).take j)) ws) hh
      hrl haL (fun p hp e => by have q := (N₁ p hp).1; rw [e] at q; exact absurd (q.symm.trans hnew) (by intro z; cases z)) F₄ N₄ ?_ ?_ ?_
    · exact ⟨hto, hra, ws, n, rfl, by simpa [emits] using hS⟩
    · intro j v m₂ news₂ h₅ tk₅ own₂ hv₂ hadr₂ hown₂ hJ₂ F₂ N₂
      obtain ⟨hto₂, hra₂, ws₂, n₂, rfl, hS₂⟩ := hJ₂
      clear F₁ N₁ F₄ N₄ hadr₂ hto hra
      replace F₂ : Fr s.heap s.heap.objs.size h₅ _ := F₂
      replace hown₂ : OwnOff own₂ (D :: Rk :: own.map (·.1)) := hown₂
      replace N₂ : News s.heap s.heap.objs.size h₅ ((D, W.listOf ws₂.toArray n₂) :: (Rk, o) :: (own ++ own₂)) := N₂
      obtain ⟨r, hr, hrv⟩ := hrr.get hv₂
      have hDr : ∀ p ∈ (Rk, o) :: (own ++ own₂), p.1 ≠ D := by
        intro p hp
        rcases List.mem_cons.mp hp with rfl | hp
        · exact Nat.ne_of_lt hRD
        rcases List.mem_append.mp hp with hp | hp
        · exact hown p hp D (.head _)
        · exact hown₂ p hp D (.head _)
      have hsz : ws₂.length + 2 ≤ sizeLine := by
        have h1 := hS₂.length
        have h2 := toldOf_len (fs.take i) fun g hg => hn g (List.mem_of_mem_take hg)
        have h3 := runsOf_len (cleanF f)
        have h4 := cleanF_len f
        rw [List.length_append, emits_len] at h1
        simp only [List.length_take] at h1 h2
        rw [sizeLine_eq]; omega
      have hend : ∀ (l' : Addr) (ol : Obj) (h' : Heap) (tk' : Nat) (m' : Str → Option Value) (ws' : List Value) (n' : Nat), Fr s.heap s.heap.objs.size h' m' → News s.heap s.heap.objs.size h' ((l', ol) :: (D, W.listOf ws'.toArray n') :: (Rk, o) :: (own ++ own₂)) →
          m' (Str.ofString "told") = some (.ref D) → m' (Str.ofString "ranks") = some (.ref Rk) → RunsAre (toldOf (fs.take i) ++ emits ((runsOf (cleanF f)).take (j + 1))) ws' →
          TurnEnd s.heap s.heap.objs.size (fun m nx => m (Str.ofString "told") = some (.ref D) ∧ m (Str.ofString "ranks") = some (.ref Rk) ∧ ∃ ws n, nx = (D, W.listOf ws.toArray n) :: (Rk, o) :: own ∧ RunsAre (toldOf (fs.take i) ++ emits ((runsOf (cleanF f)).take (j + 1))) ws)
            own₂ (((D, W.listOf ws.toArray n) :: (Rk, o) :: own).map (·.1)) { s with heap := h₅, toks := tk₅ } .next { s with heap := h', toks := tk' } := by
        intro l' ol h' tk' m' ws' n' F' N' e1 e2 hR'
        show InvEndN _ _ _ _ _ _ _
        exact InvEndN.intro (s₁ := { s with heap := h₅, toks := tk₅ }) F' N' ⟨e1, e2, ws', n', rfl, hR'⟩ rfl (fun p hp => .tail _ (by
          rcases List.mem_cons.mp hp with rfl | hp
          · exact .head _
          rcases List.mem_cons.mp hp with rfl | hp
          · exact .tail _ (.head _)
          · exact .tail _ (.tail _ (List.mem_append_left _ hp)))) (fun p hp => .tail _ (.tail _ (.tail _ (List.mem_append_right _ hp))))
      cases r with
      | num q =>
        obtain ⟨tq, rfl⟩ := hrv
        walk_at "GO"
        rename Fr _ _ _ _ => F₃; rename News _ _ _ _ => N₃
        rename_i l' _ l1
        refine extend_L F₃ N₃ (.head _) (by simp) (.tail (Nat.ne_of_gt l1.1) (.head hDr)) ?_ hsz
        intro h₆ F₆ N₆
        dsimp only
        walk_at "GO"
        refine hend _ _ _ _ _ _ _ F₆ N₆ hto₂ hra₂ ?_
        rw [emits_take_succ hr, ← List.append_assoc]
        exact hS₂.append ⟨⟨_, rfl⟩, ⟨_, rfl⟩, trivial⟩
      | txt q =>
        obtain ⟨tq, rfl⟩ := hrv
        walk_at "GO"
        rename Fr _ _ _ _ => F₃; rename News _ _ _ _ => N₃
        refine get_method N₃ (.tail _ (.head _)) hT ?_
        walk_at "GO"
        refine get_rank_N N₃ (.tail _ (.head _)) hlo hT ?_
        intro tr
        rw [rank_cast]
        walk_at "GO"
        rename Fr _ _ _ _ => F₃; rename News _ _ _ _ => N₃
        rename_i l' _ l1
        refine extend_L F₃ N₃ (.head _) (by simp) (.tail (Nat.ne_of_gt l1.1) (.head hDr)) ?_ hsz
        intro h₆ F₆ N₆
        dsimp only
        walk_at "GO"
        refine hend _ _ _ _ _ _ _ F₆ N₆ hto₂ hra₂ ?_
        rw [emits_take_succ hr, ← List.append_assoc]
        exact hS₂.append ⟨⟨_, rfl⟩, ⟨_, rfl⟩, trivial⟩
    · intro m₂ news₂ h₅ tk₅ hJ₂ F₂ N₂
      obtain ⟨hto₂, hra₂, ws₂, n₂, rfl, hS₂⟩ := hJ₂
      rw [hrr.length, List.take_length, ← told_take_succ hf] at hS₂
      dsimp only
      walk_at "GO"
      exact invEnd2 F₂ N₂ (fun p hp => hp) ⟨hto₂, hra₂, ws₂, n₂, rfl, hS₂⟩
  · intro m₁ news₁ h₃ tk₃ hJ F₁ N₁
    obtain ⟨hto, hra, ws, n, rfl, hS⟩ := hJ
    clear F N
    replace F₁ : Fr s.heap s.heap.objs.size h₃ _ := F₁
    walk_at "GO"
    rw [hfsl, List.take_length] at hS
    exact h h₃ tk₃ D ws F₁.keep (N₁ _ (.head _)).2.2 (News.list N₁ (.head _)) hS
end
end Mine

end PartFtold

section PartRe1
open PySem PySem.W PyProof.Rows PySem.Calls
set_option maxRecDepth 100000
set_option maxHeartbeats 400000
namespace Mine
theorem slot_re_split : Slot "re.Pattern" "split" "re.Pattern.split" :=
  .of (owner := "re.Pattern") (n := "split") (by rw [typeLookup_type, builtinLookup_eq_fast]; kernel_rfl) (by decide +kernel) (by decide +kernel) (by decide +kernel)
    (by first | exact .inl (by decide +kernel) | exact .inr (by decide +kernel)) (by rw [isSubtype_type]; kernel_rfl)
theorem type_re_split : typeOf (.builtin "re.Pattern.split") = pure (.type "method_descriptor") := by show builtinType _ = _; rw [builtinType_eq_fast]; kernel_rfl
theorem entry_re_split : entryFor table "re.Pattern.split" = some Builtin.«re.Pattern.split» := entryFor_of_tree (by kernel_rfl)
theorem args_re_split (a b : Value) : argsOk "re.Pattern.split" ⟨[a, b], []⟩ := by
  unfold argsOk; kernel_rfl
end Mine

end PartRe1

section PartRe2
open PySem PySem.W PyProof.Rows PySem.Calls
set_option maxRecDepth 100000
set_option maxHeartbeats 400000
namespace Mine
open PySem.Sre

def CODE : Array Nat := #[14, 4, 0, 1, 4294967295, 17, 0, 7, 14, 24, 10, 1, 4294967295, 13, 5, 22, 48, 57, 0, 1, 15, 17, 15, 13, 11, 9, 0, 26624, 2147483648, 0, 0, 0, 0, 0, 0, 15, 2, 0, 17, 1, 1]

def sep4 (c : Nat) : Bool := [46, 95, 43, 45].contains c

/-- how many figures stand from p on, n at most -/
def dlen (text : Array Nat) : (n p : Nat) → Nat
  | 0, _ => 0
  | n + 1, p => if digB (text.getD p 0) then dlen text n (p + 1) + 1 else 0

theorem accepts_dig (c : Nat) (sn : Sre.Seen) : ∃ sn', accepts CODE 13 c sn = .ok (digB c, sn') := by
  by_cases h : digB c = true
  · refine ⟨sn.add 22, ?_⟩
    have hc := digB_le h
    show (if (decide (48 ≤ c) && decide (c ≤ 57)) = true then Except.ok (true, sn.add 22) else _) = _
    rw [if_pos (by simpa [digB] using h), h]
  · refine ⟨(sn.add 22).add 0, ?_⟩
    have h' : digB c = false := by simpa using h
    show (if (decide (48 ≤ c) && decide (c ≤ 57)) = true then Except.ok (true, sn.add 22) else Except.ok (false, (sn.add 22).add 0)) = _
    rw [if_neg (by simpa [digB] using h), h']

theorem run_dig (text : Array Nat) : ∀ (n p found : Nat) (sn : Sre.Seen), ∃ sn', Sre.run CODE text 13 n p found sn = .ok (found + dlen text n p, sn')
  | 0, _, found, sn => ⟨sn, rfl⟩
  | n + 1, p, found, sn => by
    obtain ⟨sn₁, e⟩ := accepts_dig (text.getD p 0) sn
    unfold Sre.run dlen
    rw [e]
    cases h : digB (text.getD p 0) with
    | true =>
      obtain ⟨sn₂, e₂⟩ := run_dig text n (p + 1) (found + 1) sn₁
      refine ⟨sn₂, ?_⟩
      show Sre.run CODE text 13 n (p + 1) (found + 1) sn₁ = _
      rw [e₂]; simp; omega
    | false => exact ⟨sn₁, by simp; rfl⟩

theorem charset_eq (c : Nat) : (decide (c < 256) && (CODE.getD (25 + (1 + c / 32)) 0).testBit (c % 32)) = sep4 c := by
  by_cases h : c < 256
  · have : ∀ c < 256, (decide (c < 256) && (CODE.getD (25 + (1 + c / 32)) 0).testBit (c % 32)) = sep4 c := by decide +kernel
    exact this c h
  · have : sep4 c = false := by simp [sep4]; omega
    rw [this]; simp [h]

theorem accepts_sep (c : Nat) (sn : Sre.Seen) : ∃ sn', accepts CODE 23 c sn = .ok (sep4 c, sn') := by
  by_cases h : sep4 c = true
  · refine ⟨sn.add 9, ?_⟩
    show (if (decide (c < 256) && (CODE.getD (25 + (1 + c / 32)) 0).testBit (c % 32)) = true then Except.ok (true, sn.add 9) else _) = _
    rw [charset_eq, if_pos h, h]
  · refine ⟨(sn.add 9).add 0, ?_⟩
    have h' : sep4 c = false := by simpa using h
    show (if (decide (c < 256) && (CODE.getD (25 + (1 + c / 32)) 0).testBit (c % 32)) = true then Except.ok (true, sn.add 9) else Except.ok (false, (sn.add 9).add 0)) = _
    rw [charset_eq, if_neg h, h']
end Mine

end PartRe2

section PartRe3
open PySem PySem.W PyProof.Rows PySem.Calls
set_option maxRecDepth 100000
set_option maxHeartbeats 400000
namespace Mine
open PySem.Sre (M)

/-- the machine at the start of an attempt at s -/
def A0 (text : Array Nat) (s : Nat) (b : Bool) (mk : Array (Option Nat)) (sn : Sre.Seen) : M :=
  { code := CODE, text := text, lim := text.size, start := s, lastStart := text.size, pc := 5, pos := s, handed := s, outermost := b, marks := mk,
    frames := [{ wait := .nextStart, pc := 5, pos := s, outermost := b }], weight := 1, seen := sn }
def K0 : Sre.Kept := { lastmark := 0, lastindex := -1 }
def fr1 (s : Nat) (b : Bool) : Sre.Frame := { wait := .nextBranch, pc := 8, pos := s, outermost := b, kept := K0 }
def fr2 (s : Nat) (b : Bool) : Sre.Frame := { wait := .nextBranch, pc := 22, pos := s, outermost := b, kept := K0 }
def frG (s n : Nat) (b : Bool) : Sre.Frame := { wait := .giveBack, pc := 9, pos := s + n, outermost := b, count := n, kept := K0 }

/-- behind MARK and BRANCH -/
def A2 (text : Array Nat) (s : Nat) (b : Bool) (mk : Array (Option Nat)) (sn : Sre.Seen) : M :=
  { A0 text s b (mk.setIfInBounds 0 (some s)) sn with lastmark := 0, pc := 9, frames := fr1 s b :: (A0 text s b mk sn).frames, weight := 2 }
/-- at the second way -/
def A4 (text : Array Nat) (s : Nat) (b : Bool) (mk : Array (Option Nat)) (sn : Sre.Seen) : M :=
  { A0 text s b (mk.setIfInBounds 0 (some s)) sn with lastmark := 0, pc := 23, frames := fr2 s b :: (A0 text s b mk sn).frames, weight := 2 }
/-- at JUMP's end, the group's end still to mark -/
def A6 (text : Array Nat) (s e : Nat) (b : Bool) (mk : Array (Option Nat)) (fs : List Sre.Frame) (wt hd : Nat) (sn : Sre.Seen) : M :=
  { A0 text s b (mk.setIfInBounds 0 (some s)) sn with lastmark := 0, pc := 38, pos := e, handed := hd, frames := fs, weight := wt }

theorem steps2 (text : Array Nat) (s : Nat) (b : Bool) (mk : Array (Option Nat)) (sn : Sre.Seen) : ∃ sn', M.runFor 2 (A0 text s b mk sn) = A2 text s b mk sn' := ⟨_, rfl⟩

def dl (text : Array Nat) (s : Nat) : Nat := dlen text (min 4294967295 ((text.size : Int) - (s : Int)).toNat) s

theorem rep_short (text : Array Nat) (s : Nat) (b : Bool) (mk : Array (Option Nat)) (sn : Sre.Seen) (h : text.size ≤ s) : ∃ sn', (A2 text s b mk sn).step = { A2 text s b mk sn' with answer := some false } := by
  refine ⟨sn.add 24, ?_⟩
  show (if ((1 : Nat) : Int) > ((text.size : Int) - (s : Int)) then { A2 text s b mk (sn.add 24) with answer := some false } else _) = _
  rw [if_pos (by omega)]
theorem rep_long (text : Array Nat) (s : Nat) (b : Bool) (mk : Array (Option Nat)) (sn : Sre.Seen) (h : s < text.size) :
    (A2 text s b mk sn).step = (match Sre.run CODE text 13 (min 4294967295 ((text.size : Int) - (s : Int)).toNat) s 0 ((sn.add 24).add 13) with
      | .error why => (A2 text s b mk (sn.add 24)).stick why
      | .ok (n, seen) =>
        let m : M := { A2 text s b mk (sn.add 24) with seen := seen }
        if n < 1 then m.say false else
        let m : M := { m with pos := m.pos + n }
        m.afterRun .giveBack n (m.keep m.inner.isSome)) := by
  show (if ((1 : Nat) : Int) > ((text.size : Int) - (s : Int)) then _ else _) = _
  rw [if_neg (by omega)]
  rfl
theorem rep_none (text : Array Nat) (s : Nat) (b : Bool) (mk : Array (Option Nat)) (sn : Sre.Seen) (h : s < text.size) (hd : dl text s = 0) : ∃ sn', (A2 text s b mk sn).step = { A2 text s b mk sn' with answer := some false } := by
  obtain ⟨sn', e⟩ := run_dig text (min 4294967295 ((text.size : Int) - (s : Int)).toNat) s 0 ((sn.add 24).add 13)
  refine ⟨sn', ?_⟩
  rw [rep_long _ _ _ _ _ h, e]
  have hd' : dlen text (min 4294967295 ((text.size : Int) - (s : Int)).toNat) s = 0 := hd
  rw [hd']
  rfl
theorem rep_some (text : Array Nat) (s : Nat) (b : Bool) (mk : Array (Option Nat)) (sn : Sre.Seen) (h : s < text.size) (hd : dl text s ≠ 0) :
    ∃ sn', M.runFor 2 (A2 text s b mk sn) = A6 text s (s + dl text s) b mk (frG s (dl text s) b :: fr1 s b :: (A0 text s b mk sn).frames) 3 (s + dl text s) sn' := by
  obtain ⟨sn', e⟩ := run_dig text (min 4294967295 ((text.size : Int) - (s : Int)).toNat) s 0 ((sn.add 24).add 13)
  refine ⟨sn'.add 15, ?_⟩
  have hs : (A2 text s b mk sn).step = { A6 text s (s + dl text s) b mk (frG s (dl text s) b :: fr1 s b :: (A0 text s b mk sn).frames) 3 (s + dl text s) sn' with pc := 20 } := by
    rw [rep_long _ _ _ _ _ h, e]
    have hd' : 0 + dlen text (min 4294967295 ((text.size : Int) - (s : Int)).toNat) s = dl text s := Nat.zero_add _
    rw [hd']
    dsimp only
    rw [if_neg (by omega)]
    rfl
  show M.runFor 1 (A2 text s b mk sn).step = _
  rw [hs]
  rfl
theorem branch_two (text : Array Nat) (s : Nat) (b : Bool) (mk : Array (Option Nat)) (sn : Sre.Seen) : M.step { A2 text s b mk sn with answer := some false } = A4 text s b mk sn := rfl
theorem in_short (text : Array Nat) (s : Nat) (b : Bool) (mk : Array (Option Nat)) (sn : Sre.Seen) (h : text.size ≤ s) : ∃ sn', (A4 text s b mk sn).step = { A4 text s b mk sn' with answer := some false } := by
  refine ⟨sn.add 13, ?_⟩
  show (if s ≥ text.size then { A4 text s b mk (sn.add 13) with answer := some false } else _) = _
  rw [if_pos h]
theorem in_long (text : Array Nat) (s : Nat) (b : Bool) (mk : Array (Option Nat)) (sn : Sre.Seen) (h : s < text.size) :
    (A4 text s b mk sn).step = (match Sre.accepts CODE 23 (text.getD s 0) (sn.add 13) with
      | .error why => (A4 text s b mk (sn.add 13)).stick why
      | .ok (false, seen) => M.say { A4 text s b mk (sn.add 13) with seen := seen } false
      | .ok (true, seen) => { A4 text s b mk (sn.add 13) with seen := seen, pc := 35, pos := s + 1 }) := by
  show (if s ≥ text.size then _ else _) = _
  rw [if_neg (by omega)]
  rfl
theorem in_none (text : Array Nat) (s : Nat) (b : Bool) (mk : Array (Option Nat)) (sn : Sre.Seen) (h : s < text.size) (hs : sep4 (text.getD s 0) = false) : ∃ sn', (A4 text s b mk sn).step = { A4 text s b mk sn' with answer := some false } := by
  obtain ⟨sn', e⟩ := accepts_sep (text.getD s 0) (sn.add 13)
  refine ⟨sn', ?_⟩
  rw [in_long _ _ _ _ _ h, e, hs]
  rfl
theorem in_some (text : Array Nat) (s : Nat) (b : Bool) (mk : Array (Option Nat)) (sn : Sre.Seen) (h : s < text.size) (hs : sep4 (text.getD s 0) = true) :
    ∃ sn', M.runFor 2 (A4 text s b mk sn) = A6 text s (s + 1) b mk (fr2 s b :: (A0 text s b mk sn).frames) 2 s sn' := by
  obtain ⟨sn', e⟩ := accepts_sep (text.getD s 0) (sn.add 13)
  refine ⟨sn'.add 15, ?_⟩
  have h1 : (A4 text s b mk sn).step = { A4 text s b mk (sn.add 13) with seen := sn', pc := 35, pos := s + 1 } := by
    rw [in_long _ _ _ _ _ h, e, hs]
  show M.runFor 1 (A4 text s b mk sn).step = _
  rw [h1]
  rfl
/-- the second way has failed too: the next place, or the end -/
theorem next_start (text : Array Nat) (s : Nat) (b : Bool) (mk : Array (Option Nat)) (sn : Sre.Seen) (h : s < text.size) :
    M.runFor 2 { A4 text s b mk sn with answer := some false } = A0 text (s + 1) false (mk.setIfInBounds 0 (some s)) sn := by
  show (if s < text.size then _ else _) = _
  rw [if_pos h]
  rfl
theorem last_start (text : Array Nat) (s : Nat) (b : Bool) (mk : Array (Option Nat)) (sn : Sre.Seen) (h : text.size ≤ s) :
    (M.runFor 3 { A4 text s b mk sn with answer := some false }).outcome = some .failed := by
  have e : M.runFor 2 { A4 text s b mk sn with answer := some false } = { A0 text s b (mk.setIfInBounds 0 (some s)) sn with lastmark := 0, frames := [], weight := 0, answer := some false } := by
    show (if s < text.size then _ else _) = _
    rw [if_neg (by omega)]
    rfl
  show (M.runFor 1 (M.runFor 2 { A4 text s b mk sn with answer := some false })).outcome = _
  rw [e]
  rfl
end Mine

end PartRe3

section PartRe4
open PySem PySem.W PyProof.Rows PySem.Calls
set_option maxRecDepth 100000
set_option maxHeartbeats 400000
namespace Mine
open PySem.Sre (M)

theorem runFor_done {n : Nat} {m : M} (h : m.outcome.isSome = true) : M.runFor n m = m := by
  cases n with
  | zero => rfl
  | succ n => unfold M.runFor; rw [if_pos h]
theorem runFor_add (b : Nat) : ∀ (a : Nat) (m : M), M.runFor (a + b) m = M.runFor b (M.runFor a m)
  | 0, m => by rw [Nat.zero_add]; rfl
  | a + 1, m => by
    cases h : m.outcome.isSome with
    | true => rw [runFor_done h, runFor_done h, runFor_done h]
    | false =>
      rw [show a + 1 + b = (a + b) + 1 by omega]
      show (if m.outcome.isSome = true then m else M.runFor (a + b) m.step) = M.runFor b (if m.outcome.isSome = true then m else M.runFor a m.step)
      rw [h]
      simp only [Bool.false_eq_true, if_false]
      exact runFor_add b a m.step

/-- the search has come through: the match's start and end, and its one group -/
structure Hit (m : M) (s e : Nat) : Prop where
  outcome : m.outcome = some .matched
  start : m.start = s
  handed : m.handed = e
  m0 : m.marks.getD 0 none = some s
  m1 : m.marks.getD 1 none = some e
  last : m.lastmark = 1

theorem marks0 {mk : Array (Option Nat)} (h : mk.size = 2) (s e : Nat) : ((mk.setIfInBounds 0 (some s)).setIfInBounds 1 (some e)).getD 0 none = some s := by
  simp [Array.getD_eq_getD_getElem?, h]
theorem marks1 {mk : Array (Option Nat)} (h : mk.size = 2) (s e : Nat) : ((mk.setIfInBounds 0 (some s)).setIfInBounds 1 (some e)).getD 1 none = some e := by
  simp [Array.getD_eq_getD_getElem?, h]

/-- the group's end is marked, and SUCCESS has said yes -/
def A8 (text : Array Nat) (s e : Nat) (b : Bool) (mk : Array (Option Nat)) (pc pos : Nat) (fs : List Sre.Frame) (wt : Nat) (sn : Sre.Seen) : M :=
  { A0 text s b ((mk.setIfInBounds 0 (some s)).setIfInBounds 1 (some e)) sn with lastmark := 1, lastindex := 1, pc := pc, pos := pos, handed := e, frames := fs, weight := wt, answer := some true }
theorem mark_end (text : Array Nat) (s e : Nat) (b : Bool) (mk : Array (Option Nat)) (fs : List Sre.Frame) (wt hd : Nat) (sn : Sre.Seen) :
    ∃ sn', (A6 text s e b mk fs wt hd sn).step = { A6 text s e b mk fs wt hd sn' with marks := (mk.setIfInBounds 0 (some s)).setIfInBounds 1 (some e), lastmark := 1, lastindex := 1, pc := 40 } := ⟨sn.add 17, by kernel_rfl⟩
theorem success_end (text : Array Nat) (s e : Nat) (b : Bool) (mk : Array (Option Nat)) (fs : List Sre.Frame) (wt hd : Nat) (sn : Sre.Seen) :
    ∃ sn', M.step { A6 text s e b mk fs wt hd sn with marks := (mk.setIfInBounds 0 (some s)).setIfInBounds 1 (some e), lastmark := 1, lastindex := 1, pc := 40 } = A8 text s e b mk 40 e fs wt sn' := by
  cases b
  · exact ⟨_, rfl⟩
  · exact ⟨_, rfl⟩
theorem up_frG (text : Array Nat) (s e n : Nat) (b : Bool) (mk : Array (Option Nat)) (pc pos : Nat) (fs : List Sre.Frame) (sn : Sre.Seen) :
    (A8 text s e b mk pc pos (frG s n b :: fs) 3 sn).step = A8 text s e b mk 9 (s + n) fs 2 sn := rfl
theorem up_fr1 (text : Array Nat) (s e : Nat) (b : Bool) (mk : Array (Option Nat)) (pc pos : Nat) (fs : List Sre.Frame) (sn : Sre.Seen) :
    (A8 text s e b mk pc pos (fr1 s b :: fs) 2 sn).step = A8 text s e b mk 8 s fs 1 sn := rfl
theorem up_fr2 (text : Array Nat) (s e : Nat) (b : Bool) (mk : Array (Option Nat)) (pc pos : Nat) (fs : List Sre.Frame) (sn : Sre.Seen) :
    (A8 text s e b mk pc pos (fr2 s b :: fs) 2 sn).step = A8 text s e b mk 22 s fs 1 sn := rfl
theorem up_start (text : Array Nat) (s e : Nat) (b : Bool) (mk : Array (Option Nat)) (pc pos : Nat) (sn : Sre.Seen) :
    (A8 text s e b mk pc pos [{ wait := .nextStart, pc := 5, pos := s, outermost := b }] 1 sn).step = A8 text s e b mk 5 s [] 0 sn := rfl
theorem up_end (text : Array Nat) (s e : Nat) (b : Bool) (mk : Array (Option Nat)) (pc pos wt : Nat) (sn : Sre.Seen) (hm : mk.size = 2) : Hit ((A8 text s e b mk pc pos [] wt sn).step) s e :=
  ⟨rfl, rfl, rfl, marks0 hm _ _, marks1 hm _ _, rfl⟩
theorem run1 {m : M} {n : Nat} (h : m.outcome = none) : M.runFor (n + 1) m = M.runFor n m.step := by
  show (if m.outcome.isSome = true then m else M.runFor n m.step) = _
  rw [h]; rfl
theorem fin_G (text : Array Nat) (s n : Nat) (b : Bool) (mk : Array (Option Nat)) (sn sn₀ : Sre.Seen) (hm : mk.size = 2) :
    Hit (M.runFor 6 (A6 text s (s + n) b mk (frG s n b :: fr1 s b :: (A0 text s b mk sn₀).frames) 3 (s + n) sn)) s (s + n) := by
  obtain ⟨sn₁, e₁⟩ := mark_end text s (s + n) b mk (frG s n b :: fr1 s b :: (A0 text s b mk sn₀).frames) 3 (s + n) sn
  obtain ⟨sn₂, e₂⟩ := success_end text s (s + n) b mk (frG s n b :: fr1 s b :: (A0 text s b mk sn₀).frames) 3 (s + n) sn₁
  rw [run1 rfl, e₁, run1 rfl, e₂, run1 rfl, up_frG, run1 rfl, up_fr1, run1 rfl]
  rw [show (A0 text s b mk sn₀).frames = [{ wait := .nextStart, pc := 5, pos := s, outermost := b }] from rfl, up_start, run1 rfl]
  exact up_end text s (s + n) b mk 5 s 0 sn₂ hm
theorem fin_2 (text : Array Nat) (s : Nat) (b : Bool) (mk : Array (Option Nat)) (sn sn₀ : Sre.Seen) (hm : mk.size = 2) :
    Hit (M.runFor 5 (A6 text s (s + 1) b mk (fr2 s b :: (A0 text s b mk sn₀).frames) 2 s sn)) s (s + 1) := by
  obtain ⟨sn₁, e₁⟩ := mark_end text s (s + 1) b mk (fr2 s b :: (A0 text s b mk sn₀).frames) 2 s sn
  obtain ⟨sn₂, e₂⟩ := success_end text s (s + 1) b mk (fr2 s b :: (A0 text s b mk sn₀).frames) 2 s sn₁
  rw [run1 rfl, e₁, run1 rfl, e₂, run1 rfl, up_fr2, run1 rfl]
  rw [show (A0 text s b mk sn₀).frames = [{ wait := .nextStart, pc := 5, pos := s, outermost := b }] from rfl, up_start, run1 rfl]
  exact up_end text s (s + 1) b mk 5 s 0 sn₂ hm

theorem dl_zero {text : Array Nat} {s : Nat} (h : s < text.size) : dl text s = 0 ↔ digB (text.getD s 0) = false := by
  unfold dl
  obtain ⟨n, hn⟩ : ∃ n, min 4294967295 ((text.size : Int) - (s : Int)).toNat = n + 1 := ⟨min 4294967295 ((text.size : Int) - (s : Int)).toNat - 1, by omega⟩
  rw [hn]
  unfold dlen
  cases digB (text.getD s 0) <;> simp

theorem miss (text : Array Nat) (s : Nat) (b : Bool) (mk : Array (Option Nat)) (sn : Sre.Seen) (h : s < text.size) (hd : digB (text.getD s 0) = false) (hs : sep4 (text.getD s 0) = false) :
    ∃ sn', M.runFor 7 (A0 text s b mk sn) = A0 text (s + 1) false (mk.setIfInBounds 0 (some s)) sn' := by
  obtain ⟨sn₁, e₁⟩ := steps2 text s b mk sn
  obtain ⟨sn₂, e₂⟩ := rep_none text s b mk sn₁ h ((dl_zero h).mpr hd)
  obtain ⟨sn₃, e₃⟩ := in_none text s b mk sn₂ h hs
  refine ⟨sn₃, ?_⟩
  rw [show (7 : Nat) = 2 + (1 + (1 + (1 + 2))) from rfl, runFor_add, e₁, runFor_add]
  rw [show M.runFor 1 (A2 text s b mk sn₁) = (A2 text s b mk sn₁).step from rfl, e₂, runFor_add]
  rw [show M.runFor 1 { A2 text s b mk sn₂ with answer := some false } = M.step { A2 text s b mk sn₂ with answer := some false } from rfl, branch_two, runFor_add]
  rw [show M.runFor 1 (A4 text s b mk sn₂) = (A4 text s b mk sn₂).step from rfl, e₃]
  exact next_start text s b mk sn₃ h
theorem miss_end (text : Array Nat) (s : Nat) (b : Bool) (mk : Array (Option Nat)) (sn : Sre.Seen) (h : text.size ≤ s) :
    (M.runFor 8 (A0 text s b mk sn)).outcome = some .failed := by
  obtain ⟨sn₁, e₁⟩ := steps2 text s b mk sn
  obtain ⟨sn₂, e₂⟩ := rep_short text s b mk sn₁ h
  obtain ⟨sn₃, e₃⟩ := in_short text s b mk sn₂ h
  rw [show (8 : Nat) = 2 + (1 + (1 + (1 + 3))) from rfl, runFor_add, e₁, runFor_add]
  rw [show M.runFor 1 (A2 text s b mk sn₁) = (A2 text s b mk sn₁).step from rfl, e₂, runFor_add]
  rw [show M.runFor 1 { A2 text s b mk sn₂ with answer := some false } = M.step { A2 text s b mk sn₂ with answer := some false } from rfl, branch_two, runFor_add]
  rw [show M.runFor 1 (A4 text s b mk sn₂) = (A4 text s b mk sn₂).step from rfl, e₃]
  exact last_start text s b mk sn₃ h
theorem hit_dig (text : Array Nat) (s : Nat) (b : Bool) (mk : Array (Option Nat)) (sn : Sre.Seen) (hm : mk.size = 2) (h : s < text.size) (hd : digB (text.getD s 0) = true) :
    Hit (M.runFor 10 (A0 text s b mk sn)) s (s + dl text s) := by
  have hd0 : dl text s ≠ 0 := fun e => by rw [(dl_zero h).mp e] at hd; cases hd
  obtain ⟨sn₁, e₁⟩ := steps2 text s b mk sn
  obtain ⟨sn₂, e₂⟩ := rep_some text s b mk sn₁ h hd0
  rw [show (10 : Nat) = 2 + (2 + 6) from rfl, runFor_add, e₁, runFor_add, e₂]
  exact fin_G text s (dl text s) b mk sn₂ _ hm
theorem hit_sep (text : Array Nat) (s : Nat) (b : Bool) (mk : Array (Option Nat)) (sn : Sre.Seen) (hm : mk.size = 2) (h : s < text.size) (hd : digB (text.getD s 0) = false) (hs : sep4 (text.getD s 0) = true) :
    Hit (M.runFor 11 (A0 text s b mk sn)) s (s + 1) := by
  obtain ⟨sn₁, e₁⟩ := steps2 text s b mk sn
  obtain ⟨sn₂, e₂⟩ := rep_none text s b mk sn₁ h ((dl_zero h).mpr hd)
  obtain ⟨sn₃, e₃⟩ := in_some text s b mk sn₂ h hs
  rw [show (11 : Nat) = 2 + (1 + (1 + (2 + 5))) from rfl, runFor_add, e₁, runFor_add]
  rw [show M.runFor 1 (A2 text s b mk sn₁) = (A2 text s b mk sn₁).step from rfl, e₂, runFor_add]
  rw [show M.runFor 1 { A2 text s b mk sn₂ with answer := some false } = M.step { A2 text s b mk sn₂ with answer := some false } from rfl, branch_two, runFor_add, e₃]
  exact fin_2 text s b mk sn₃ _ hm

/-- where the next match stands from s on, if any: its place and its end -/
def nextAt (text : Array Nat) : (k s : Nat) → Option (Nat × Nat)
  | 0, _ => none
  | k + 1, s => if digB (text.getD s 0) then some (s, s + dl text s) else if sep4 (text.getD s 0) then some (s, s + 1) else nextAt text k (s + 1)

theorem search_some (text : Array Nat) : ∀ (k s : Nat) (b : Bool) (mk : Array (Option Nat)) (sn : Sre.Seen) (i e : Nat), s + k = text.size → mk.size = 2 → nextAt text k s = some (i, e) →
    ∃ N, N ≤ 11 * (k + 1) ∧ Hit (M.runFor N (A0 text s b mk sn)) i e
  | 0, _, _, _, _, _, _, _, _, h => by cases h
  | k + 1, s, b, mk, sn, i, e, hk, hm, h => by
    have hs : s < text.size := by omega
    unfold nextAt at h
    cases hd : digB (text.getD s 0) with
    | true =>
      rw [hd] at h; simp only [if_true] at h; cases h
      exact ⟨10, by omega, hit_dig text _ b mk sn hm hs hd⟩
    | false =>
      rw [hd] at h
      cases hp : sep4 (text.getD s 0) with
      | true =>
        rw [hp] at h; simp only [Bool.false_eq_true, if_false, if_true] at h; cases h
        exact ⟨11, by omega, hit_sep text _ b mk sn hm hs hd hp⟩
      | false =>
        rw [hp] at h; simp only [Bool.false_eq_true, if_false] at h
        obtain ⟨sn', e₁⟩ := miss text s b mk sn hs hd hp
        obtain ⟨N, hN, H⟩ := search_some text k (s + 1) false (mk.setIfInBounds 0 (some s)) sn' i e (by omega) (by simpa using hm) h
        exact ⟨7 + N, by omega, by rw [runFor_add, e₁]; exact H⟩
theorem search_none (text : Array Nat) : ∀ (k s : Nat) (b : Bool) (mk : Array (Option Nat)) (sn : Sre.Seen), s + k = text.size → nextAt text k s = none →
    ∃ N, N ≤ 11 * (k + 1) ∧ (M.runFor N (A0 text s b mk sn)).outcome = some .failed
  | 0, s, b, mk, sn, hk, _ => ⟨8, by omega, miss_end text s b mk sn (by omega)⟩
  | k + 1, s, b, mk, sn, hk, h => by
    have hs : s < text.size := by omega
    unfold nextAt at h
    cases hd : digB (text.getD s 0) with
    | true => rw [hd] at h; simp at h
    | false =>
      rw [hd] at h
      cases hp : sep4 (text.getD s 0) with
      | true => rw [hp] at h; simp at h
      | false =>
        rw [hp] at h; simp only [Bool.false_eq_true, if_false] at h
        obtain ⟨sn', e₁⟩ := miss text s b mk sn hs hd hp
        obtain ⟨N, hN, H⟩ := search_none text k (s + 1) false (mk.setIfInBounds 0 (some s)) sn' (by omega) h
        exact ⟨7 + N, by omega, by rw [runFor_add, e₁]; exact H⟩

theorem forSearch_start (text : Array Nat) (s : Nat) (h : s < text.size) : ∃ sn, Sre.forSearch CODE text 1 s text.size false = A0 text s true #[none, none] sn := by
  refine ⟨({} : Sre.Seen).add 14, ?_⟩
  show (if (decide (s > text.size) || decide (text.size - s < 1)) = true then _ else _) = _
  rw [if_neg (by simp; omega)]
  rfl
theorem forSearch_end (text : Array Nat) (s : Nat) (h : s = text.size) : (M.runFor 1 (Sre.forSearch CODE text 1 s text.size false)).outcome = some .failed := by
  subst h
  have e : ∃ sn, Sre.forSearch CODE text 1 text.size text.size false = { code := CODE, text := text, lim := text.size, start := text.size, pc := 5, pos := text.size, handed := text.size, marks := #[none, none], answer := some false, seen := sn } := by
    refine ⟨({} : Sre.Seen).add 14, ?_⟩
    show (if (decide (text.size > text.size) || decide (text.size - text.size < 1)) = true then _ else _) = _
    rw [if_pos (by simp)]
    rfl
  obtain ⟨sn, e⟩ := e
  rw [e]
  rfl
end Mine

end PartRe4

section PartRe5
open PySem PySem.W PyProof.Rows PySem.Calls
set_option maxRecDepth 100000
set_option maxHeartbeats 400000
namespace Mine
open PySem.Sre (M)
open PySem.Builtin.Re

section
variable {prog : Program} {w : World} {A : Around} {E : Value → Shared → Prop} {s : Shared}

theorem drive {Q : M → Shared → Prop} : ∀ (k : Nat) (n : Nat) (m : M), n ≤ 4 * k → (M.runFor n m).outcome.isSome = true → 1 ≤ k → Q (M.runFor n m) s → wpAny (model prog w) A (reDrive k m) Q E s
  | 0, _, _, _, _, h, _ => absurd h (by omega)
  | k + 1, n, m, hn, ho, _, hQ => by
    show wpAny _ _ (if (M.runFor 4 m).outcome.isSome = true then pure (M.runFor 4 m) else (do rule "sre.turn"; reDrive k (M.runFor 4 m))) Q E s
    by_cases h4 : (M.runFor 4 m).outcome.isSome = true
    · rw [if_pos h4]
      have e : M.runFor 4 m = M.runFor n m := by
        rcases Nat.le_total n 4 with h | h
        · rw [show 4 = n + (4 - n) by omega, runFor_add, runFor_done ho]
        · rw [show n = 4 + (n - 4) by omega, runFor_add, runFor_done h4]
      rw [e]; exact wpAny_pure hQ
    · rw [if_neg h4]
      have h : ¬ n ≤ 4 := fun h => h4 (by rw [show 4 = n + (4 - n) by omega, runFor_add, runFor_done ho]; exact ho)
      have e : M.runFor n m = M.runFor (n - 4) (M.runFor 4 m) := by rw [← runFor_add]; congr 1; omega
      rw [e] at ho hQ
      exact wpAny_bind (wpAny_rule (drive k (n - 4) (M.runFor 4 m) (by omega) ho (by omega) hQ))

theorem to_end {Q : Option M → Shared → Prop} {m m' : M} {n : Nat} {r : Option M} (hn : n ≤ 2 ^ 60) (e : M.runFor n m = m') (hr : (m'.outcome = some .matched ∧ r = some m') ∨ (m'.outcome = some .failed ∧ r = none))
    (hQ : Q r s) : wpAny (model prog w) A (reRunToEnd m) Q E s := by
  unfold reRunToEnd
  refine wpAny_bind (drive (2 ^ 64) n m (by omega) ?_ (by decide) ?_)
  · rw [e]; rcases hr with h | h <;> rw [h.1] <;> rfl
  rw [e]
  refine wpAny_bind (wpAny_forIn_list _ (fun _ _ s' => s' = s) (fun _ s' => wpAny (model prog w) A _ Q E s') ?_ ?_ _ _ rfl)
  · rintro i rest b s' rfl
    split
    · exact wpAny_bind (wpAny_rule (wpAny_pure rfl))
    · first | exact wpAny_pure rfl | exact wpAny_bind (wpAny_pure (wpAny_pure rfl))
  · rintro b s' rfl
    rcases hr with ⟨h, rfl⟩ | ⟨h, rfl⟩ <;> rw [h] <;> exact wpAny_pure hQ
end
end Mine

end PartRe5

section PartRe6
open PySem PySem.W PyProof.Rows PySem.Calls
set_option maxRecDepth 100000
set_option maxHeartbeats 400000
namespace Mine
open PySem.Sre (M)
open PySem.Builtin.Re

def patObj (a b : Tok) (x : Str) : Obj := { cls := .type "re.Pattern", data := .fields #[.str x a, .int 32 b, .int 1 0, .none, .none, .ref 35, .int 0 0] }
section
variable {prog : Program} {w : World} {A : Around} {E : Value → Shared → Prop} {s : Shared}

abbrev target (pattern string : Value) (text : Array Nat) : ReTarget := { pattern, string, code := CODE, text, kind := 0, groups := 1, pos := 0, lim := text.size }

theorem next_none {Q : Option M → Shared → Prop} {p v : Value} {text : Array Nat} {st : Nat} (hsz : text.size ≤ 1000000) (hst : st ≤ text.size) (h : nextAt text (text.size - st) st = none) (hQ : Q none s) :
    wpAny (model prog w) A (reNextFound (target p v text) st false) Q E s := by
  unfold reNextFound
  rcases Nat.lt_or_ge st text.size with hlt | hge
  · obtain ⟨sn, e⟩ := forSearch_start text st hlt
    obtain ⟨N, hN, H⟩ := search_none text (text.size - st) st true #[none, none] sn (by omega) h
    show wpAny _ _ (reRunToEnd (Sre.forSearch CODE text 1 st text.size false)) Q E s
    rw [e]
    generalize A0 text st true #[none, none] sn = m at H ⊢
    exact to_end (n := N) (by omega) rfl (.inr ⟨H, rfl⟩) hQ
  · have e : st = text.size := by omega
    have H := forSearch_end text st e
    show wpAny _ _ (reRunToEnd (Sre.forSearch CODE text 1 st text.size false)) Q E s
    generalize Sre.forSearch CODE text 1 st text.size false = m at H ⊢
    exact to_end (n := 1) (by decide) rfl (.inr ⟨H, rfl⟩) hQ
theorem next_some {Q : Option M → Shared → Prop} {p v : Value} {text : Array Nat} {st i e : Nat} (hsz : text.size ≤ 1000000) (hst : st ≤ text.size) (h : nextAt text (text.size - st) st = some (i, e)) (hQ : ∀ m, Hit m i e → Q (some m) s) :
    wpAny (model prog w) A (reNextFound (target p v text) st false) Q E s := by
  unfold reNextFound
  have hlt : st < text.size := by
    rcases Nat.lt_or_ge st text.size with hlt | hge
    · exact hlt
    · rw [show text.size - st = 0 by omega] at h; cases h
  obtain ⟨sn, e₁⟩ := forSearch_start text st hlt
  obtain ⟨N, hN, H⟩ := search_some text (text.size - st) st true #[none, none] sn i e (by omega) rfl h
  show wpAny _ _ (reRunToEnd (Sre.forSearch CODE text 1 st text.size false)) Q E s
  rw [e₁]
  generalize A0 text st true #[none, none] sn = m at H ⊢
  exact to_end (n := N) (by omega) rfl (.inl ⟨H.outcome, rfl⟩) (hQ _ H)

theorem whole_target {Q : ReTarget → Shared → Prop} {x y : Str} {t a b : Tok} (hp : s.heap.get? 36 = some (patObj a b y)) {n : Nat} (hc : s.heap.get? 35 = some { cls := .type "tuple", data := .seq (CODE.map fun (k : Nat) => Value.int k 0) n })
    (hQ : Q (target (.ref 36) (.str x t) x.cps) s) : wpAny (model prog w) A (reWholeTarget (.ref 36) (.str x t)) Q E s := by
  unfold reWholeTarget
  refine wpAny_bind (wpAny_fieldsOf hp rfl ?_)
  refine wpAny_bind (wpAny_of_eq (a := (x.cps, 0)) rfl ?_)
  refine wpAny_bind (wpAny_of_eq (a := PUnit.unit) rfl ?_)
  show wpAny _ _ (reRawItems (.ref 35) >>= _) Q E s
  refine wpAny_bind ?_
  unfold reRawItems
  refine wpAny_bind (wpAny_seqItems hc rfl (wpAny_pure (wpAny_pure ?_)))
  have e : Array.map (fun (x : Int) => x.toNat) (Array.map reRawOf ((some (CODE.map fun (k : Nat) => Value.int k 0)).getD #[])) = CODE := by kernel_rfl
  rw [e]
  exact hQ
end
end Mine

end PartRe6

section PartRe7
open PySem PySem.W PyProof.Rows PySem.Calls
set_option maxRecDepth 100000
set_option maxHeartbeats 400000
namespace Mine
open PySem.Sre (M)
open PySem.Builtin.Re

/-- the parts into which the pattern cuts the text from st on -/
inductive SplitR (text : Array Nat) : Nat → List Str → Prop
  | last {st : Nat} : nextAt text (text.size - st) st = none → SplitR text st [⟨text.extract st text.size⟩]
  | more {st i e : Nat} {r : List Str} : nextAt text (text.size - st) st = some (i, e) → SplitR text e r → SplitR text st (⟨text.extract st i⟩ :: ⟨text.extract i e⟩ :: r)

theorem dlen_le (text : Array Nat) : ∀ n p, dlen text n p ≤ n
  | 0, _ => Nat.le_refl _
  | n + 1, p => by
    unfold dlen; split
    · have := dlen_le text n (p + 1); omega
    · omega
theorem dl_le (text : Array Nat) (s : Nat) (h : s ≤ text.size) : s + dl text s ≤ text.size := by
  unfold dl
  have := dlen_le text (min 4294967295 ((text.size : Int) - (s : Int)).toNat) s
  omega
theorem nextAt_bounds (text : Array Nat) : ∀ (k s i e : Nat), s + k = text.size → nextAt text k s = some (i, e) → s ≤ i ∧ i < e ∧ e ≤ text.size
  | 0, _, _, _, _, h => by cases h
  | k + 1, s, i, e, hk, h => by
    have hs : s < text.size := by omega
    unfold nextAt at h
    cases hd : digB (text.getD s 0) with
    | true =>
      rw [hd] at h; simp only [if_true] at h; cases h
      have h1 := dl_le text s (by omega)
      have h2 : dl text s ≠ 0 := fun e => by rw [(dl_zero hs).mp e] at hd; cases hd
      omega
    | false =>
      rw [hd] at h
      cases hp : sep4 (text.getD s 0) with
      | true => rw [hp] at h; simp only [Bool.false_eq_true, if_false, if_true] at h; cases h; omega
      | false =>
        rw [hp] at h; simp only [Bool.false_eq_true, if_false] at h
        have := nextAt_bounds text k (s + 1) i e (by omega) h
        omega

section
variable {prog : Program} {w : World} {A : Around} {E : Value → Shared → Prop} {s : Shared}

theorem slice0 {text : Array Nat} {b e : Nat} {Q : Value → Shared → Prop} (hx : text.size ≤ 1000000) (h : Q (.str ⟨text.extract b e⟩ s.toks) { s with toks := s.toks + 1 }) :
    wpAny (model prog w) A (reSlice text 0 b e) Q E s := by
  show wpAny _ _ (mkStr ⟨text.extract b e⟩) Q E s
  refine wpAny_mkStr h ?_
  show (text.extract b e).size ≤ sizeLine
  rw [Array.size_extract, sizeLine_eq]; omega
theorem group1 {p v : Value} {text : Array Nat} {m : M} {i e : Nat} {Q : Value → Shared → Prop} (hx : text.size ≤ 1000000) (H : Hit m i e) (hie : i < e) (h : Q (.str ⟨text.extract i e⟩ s.toks) { s with toks := s.toks + 1 }) :
    wpAny (model prog w) A (reMachineGroup (target p v text) m (0 + 1) (pure Value.none)) Q E s := by
  unfold reMachineGroup
  rw [if_neg (by rw [H.last]; decide)]
  show wpAny _ _ (match m.marks.getD 0 none, m.marks.getD 1 none with | some b, some e => if e < b then reWrongSpan else reSlice text 0 b e | _, _ => pure Value.none) Q E s
  rw [H.m0, H.m1]
  show wpAny _ _ (if e < i then reWrongSpan else reSlice text 0 i e) Q E s
  rw [if_neg (by omega)]
  exact slice0 hx h

/-- what holds between two searches -/
def SplitI (s : Shared) (text : Array Nat) (rest : List Nat) (st : Array Value × Nat × Nat × Bool × Int × Bool) (s' : Shared) : Prop :=
  ∃ k ps, s' = { s with toks := k } ∧ st.2.2.1 = st.2.1 ∧ st.2.2.2.1 = false ∧ st.2.1 ≤ text.size ∧ StrsAre ps st.1.toList ∧ ps.length ≤ 2 * st.2.1 ∧ (∀ r, SplitR text st.2.1 r → SplitR text 0 (ps ++ r)) ∧
    ((st.2.2.2.2.2 = false ∧ text.size - st.2.1 + 1 ≤ rest.length) ∨ (st.2.2.2.2.2 = true ∧ nextAt text (text.size - st.2.1) st.2.1 = none))

theorem split_body {Q : Value → Shared → Prop} {x y : Str} {t a b : Tok} (hp : s.heap.get? 36 = some (patObj a b y)) {n : Nat} (hc : s.heap.get? 35 = some { cls := .type "tuple", data := .seq (CODE.map fun (k : Nat) => Value.int k 0) n })
    (hx : x.cps.size ≤ 1000000)
    (hQ : ∀ k full ws, SplitR x.cps 0 full → StrsAre full ws → Q (.ref s.heap.objs.size) { s with heap := s.heap.push (W.listOf ws.toArray 0), toks := k }) :
    wpAny (model prog w) A (Builtin.«re.Pattern.split» ⟨[.ref 36, .str x t], []⟩) (fun fin s' => ∃ v, fin = .done (.ret v) ∧ Q v s') E s := by
  unfold Builtin.«re.Pattern.split»
  dsimp only
  refine wpAny_bind (wpAny_of_eq (a := [some (.str x t), none]) rfl ?_)
  dsimp only
  refine wpAny_bind (wpAny_of_eq (a := (0 : Int)) rfl ?_)
  refine wpAny_bind (whole_target hp hc ?_)
  refine wpAny_bind (wpAny_forIn_list _ (SplitI s x.cps) _ ?_ ?_ _ _ ?_)
  · rintro j rest ⟨out, start, last, must, cnt, over⟩ s' ⟨k, ps, rfl, e1, e2, hst, hS, hpl, hR, hcase⟩
    dsimp only at e1 e2 hst hS hpl hR hcase ⊢
    subst e1 e2
    rcases hcase with ⟨rfl, hlen⟩ | ⟨rfl, hnone⟩
    · rw [if_pos (by decide)]
      refine wpAny_bind ?_
      rw [if_neg (by simp)]
      cases hn : nextAt x.cps (x.cps.size - last) last with
      | none =>
        refine next_none hx hst hn ?_
        exact wpAny_pure ⟨k, ps, rfl, rfl, rfl, hst, hS, hpl, hR, .inr ⟨rfl, hn⟩⟩
      | some ie =>
        obtain ⟨i, e⟩ := ie
        have hb := nextAt_bounds x.cps _ last i e (by omega) hn
        refine next_some hx hst hn fun m H => ?_
        dsimp only
        rw [H.start, H.handed]
        refine wpAny_bind (slice0 hx ?_)
        show wpAny _ _ (forIn (List.range 1) _ _ >>= _) _ _ _
        rw [show List.range 1 = [0] from rfl]
        refine wpAny_bind ?_
        rw [List.forIn_cons]
        refine wpAny_bind (wpAny_bind (group1 hx H hb.2.1 (wpAny_pure ?_)))
        dsimp only
        rw [List.forIn_nil]
        refine wpAny_pure (wpAny_pure ?_)
        refine ⟨_, ps ++ [⟨x.cps.extract last i⟩, ⟨x.cps.extract i e⟩], rfl, rfl, ?_, hb.2.2, ?_, ?_, ?_, .inl ⟨rfl, ?_⟩⟩
        · dsimp only; simp; omega
        · dsimp only
          simp only [Array.toList_push, List.append_assoc]
          exact hS.append ⟨⟨_, rfl⟩, ⟨_, rfl⟩, trivial⟩
        · dsimp only; simp; omega
        · intro r hr
          rw [List.append_assoc]
          exact hR _ (.more hn hr)
        · dsimp only; simp only [List.length_cons] at hlen; omega
    · rw [if_neg (by decide)]
      exact wpAny_pure ⟨k, ps, rfl, rfl, rfl, hst, hS, hpl, hR, .inr ⟨rfl, hnone⟩⟩
  · rintro ⟨out, start, last, must, cnt, over⟩ s' ⟨k, ps, rfl, e1, e2, hst, hS, hpl, hR, hcase⟩
    dsimp only at e1 e2 hst hS hpl hR hcase ⊢
    subst e1 e2
    rcases hcase with ⟨_, hlen⟩ | ⟨rfl, hnone⟩
    · simp at hlen
    rw [if_neg (by decide)]
    refine wpAny_bind (slice0 hx ?_)
    have hlo : out.toList.length ≤ 2 * last := by rw [hS.length]; exact hpl
    refine wpAny_bind (wpAny_newObj_type (wpAny_pure ⟨_, rfl, ?_⟩) ?_)
    · have hR' := hR _ (.last hnone)
      have q := hQ (k + 1) _ (out.toList ++ [.str ⟨x.cps.extract last x.cps.size⟩ k]) hR' (hS.append ⟨⟨_, rfl⟩, trivial⟩)
      dsimp only
      rw [show (out.push (Value.str ⟨x.cps.extract last x.cps.size⟩ k)).toList.toArray = (out.toList ++ [Value.str ⟨x.cps.extract last x.cps.size⟩ k]).toArray by simp]
      exact q
    · show (out.push _).toList.toArray.size ≤ sizeLine
      simp only [Array.toArray_toList, Array.size_push]
      have : out.size = out.toList.length := by simp
      rw [sizeLine_eq]; omega
  · refine ⟨s.toks, [], rfl, rfl, rfl, Nat.zero_le _, trivial, Nat.zero_le _, fun r h => h, .inl ⟨rfl, ?_⟩⟩
    simp [reMostMatches]; omega
end
end Mine

end PartRe7

section PartPin
open PySem PySem.W PyProof.Rows PySem.Calls
open Sem (wp)
set_option maxRecDepth 100000
set_option maxHeartbeats 400000
namespace Mine
/-! The pinned logic: contexts whose stack holds the claim's caller. -/
def HasC (Γ : PySem.Ctx) : Prop := ((Γ.code :: Γ.below.map (·.1)).any Code.isCaller) = true
def BelC (Γ : PySem.Ctx) : Prop := ((Γ.below.map (·.1)).any Code.isCaller) = true
theorem BelC.has {Γ : PySem.Ctx} (h : BelC Γ) : HasC Γ := by
  unfold HasC; rw [List.any_cons, show (List.any (Γ.below.map (·.1)) Code.isCaller) = true from h, Bool.or_true]
def wpC {α : Type} (M : Model) (A : Around) (t : Sem α) (Q : α → Shared → Prop) (E : Value → Shared → Prop) (s : Shared) : Prop :=
  ∀ Γ p, Γ.In A → HasC Γ → wp M Γ t (fun a _ s' => Q a s') (fun e _ s' => E e s') p s
def codeC (M : Model) (A : Around) (c : Code) (R : Result → Shared → Prop) (s : Shared) : Prop :=
  ∀ Γ p, Γ.code = c → Γ.Below A → BelC Γ → wpCode M Γ R p s

section
variable {α β : Type} {M : Model} {A : Around} {E : Value → Shared → Prop} {s : Shared}
theorem wpC_any {t : Sem α} {Q : α → Shared → Prop} (h : wpAny M A t Q E s) : wpC M A t Q E s := fun Γ p hΓ _ => h Γ p hΓ
theorem codeC_any {c : Code} {R : Result → Shared → Prop} (h : codeAny M A c R s) : codeC M A c R s := fun Γ p hc hΓ _ => h Γ p hc hΓ
theorem wpC_pure {a : α} {Q : α → Shared → Prop} (h : Q a s) : wpC M A (pure a) Q E s := fun _ _ _ _ => h
theorem wpC_mono {t : Sem α} {Q Q' : α → Shared → Prop} {E' : Value → Shared → Prop} (h : wpC M A t Q E s)
    (hQ : ∀ a s, Q a s → Q' a s) (hE : ∀ e s, E e s → E' e s) : wpC M A t Q' E' s :=
  fun Γ p hΓ hc => Sem.wp_mono M Γ t (fun a _ s => hQ a s) (fun e _ s => hE e s) p s (h Γ p hΓ hc)
theorem wpC_bind {m : Sem α} {f : α → Sem β} {Q : β → Shared → Prop} (h : wpC M A m (fun a s' => wpC M A (f a) Q E s') E s) :
    wpC M A (m >>= f) Q E s := fun Γ p hΓ hc => by
  rw [Sem.wp_bind']
  exact Sem.wp_mono M Γ m (fun a p' s' h' => h' Γ p' hΓ hc) (fun _ _ _ h' => h') p s (h Γ p hΓ hc)
theorem wpC_step {m : Sem α} {f : α → Sem β} {Q : β → Shared → Prop} (h : wpAny M A m (fun a s' => wpC M A (f a) Q E s') E s) :
    wpC M A (m >>= f) Q E s := wpC_bind (wpC_any h)
theorem wpC_holding {vs : List Value} {m : Sem α} {Q : α → Shared → Prop} (h : wpC M A m Q E s) : wpC M A (holding vs m) Q E s :=
  fun Γ p hΓ hc => by rw [Sem.wp_holding]; exact h Γ p hΓ hc
theorem wpC_keep {vs : List Value} {m : Sem α} {Q : α → Shared → Prop} (h : wpC M A m Q E s) : wpC M A (m.keep vs) Q E s :=
  fun Γ p hΓ hc => by rw [Sem.wp_keep]; exact h Γ p hΓ hc
theorem wpC_onRaise {m : Sem α} {k : Value → Sem Unit} {Q : α → Shared → Prop}
    (h : wpC M A m Q (fun e s' => wpC M A (k e) (fun _ s'' => E e s'') E s') s) : wpC M A (m.onRaise k) Q E s := fun Γ p hΓ hc => by
  rw [Sem.wp_onRaise]
  exact Sem.wp_mono M Γ m (fun _ _ _ h' => h') (fun e p' s' h' => h' Γ p' hΓ hc) p s (h Γ p hΓ hc)
/-- what does not raise needs no care of what follows a raise -/
theorem wpC_noRaise {m : Sem α} {k : Value → Sem Unit} {Q : α → Shared → Prop}
    (h : wpC M A m Q (fun _ _ => False) s) : wpC M A (m.onRaise k) Q E s := wpC_onRaise (wpC_mono h (fun _ _ q => q) fun _ _ q => q.elim)
theorem wpC_attempt {m : Sem α} {Q : Except Value α → Shared → Prop} (h : wpC M A m (fun a => Q (.ok a)) (fun e => Q (.error e)) s) :
    wpC M A m.attempt Q E s := fun Γ p hΓ hc => by rw [Sem.wp_attempt]; exact h Γ p hΓ hc
theorem wpC_stack {Q : List (Code × Pos) → Shared → Prop} (h : ∀ st : List (Code × Pos), ((st.map (·.1)).any Code.isCaller) = true → Q st s) : wpC M A stack Q E s := fun Γ p _ hc => by
  show Q ((Γ.code, p) :: Γ.below) s
  exact h _ hc
theorem wpC_run {c : Code} {h : Option Value} {Q : Flow → Shared → Prop}
    (hc : codeC M (A.mark h) c (fun r s' => match r with | .ok f => Q f s' | .error e => E e s') s) (hnb : h ≠ some byPass := by intro x; cases x) :
    wpC M A (run c h) Q E s :=
  fun Γ p hΓ hΓc => by rw [Sem.wp_run]; exact hc _ p rfl (hΓ.enter c h p hnb) hΓc
theorem wpC_call {f : Value} {pos : List Value} {kw : List (Str × Value)} {Q : Value → Shared → Prop}
    (hc : codeC M A (.call f ⟨pos, kw⟩) (fun r s' => match r with | .ok (.ret v) => Q v s' | .ok _ => False | .error e => E e s') s) :
    wpC M A (call f pos kw) Q E s := fun Γ p hΓ hΓc => by
  show wp M Γ (runValue _) _ _ p s
  rw [Sem.wp_runValue]; exact hc _ p rfl (hΓ.enter _ none p (by intro x; cases x)) hΓc
theorem wpC_runOwn {env : Env} {c : Code} {Q : Flow → Shared → Prop}
    (hc : codeC M A c (fun r s' => match r with | .ok f => Q f s' | .error _ => False) s) :
    wpC M A (runOwn c env) Q E s := by
  unfold runOwn
  refine wpC_noRaise (wpC_run (h := none) ?_)
  intro Γ p h1 h2 h3
  refine wpCode_mono (fun r s' q => ?_) (hc Γ p h1 h2 h3)
  cases r with
  | ok f => exact q
  | error e => exact q
theorem codeC_tree {c : Code} {R : Result → Shared → Prop}
    (h : wpC M (A.under c) (M.den c) (fun fin s' => match fin with | .done f => R (.ok f) s' | .again c' => c'.quiet = true ∧ codeC M A c' R s')
      (fun e s' => R (.error e) s') s) : codeC M A c R s := fun Γ p hc hΓ hΓc => by
  rw [wpCode_iff_wp, hc]
  refine Sem.wp_mono M Γ _ (fun fin p' s' h' => ?_) (fun _ _ _ h' => h') p s (h Γ p (hc ▸ hΓ.in) hΓc.has)
  cases fin with
  | done f => exact h'
  | again c' => exact ⟨h'.1, h'.2 (Γ.goto c') p' rfl (hΓ.goto c') hΓc⟩
theorem codeC_mono {c : Code} {R R' : Result → Shared → Prop} (h : codeC M A c R s) (hR : ∀ r s, R r s → R' r s) : codeC M A c R' s :=
  fun Γ p hc hΓ hΓc => wpCode_mono hR (h Γ p hc hΓ hΓc)
/-- a code that ends in its own or another quiet code -/
theorem codeC_turns {c : Code} {R : Result → Shared → Prop} (hq : c.quiet = true) (I : Nat → Shared → Prop)
    (turn : ∀ n s, I n s → wpC M (A.under c) (M.den c)
      (fun fin s' => match fin with
        | .done f => R (.ok f) s'
        | .again c' => (c' = c ∧ ∃ m, m < n ∧ I m s') ∨ (c'.quiet = true ∧ codeC M A c' R s')) (fun e s' => R (.error e) s') s)
    (n : Nat) (h : I n s) : codeC M A c R s := by
  induction n using Nat.strongRecOn generalizing s with
  | ind n ih =>
    refine codeC_tree (wpC_mono (turn n s h) (fun fin s' hf => ?_) fun _ _ h' => h')
    cases fin with
    | done f => exact hf
    | again c' =>
      rcases hf with ⟨rfl, m, hm, hI⟩ | hf
      · exact ⟨hq, ih m hm hI⟩
      · exact hf
end

section
variable {M : Model} {A : Around} {E : Value → Shared → Prop} {s : Shared} {env : Env}
theorem wpC_execs_cons {st rest} {Q : Flow → Shared → Prop}
    (h : wpC M A (exec st env) (fun f s' => match f with | .next => wpC M A (execs rest env) Q E s' | f => Q f s') E s) :
    wpC M A (execs (st :: rest) env) Q E s := by
  rw [execs_cons]
  refine wpC_bind (wpC_mono h (fun f s' q => ?_) fun _ _ q => q)
  cases f with
  | next => exact q
  | brk => exact wpC_pure q
  | cont => exact wpC_pure q
  | ret v => exact wpC_pure q
/-- a first statement of the open logic, the rest pinned -/
theorem wpC_execs_any {st rest} {Q : Flow → Shared → Prop}
    (h : wpAny M A (exec st env) (fun f s' => match f with | .next => wpC M A (execs rest env) Q E s' | f => Q f s') E s) :
    wpC M A (execs (st :: rest) env) Q E s := wpC_execs_cons (wpC_any h)
theorem wpC_Assign_Name {x pos' value pos} {Q : Flow → Shared → Prop}
    (h : wpC M A (eval value env) (fun v s₁ => wpAny M A (storeName env x v) (fun _ => Q .next) E s₁) E s)
    (hs : swapsWith value (some (.Name x pos')) pos.line env = pure false := by rfl) :
    wpC M A (exec (.Assign [.Name x pos'] value pos) env) Q E s := by
  rw [exec_Assign_Name env x pos' value pos hs]
  refine wpC_step (wpAny_standAt (wpC_bind (wpC_mono h (fun v s₁ q => ?_) fun _ _ q => q)))
  exact wpC_step (wpAny_standAt (wpC_step (wpAny_bindName (wpAny_mono q (fun _ _ z => wpC_pure z) fun _ _ z => z))))
theorem wpC_If {test body orelse pos} {Q : Flow → Shared → Prop}
    (h : wpAny M A (isTrue test env (eval test env))
      (fun b s₂ => if b then wpC M A (execs body env) Q E s₂ else wpC M A (execs orelse env) Q E s₂) E s) :
    wpC M A (exec (.If test body orelse pos) env) Q E s := by
  rw [exec_If]
  refine wpC_step (wpAny_standAt (wpC_step (wpAny_mono h (fun b s₂ q => ?_) fun _ _ q => q)))
  cases b <;> exact q
theorem wpC_For {target iter body orelse pos} {Q : Flow → Shared → Prop}
    (h : wpAny M A (eval iter env) (fun x s₁ => wpAny M A (pyIter x) (fun it s₂ =>
      codeC M A (.forLoop target it body orelse env) (fun r s' => match r with | .ok f => Q f s' | .error _ => False) s₂) E s₁) E s)
    (hs : ∀ x, foldedSetIterable iter env x = pure x := by intro _; rfl) :
    wpC M A (exec (.For target iter body orelse pos) env) Q E s := by
  rw [exec_For]
  refine wpC_step (wpAny_standAt (wpC_step (wpAny_mono h (fun x s₁ q => ?_) fun _ _ q => q)))
  rw [hs x]
  refine wpC_step (wpAny_pure (wpC_step (wpAny_standAt (wpC_step (wpAny_holding (wpAny_mono q (fun it s₂ z => ?_) fun _ _ z => z))))))
  exact wpC_runOwn z
theorem wpC_Try {body orelse : List Stmt} {h₀ : ExceptHandler} {hs : List ExceptHandler} {pos : Pos} {Q : Flow → Shared → Prop}
    (h : wpC M A (execs body env) (fun f s₁ => match f with | .next => wpAny M A (execs orelse env) Q E s₁ | f => Q f s₁)
      (fun e s₁ => wpAny M A (noteFrame e env) (fun _ s₂ => wpAny M A (setFlight e none) (fun _ s₃ => wpAny M A (handleBy e env (h₀ :: hs)) Q E s₃) E s₂) E s₁) s) :
    wpC M A (exec (.Try body (h₀ :: hs) orelse [] pos) env) Q E s := by
  rw [arm_exec_Try]
  refine wpC_step (wpAny_standAt ?_)
  unfold tryStmt
  simp only [List.isEmpty_nil, if_true, List.isEmpty_cons, Bool.false_and, Bool.false_eq_true, if_false]
  refine wpC_bind (wpC_attempt (wpC_mono h (fun f s₁ h₁ => ?_) fun e s₁ h₁ => ?_))
  · cases f <;> first | exact wpC_any h₁ | exact wpC_pure h₁
  · exact wpC_step (wpAny_mono h₁ (fun _ _ h₂ => wpC_step (wpAny_mono h₂ (fun _ _ z => wpC_any z) fun _ _ z => z)) fun _ _ x => x)
theorem wpC_Call_Name {id : Str} {p pos : Pos} {args : List Expr} {Q : Value → Shared → Prop}
    (h : wpAny M A (eval (.Name id p) env) (fun f s₁ => wpC M A (callWith pos f [] (backTo pos (starEach args env)) []) Q E s₁) E s) :
    wpC M A (eval (.Call (.Name id p) args [] pos) env) Q E s := by
  show wpC M A (do callWith pos (← eval (.Name id p) env) [] (backTo pos (starEach args env)) (backToKw pos (keywordEach [] env))) Q E s
  exact wpC_step h
theorem wpC_callWith_function {pos : Pos} {a : Addr} {o : Obj} {fd : FuncData} {first : List Value} {args : List (Bool × Sem Value)} {Q : Value → Shared → Prop}
    (h : wpAny M A (evalArgs (.ref a) true args []) (fun x s₁ => (s₁.heap.get? a = some o ∧ o.data = .func fd) ∧ wpC M A (call (.ref a) (first ++ x.pos) x.kw) Q E s₁) E s) :
    wpC M A (callWith pos (.ref a) first args []) Q E s := by
  unfold callWith
  refine wpC_step (wpAny_holding (wpAny_mono h (fun x s₁ h₁ => wpC_step (wpAny_standAt ?_)) fun _ _ x => x))
  obtain ⟨⟨ha, hd⟩, h₂⟩ := h₁
  have tail : ∀ {t : Sem Value}, wpC M A t Q E s₁ → wpC M A (t >>= fun r => holding [r] point >>= fun _ => pure r) Q E s₁ :=
    fun ht => wpC_bind (wpC_mono ht (fun r s₂ hr => wpC_step (wpAny_holding (wpAny_point (wpC_pure hr)))) fun _ _ x => x)
  have kp : wpAny M A (keeperOf (.ref a)) (fun k s₂ => k = .frame ∧ s₂ = s₁) E s₁ := by
    unfold keeperOf
    refine wpAny_bind (wpAny_load ha ?_)
    rw [hd]; exact wpAny_pure ⟨rfl, rfl⟩
  refine wpC_step (wpAny_mono kp (fun k s₂ z => ?_) fun _ _ z => z)
  obtain ⟨rfl, rfl⟩ := z
  cases hs : args.any (·.1) <;> simp only [List.any_nil, Bool.or_false]
  · split
    · exact tail h₂
    · exact tail (by unfold callMarked; exact wpC_keep h₂)
  · exact tail (by unfold callMarked; exact wpC_keep h₂)
theorem wpC_callWith_type {pos : Pos} {T : String} {first : List Value} {args : List (Bool × Sem Value)} {Q : Value → Shared → Prop}
    (hplain : args.any (·.1) = false)
    (h : wpAny M A (evalArgs (.type T) true args []) (fun a s₁ => wpC M A (call (.type T) (first ++ a.pos) a.kw) Q E s₁) E s) :
    wpC M A (callWith pos (.type T) first args []) Q E s := by
  unfold callWith
  refine wpC_step (wpAny_holding (wpAny_mono h (fun a s₁ h₁ => wpC_step (wpAny_standAt ?_)) fun _ _ x => x))
  simp only [hplain, List.any_nil, Bool.or_false]
  refine wpC_step (wpAny_pure ?_)
  exact wpC_bind (wpC_mono h₁ (fun r s₂ hr => wpC_step (wpAny_holding (wpAny_point (wpC_pure hr)))) fun _ _ x => x)
end

section
variable {prog : Program} {w : World} {A : Around} {E : Value → Shared → Prop} {R : Result → Shared → Prop} {s : Shared}
theorem codeC_forLoop {target it body env} (I : Nat → Shared → Prop)
    (turn : ∀ n s, I n s → wpAny (model prog w) A (pyNext it) (fun r s₁ => match r with
      | none => R (.ok .next) s₁
      | some v => wpAny (model prog w) A (assign target env v) (fun _ s₂ => wpC (model prog w) A (execs body env) (fun f s₃ => match f with
          | .next | .cont => ∃ m, m < n ∧ I m s₃
          | .brk => R (.ok .next) s₃
          | .ret v => R (.ok (.ret v)) s₃) (fun _ _ => False) s₂) (fun _ _ => False) s₁) (fun _ _ => False) s)
    (n : Nat) (h : I n s) (ht : ∀ v, letOwnedTupleGo target it v = pure () := by intro _; rfl) : codeC (model prog w) A (.forLoop target it body [] env) R s := by
  refine codeC_turns rfl I (fun n s hI => ?_) n h
  show wpC _ _ ((forTurn target it body [] env).onRaise (fun x => do noteFrame x env; theTreesLotGoes x)) _ _ s
  refine wpC_noRaise ?_
  simp only [forTurn]
  refine wpC_step (wpAny_standAt (wpC_bind (wpC_noRaise (wpC_any (wpAny_mono (turn n s hI) (fun r s₁ h₁ => ?_) fun _ _ h' => h')))))
  cases r with
  | none => exact wpC_pure (.inr ⟨rfl, codeC_any (codeAny_block (wpAny_execs_nil h₁))⟩)
  | some v =>
    refine wpC_step (wpAny_of_eq (ht v) (wpC_step (wpAny_mono h₁ (fun _ s₂ h₂ => wpC_bind (wpC_mono h₂ (fun f s₃ h₃ => ?_) fun _ _ h' => h')) fun _ _ h' => h')))
    cases f with
    | next => exact wpC_pure (.inl ⟨rfl, h₃⟩)
    | cont => exact wpC_pure (.inl ⟨rfl, h₃⟩)
    | brk => exact wpC_pure h₃
    | ret v => exact wpC_pure h₃
theorem codeC_func {body env}
    (h : wpC (model prog w) (A.deeper env) (execs body env) (fun f s' => R (.ok (.ret (match f with | .ret v => v | _ => .none))) s') (fun _ _ => False) s) :
    codeC (model prog w) A (.func body env) R s := by
  refine codeC_tree ?_
  show wpC _ (A.deeper env) (do point; match ← (execs body env).onRaise (leaving env) with | .ret v => ret v | _ => ret .none) _ _ s
  refine wpC_step (wpAny_point (wpC_bind (wpC_noRaise (wpC_mono h (fun f s' h' => ?_) fun _ _ h' => h'))))
  cases f <;> exact wpC_pure h'
theorem codeC_call_function {a : Addr} {args : Args} {o : Obj} {fd : FuncData} {body : List Stmt} (hroom : A.depth < recursionLimit)
    (ho : s.heap.get? a = some o)
    (hd' : o.data = .func fd) (hco : fd.scope.isCoroutine = false) (hgen : fd.scope.isGenerator = false) (hbody : fd.body = .stmts body) (hcd : s.heap.CodeRec fd.code fd.qualname)
    (h : wpAny (model prog w) A.in1 (bindArgs fd args) (fun binds s₁ =>
      wpAny (model prog w) A.in1 (newFunctionEnv fd.scope fd.globals fd.closure binds (fd.qualname ++ ".<locals>.") (some a) fd.code none fd.builtins)
        (fun env s₂ => s₂.heap.NoLimit ∧ codeC (model prog w) A (.func body env) R s₂) (fun e s' => R (.error e) s') s₁) (fun e s' => R (.error e) s') s) :
    codeC (model prog w) A (.call (.ref a) args) R s := by
  refine codeC_tree ?_
  show wpC _ A.in1 (callAny (.ref a) args) _ _ s
  simp only [callAny]
  refine wpC_step (wpAny_load ho ?_)
  obtain ⟨c, oc, vs, tq, hc, hoc, hdc, hq⟩ := hcd
  simp only [hd', callFunction, hco, hgen, hbody, hc]
  rw [hc] at h
  refine wpC_step (m := field (.ref c) 1) (wpAny_field hoc hdc hq (wpC_step (wpAny_pure ?_)))
  exact wpC_step (wpAny_mono h (fun binds s₁ h₁ => wpC_step (wpAny_mono h₁ (fun env s₂ h₂ => wpC_step (wpAny_enterFrame h₂.1 hroom
    (wpC_pure (And.intro rfl h₂.2)))) fun _ _ h' => h')) fun _ _ h' => h')
theorem callC_plain {name : Str} {params : Arguments} {body : List Stmt} {scope : Scope}
    {pm cd doc : Value} {a : Addr} {o : Obj} {args : List Value} {binds : List (Str × Value)}
    (hroom : A.depth < recursionLimit) (ho : s.heap.get? a = some o) (hdata : o.data = .func (Calls.docDef name params body scope pm cd doc)) (hlim : s.heap.NoLimit) (hcd : s.heap.CodeRec cd name)
    (hbind : bindArgs (Calls.docDef name params body scope pm cd doc) ⟨args, []⟩ = pure binds)
    (hloc : ∀ x ∈ binds, scope.names.lookup x.1 = some .local)
    (h : ∀ h₁, Fr s.heap s.heap.objs.size h₁ (fun x => binds.reverse.lookup x) →
      wpC (model prog w) (A.deeper (envOf name scope s.heap.objs.size a cd)) (execs body (envOf name scope s.heap.objs.size a cd))
        (fun f s' => R (.ok (.ret (match f with | .ret v => v | _ => .none))) s') (fun _ _ => False)
        { s with heap := h₁, toks := s.toks + binds.length })
    (hco : scope.isCoroutine = false := by rfl) (hgen : scope.isGenerator = false := by rfl) (hk : scope.kind = .function := by rfl)
    (hcell : ∀ x ∈ scope.names, x.2 ≠ .cell := by decide) :
    codeC (model prog w) A (.call (.ref a) ⟨args, []⟩) R s := by
  refine codeC_call_function hroom ho hdata hco hgen rfl hcd ?_
  rw [hbind]
  refine wpAny_pure (wpAny_newFunctionEnv hcell hloc (fun h₁ hns hsb => ⟨hlim.fresh _ hsb, ?_⟩) hk)
  show codeC _ _ (.func body (envOf name scope s.heap.objs.size a cd)) _ _
  exact codeC_func (h h₁ ⟨hns, fun b o e => hsb.extBut b o (Nat.ne_of_lt (Heap.lt_size e)) (Heap.get?_push_of_some _ e), Nat.le_refl _⟩)
end
end Mine

end PartPin

section PartInt1
open PySem PySem.W PyProof.Rows PySem.Calls PySem.NumText
open Sem (wp)
set_option maxRecDepth 100000
set_option maxHeartbeats 400000
namespace Mine
section
variable {M : Model} {A : Around} {E : Value → Shared → Prop} {s : Shared}
theorem not_made (own : List String) {codes : List Code} (h : (codes.any Code.isCaller) = true) : pythonCodeMadeTheCall own codes = false := by
  have e : ∀ a b c : Bool, a = true → ((!a && b) && c) = false := by decide
  exact e _ _ _ h
theorem wpC_pos {α : Type} {c : Prop} [Decidable c] {a b : Sem α} {Q : α → Shared → Prop} (hc : c) (h : wpC M A a Q E s) : wpC M A (if c then a else b) Q E s := by rw [if_pos hc]; exact h
theorem wpC_neg {α : Type} {c : Prop} [Decidable c] {a b : Sem α} {Q : α → Shared → Prop} (hc : ¬ c) (h : wpC M A b Q E s) : wpC M A (if c then a else b) Q E s := by rw [if_neg hc]; exact h
theorem wpC_mark {own : List String} {e : Value} {Q : Unit → Shared → Prop} (h : Q () s) : wpC M A (markTheRefusal own e) Q E s := by
  unfold markTheRefusal
  refine wpC_bind (wpC_stack fun st hst => ?_)
  rw [not_made own hst]
  exact wpC_pure h
end
section
variable {prog : Program} {w : World} {A : Around} {E : Value → Shared → Prop} {s : Shared}
theorem refuse {x : Str} {t : Tok} {text : List Nat} {Q : Value → Shared → Prop} (hh : A.handled = none)
    (hs : (text.takeWhile (· != 0)).length ≤ 640)
    (hr : (int_private% "readNumeral") 0 10 (text.takeWhile (· != 0)) = int_private% "Numeral.invalid")
    (hsz : (reprText x).length ≤ sizeLine)
    (hmsg : ((Str.ofString (toString "invalid literal for int() with base " ++ toString 10 ++ toString ": ") ++ ({ cps := (reprText x).cps.extract 0 200 } : Str) : Str)).length ≤ sizeLine)
    (h : ∀ h' tk e, Heap.NewExc s.heap h' e "ValueError" → E (.ref e) { s with heap := h', toks := tk }) :
    wpC (model prog w) A ((int_private% "intFromText") (.str x t) text 10) Q E s := by
  refine wpC_pos hs ?_
  refine wpC_step (wpAny_pure ?_)
  dsimp only
  rw [hr]
  dsimp only
  refine wpC_step (wpAny_of_eq (a := none) rfl ?_)
  refine wpC_neg (by simp) ?_
  refine wpC_step (wpAny_rule ?_)
  refine wpC_step (wpAny_of_eq (a := none) rfl ?_)
  dsimp only
  refine wpC_step (wpAny_pyRepr_str ?_ hsz)
  refine wpC_step (wpAny_mkStr ?_ hmsg)
  refine wpC_step (wpAny_newExc_plain plainExc_ValueError fun h' e hm => ?_)
  refine wpC_bind (wpC_mark ?_)
  exact wpC_any (wpAny_raiseNew_none hh (h _ _ _ hm.newExc))
end
end Mine

end PartInt1

section PartInt2
open PySem PySem.W PyProof.Rows PySem.Calls PySem.NumText
open Sem (wp)
set_option maxRecDepth 100000
set_option maxHeartbeats 400000
namespace Mine
section
variable {prog : Program} {w : World} {A : Around} {E : Value → Shared → Prop} {s : Shared}
theorem new_text {x : Str} {t u : Tok} {Q : PySem.Fin → Shared → Prop}
    (h : wpC (model prog w) A ((int_private% "intFromText") (.str x t) (numTextOf x) 10) (fun v s' => Q (.done (.ret v)) s') E s) :
    wpC (model prog w) A (Builtin.«int.__new__» ⟨[.type "int", .str x t, .int 10 u], []⟩) Q E s := by
  unfold Builtin.«int.__new__»
  dsimp only
  refine wpC_step (wpAny_of_eq (a := true) rfl ?_)
  refine wpC_neg (by decide) ?_
  refine wpC_step (wpAny_of_eq F.conv_sub_int ?_)
  refine wpC_neg (by decide) ?_
  refine wpC_step (wpAny_of_eq F.madeHere_int ?_)
  refine wpC_neg (by simp) ?_
  refine wpC_neg (by simp) ?_
  refine wpC_step (wpAny_of_eq (a := PUnit.unit) rfl ?_)
  refine wpC_step (m := Builtin.Int.intIndex "int.__new__" (.int 10 u)) (wpAny_of_eq (a := 10) rfl ?_)
  refine wpC_neg (by decide) ?_
  refine wpC_step (wpAny_of_eq (a := some (numTextOf x)) rfl ?_)
  dsimp only
  refine wpC_bind (wpC_mono h (fun v s' q => ?_) fun _ _ q => q)
  refine wpC_pos (by decide) ?_
  exact wpC_pure q
theorem typeCall_int_2 (a b : Value) : checkTypeCall "int" ⟨[a, b], []⟩ = pure () := by kernel_rfl
theorem newCall_int_2 (a b : Value) : checkBuiltinCall "int.__new__" ⟨[.type "int", a, b], []⟩ = pure () := by kernel_rfl
theorem codeC_builtin {R : Result → Shared → Prop} {id : String} {args : Args} {b : Builtin} (hb : entryFor table id = some b) (hp : A.under (.builtin id args) = A.in1)
    (h : wpC (model prog w) A.in1 (b args) (fun fin s' => match fin with | .done f => R (.ok f) s' | .again c' => c'.quiet = true ∧ codeC (model prog w) A c' R s') (fun e s' => R (.error e) s') s) :
    codeC (model prog w) A (.builtin id args) R s := by
  refine codeC_tree ?_
  rw [hp]
  show wpC _ _ (match entryFor table id with | some b => b args | none => unsupported ((withoutEnding? id "#data").getD id)) _ _ s
  rw [hb]; exact h
theorem int_bad {x : Str} {t u : Tok} {Q : Value → Shared → Prop} (hh : A.handled = none)
    (hs : (numSeenOf x).length ≤ 640)
    (hr : (int_private% "readNumeral") 0 10 (numSeenOf x) = int_private% "Numeral.invalid")
    (hsz : (reprText x).length ≤ sizeLine)
    (hmsg : ((Str.ofString (toString "invalid literal for int() with base " ++ toString 10 ++ toString ": ") ++ ({ cps := (reprText x).cps.extract 0 200 } : Str) : Str)).length ≤ sizeLine)
    (h : ∀ h' tk e, Heap.NewExc s.heap h' e "ValueError" → E (.ref e) { s with heap := h', toks := tk }) :
    wpC (model prog w) A (call (.type "int") [.str x t, .int 10 u]) Q E s := by
  have ft := F.called_int
  refine wpC_call (codeC_tree ?_)
  show wpC _ _ (callAny (.type "int") _) _ _ _
  refine wpC_pure ⟨Code.quiet_builtin _ (by decide +kernel), codeC_builtin F.entry_type_call (Around.under_plain (weight_type_call_type "int" _ []) (units_type_call_type "int" _ [])) ?_⟩
  unfold Builtin.«type.__call__»
  dsimp only
  refine wpC_neg (by rw [ft.notType]; decide) ?_
  refine wpC_neg (by rw [ft.canCreate]; decide) ?_
  refine wpC_step (wpAny_of_eq (typeCall_int_2 _ _) ?_)
  refine wpC_step (wpAny_of_eq F.mro_int ?_)
  refine wpC_neg (by decide) ?_
  refine wpC_step (wpAny_of_eq ft.made ?_)
  refine wpC_step (wpAny_pure ?_)
  refine wpC_bind (wpC_holding (wpC_call (codeC_tree ?_)))
  show wpC _ _ (do checkBuiltinCall "int.__new__" _; again (.builtin "int.__new__" _)) _ _ s
  refine wpC_step (wpAny_of_eq (newCall_int_2 _ _) (wpC_pure (And.intro (plainId_quiet ft.plain _) (codeC_builtin F.entry_int_new (Around.under_plainId ft.plain _) (new_text ?_)))))
  exact refuse hh hs hr hsz hmsg h
set_option maxHeartbeats 4000000 in
theorem gives_ten {x : Str} {t u : Tok} {n : Int} (hl : x.length ≤ 640) (hn : PySem.intText? x = some n) : Gives (Builtin.«int.__new__» ⟨[.type "int", .str x t, .int 10 u], []⟩) (.int n) :=
  .of_wp fun M A E s Q h => by
    have hs : (numSeenOf x).length ≤ 640 := Nat.le_trans (seen_length x) hl
    have hr : (int_private% "readNumeral") 0 10 (numSeenOf x) = (int_private% "Numeral.value") n ∧ ((numSeenOf x).length == (numTextOf x).length) = true := by
      rcases read0 x hs with ⟨m, h1, h2, h3⟩ | ⟨h1, _⟩
      · rw [hn] at h1
        injection h1 with h1
        subst h1
        exact ⟨h3, h2⟩
      · rw [hn] at h1
        cases h1
    unfold Builtin.«int.__new__»
    dsimp only
    refine wpAny_bind (wpAny_of_eq (a := true) rfl ?_)
    refine wpAny_ite ?_
    rw [if_neg (by decide)]
    refine wpAny_bind (wpAny_of_eq F.conv_sub_int ?_)
    refine wpAny_ite ?_
    rw [if_neg (by decide)]
    refine wpAny_bind (wpAny_of_eq F.madeHere_int ?_)
    refine wpAny_ite ?_
    rw [if_neg (by simp)]
    refine wpAny_ite ?_
    rw [if_neg (by simp)]
    refine wpAny_bind (wpAny_of_eq (a := PUnit.unit) rfl ?_)
    refine wpAny_bind (m := Builtin.Int.intIndex "int.__new__" (.int 10 u)) (wpAny_of_eq (a := 10) rfl ?_)
    refine wpAny_ite ?_
    rw [if_neg (by decide)]
    refine wpAny_bind (wpAny_of_eq (a := some (numTextOf x)) rfl ?_)
    dsimp only
    refine wpAny_bind (KIN.wp_text hs hr.1 hr.2 ?_)
    refine wpAny_ite ?_
    rw [if_pos (by decide)]
    exact wpAny_pure ⟨_, rfl, h⟩
theorem int_ok {x : Str} {t u : Tok} {n : Int} {Q : Value → Shared → Prop} (hn : PySem.intText? x = some n) (hl : x.length ≤ 640) (h : Q (.int n s.toks) { s with toks := s.toks + 1 }) :
    wpAny (model prog w) A (call (.type "int") [.str x t, .int 10 u]) Q E s :=
  callType_new F.called_int F.newNe_int (typeCall_int_2 _ _) (newCall_int_2 _ _) (fun obj => F.args_object_init_3 obj _ _) F.entry_int_new (gives_ten hl hn).meets (show (Made.int n).post _ s from ⟨rfl, h⟩)
end
end Mine

end PartInt2

section PartInt3
open PySem PySem.W PyProof.Rows PySem.Calls PySem.NumText
open Sem (wp)
set_option maxRecDepth 100000
set_option maxHeartbeats 400000
namespace Mine
/-- a text without figures and underscores -/
def Wordy (cs : List Nat) : Prop := ∀ c ∈ cs, c < 128 ∧ c ≠ 0 ∧ ¬ (48 ≤ c ∧ c ≤ 57) ∧ c ≠ 95
theorem mem_core {cs : List Nat} {c : Nat} (h : c ∈ core cs) : c ∈ cs := by
  unfold core at h
  have h1 := List.mem_reverse.mp h
  have h2 := List.mem_reverse.mp ((List.dropWhile_sublist blank).mem h1)
  have h3 : ∀ l : List Nat, c ∈ (sign l).2 → c ∈ l := by
    intro l hl
    unfold sign at hl
    split at hl
    · exact List.mem_cons_of_mem _ hl
    · exact List.mem_cons_of_mem _ hl
    · exact hl
  exact (List.dropWhile_sublist blank).mem (h3 _ h2)
theorem digits_wordy {cs : List Nat} (h : ∀ c ∈ cs, ¬ (48 ≤ c ∧ c ≤ 57) ∧ c ≠ 95) : digits? 10 cs = none := by
  cases cs with
  | nil => rfl
  | cons c cs =>
    obtain ⟨h1, h2⟩ := h c List.mem_cons_self
    have e : NumText.step 10 ((#[] : Array Nat), false) c = none := by
      unfold NumText.step digit?
      rw [if_neg (by simpa using h2)]
      rw [if_neg (by simpa using h1)]
      split
      · rename_i d hd
        split at hd
        · rename_i hc
          simp only [Bool.and_eq_true, decide_eq_true_eq] at hc
          injection hd with hd
          rw [if_neg (by omega)]
        · split at hd
          · rename_i hc
            simp only [Bool.and_eq_true, decide_eq_true_eq] at hc
            injection hd with hd
            rw [if_neg (by omega)]
          · cases hd
      · rfl
    unfold digits?
    rw [List.foldlM_cons, e]
    rfl
theorem seen_wordy {x : Str} (h : Wordy x.cps.toList) : numSeenOf x = x.cps.toList := by
  have e1 : numTextOf x = x.cps.toList := by
    refine if_pos ?_
    rw [← Array.all_toList, List.all_eq_true]
    intro c hc
    exact decide_eq_true (h c hc).1
  show (numTextOf x).takeWhile _ = _
  rw [e1]
  exact takeWhile_all fun c hc => bne_iff_ne.mpr (h c hc).2.1
section
variable {prog : Program} {w : World} {A : Around} {E : Value → Shared → Prop} {s : Shared}
theorem int_word {x : Str} {t u : Tok} {Q : Value → Shared → Prop} (hh : A.handled = none) (hx : Wordy x.cps.toList) (hl : x.length ≤ 640)
    (h : ∀ h' tk e, Heap.NewExc s.heap h' e "ValueError" → E (.ref e) { s with heap := h', toks := tk }) :
    wpC (model prog w) A (call (.type "int") [.str x t, .int 10 u]) Q E s := by
  have hz : (reprText x).length ≤ 10 * x.length + 2 := PySem.StrLaws.reprText_len x fun c hc => Nat.lt_trans (hx c hc).1 (by decide)
  have hsl : 100000 ≤ sizeLine := by decide
  refine int_bad hh ?_ ?_ (by omega) ?_ h
  · rw [seen_wordy hx]
    show x.cps.toList.length ≤ 640
    rw [Array.length_toList]; exact hl
  · rw [seen_wordy hx, readNumeral_ten, digits_wordy fun c hc => (hx c (mem_core hc)).2.2]
    exact judge_none
  · have e : ∀ a b : Str, (a ++ b).length = a.length + b.length := fun a b => by
      show (a.cps ++ b.cps).size = _
      rw [Array.size_append]; rfl
    rw [e]
    have e1 : (Str.ofString (toString "invalid literal for int() with base " ++ toString 10 ++ toString ": ")).length ≤ 1000 := by decide +kernel
    have e2 : ({ cps := (reprText x).cps.extract 0 200 } : Str).length ≤ 200 := by
      show ((reprText x).cps.extract 0 200).size ≤ 200
      rw [Array.size_extract]; omega
    omega
theorem int_figs {x : Str} {t u : Tok} {Q : Value → Shared → Prop} (hx : AllDigits x.cps.toList) (h0 : x.cps.toList ≠ []) (hl : x.length ≤ 640)
    (h : ∀ k, Q (.int ((digitsVal x.cps.toList : Nat) : Int) k) { s with toks := s.toks + 1 }) :
    wpAny (model prog w) A (call (.type "int") [.str x t, .int 10 u]) Q E s :=
  int_ok (intText_digits hx h0 (Nat.le_trans hl (by decide))) hl (h _)
end
end Mine

end PartInt3

section PartPin2
open PySem PySem.W PyProof.Rows PySem.Calls
open Sem (wp)
set_option maxRecDepth 100000
set_option maxHeartbeats 400000
namespace Mine
section
variable {prog : Program} {w : World} {A : Around} {R : Result → Shared → Prop} {s : Shared} {env : Env}
theorem codeC_for {target : PySem.Expr} {body : List Stmt} {I : Addr} {fp wr : List Addr} {n : Nat} {P : Nat → Value → Prop} {St : Nat → Heap → Prop} (W : Walks prog w A I fp wr n P St) (J : Nat → Shared → Prop)
    (turn : ∀ i s, i < n → J i s → St i s.heap ∧ ∀ v h' tk, P i v → St (i + 1) h' → (∀ b o, b ∉ wr → s.heap.get? b = some o → h'.get? b = some o) →
      wpAny (model prog w) A (assign target env v) (fun _ s₂ => wpC (model prog w) A (execs body env) (fun f s₃ => match f with
          | .next | .cont => J (i + 1) s₃
          | .brk => R (.ok .next) s₃
          | .ret v => R (.ok (.ret v)) s₃) (fun _ _ => False) s₂) (fun _ _ => False) { s with heap := h', toks := tk })
    (done : ∀ s, J n s → St n s.heap ∧ ∀ h' tk, (∀ b o, b ∉ wr → s.heap.get? b = some o → h'.get? b = some o) → R (.ok .next) { s with heap := h', toks := tk })
    (h0 : J 0 s) (ht : ∀ v, letOwnedTupleGo target (.ref I) v = pure () := by intro _; rfl) : codeC (model prog w) A (.forLoop target (.ref I) body [] env) R s := by
  refine codeC_forLoop (fun k s' => ∃ i, i ≤ n ∧ k = n - i ∧ J i s') ?_ n ⟨0, Nat.zero_le _, rfl, h0⟩ ht
  rintro k s' ⟨i, hi, rfl, hJ⟩
  by_cases hlt : i < n
  · obtain ⟨hst, hturn⟩ := turn i s' hlt hJ
    refine W.item i _ _ _ hlt hst fun v h₁ tk₁ hP hst₁ hk₁ => ?_
    refine wpAny_mono (hturn v h₁ tk₁ hP hst₁ hk₁) (fun _ s₂ q => wpC_mono q (fun f s₃ z => ?_) fun _ _ z => z) fun _ _ z => z
    cases f with
    | next => exact ⟨n - (i + 1), by omega, i + 1, hlt, rfl, z⟩
    | cont => exact ⟨n - (i + 1), by omega, i + 1, hlt, rfl, z⟩
    | brk => exact z
    | ret v => exact z
  · have hin : i = n := by omega
    subst hin
    obtain ⟨hst, hd⟩ := done s' hJ
    exact W.done _ _ _ hst fun h₁ tk₁ hk₁ => hd h₁ tk₁ hk₁
end
end Mine

end PartPin2

section PartRe8
open PySem PySem.W PyProof.Rows PySem.Calls
set_option maxRecDepth 100000
set_option maxHeartbeats 400000
namespace Mine
theorem attrs_re : PlainAttrs "re.Pattern" :=
  ⟨⟨"object.__getattribute__", by rw [typeLookup_type, builtinLookup_eq_fast]; kernel_rfl, by decide +kernel⟩, by rw [typeLookup_type, builtinLookup_eq_fast]; kernel_rfl⟩
section
variable {prog : Program} {w : World} {A : Around} {E : Value → Shared → Prop} {s : Shared}
theorem split_method {a b : Tok} {y : Str} {pl : Sem Bool} {Q : Value × List Value → Shared → Prop} (hp : s.heap.get? 36 = some (patObj a b y)) (h : Q (.builtin "re.Pattern.split", [.ref 36]) s) :
    wpAny (model prog w) A (getMethod (.ref 36) "split" pl) Q E s :=
  getMethod_builtin ⟨_, hp, rfl⟩ attrs_re slot_re_split type_re_split (fun _ e => by cases e; exact ⟨_, hp, rfl⟩) h
theorem split_call {Q : Value → Shared → Prop} {x y : Str} {t a b : Tok} (hp : s.heap.get? 36 = some (patObj a b y)) {n : Nat} (hc : s.heap.get? 35 = some { cls := .type "tuple", data := .seq (CODE.map fun (k : Nat) => Value.int k 0) n })
    (hx : x.cps.size ≤ 1000000)
    (hQ : ∀ k full ws, SplitR x.cps 0 full → StrsAre full ws → Q (.ref s.heap.objs.size) { s with heap := s.heap.push (W.listOf ws.toArray 0), toks := k }) :
    wpAny (model prog w) A (call (.builtin "re.Pattern.split") [.ref 36, .str x t]) Q E s :=
  wpAny_call_entry slot_re_split ⟨_, hp, rfl⟩ entry_re_split (split_body hp hc hx hQ) (args_re_split _ _)
end
theorem pat_in {p : Params} {h : Heap} (X : (hd.heap_39 p).In h) : ∃ a b y n, h.get? 36 = some (patObj a b y) ∧ h.get? 35 = some { cls := .type "tuple", data := .seq (CODE.map fun (k : Nat) => Value.int k 0) n } := by
  exact ⟨285, 329, Str.ofString "([0-9]+|[._+-])", 0, X 36 _ (by kernel_rfl), X 35 _ (by kernel_rfl)⟩
end Mine

end PartRe8

section PartPlain3
open PySem PySem.W PyProof.Rows PySem.Calls PySem.NumText
set_option maxRecDepth 100000
set_option maxHeartbeats 400000
namespace Mine
/-- what a piece of the split brings into the list -/
inductive PieceK : Str → List Run → Prop
  | nil {p : Str} : p.cps.toList = [] → PieceK p []
  | sep {p : Str} {c : Nat} : p.cps.toList = [c] → sep4 c = true → PieceK p []
  | figs {p : Str} : AllDigits p.cps.toList → p.cps.toList ≠ [] → PieceK p [.num 100, .num (digitsVal p.cps.toList)]
  | word {p : Str} : Wordy p.cps.toList → (∀ c ∈ p.cps.toList, sep4 c = false) → p.cps.toList ≠ [] → PieceK p [.num (rankN p.cps.toList), .txt p.cps.toList]
def PiecesK : List Str → List (List Run) → Prop
  | [], [] => True
  | p :: ps, e :: es => PieceK p e ∧ PiecesK ps es
  | _, _ => False
theorem PiecesK.length : ∀ {ps : List Str} {es : List (List Run)}, PiecesK ps es → ps.length = es.length
  | [], [], _ => rfl
  | _ :: _, _ :: _, h => by simp [PiecesK.length h.2]
  | [], _ :: _, h => h.elim
  | _ :: _, [], h => h.elim
theorem PiecesK.get : ∀ {ps : List Str} {es : List (List Run)} {i : Nat} {p : Str}, PiecesK ps es → ps[i]? = some p → ∃ e, es[i]? = some e ∧ PieceK p e
  | [], [], _, _, _, h => by simp at h
  | _ :: _, e :: _, 0, _, h, h' => by simp at h'; exact ⟨e, rfl, h' ▸ h.1⟩
  | _ :: _, _ :: _, i + 1, _, h, h' => by
    obtain ⟨e, e1, e2⟩ := h.2.get (i := i) (by simpa using h')
    exact ⟨e, by simpa using e1, e2⟩
  | [], _ :: _, _, _, h, _ => h.elim
  | _ :: _, [], _, _, h, _ => h.elim
theorem flat_succ {es : List (List Run)} {i : Nat} {e : List Run} (h : es[i]? = some e) : (es.take (i + 1)).flatten = (es.take i).flatten ++ e := by
  rw [List.take_add_one, h]; simp
end Mine

end PartPlain3

section PartPlain4
open PySem PySem.W PyProof.Rows PySem.Calls PySem.NumText
set_option maxRecDepth 100000
set_option maxHeartbeats 400000
namespace Mine
theorem four : (Str.ofString "._+-").cps.toList = [46, 95, 43, 45] := by rfl
theorem no_four {p : Str} (h0 : p.cps.toList ≠ []) (h : ∀ c ∈ p.cps.toList, sep4 c = false) : (Builtin.Str.occurrences (Str.ofString "._+-") p 0 (Str.ofString "._+-").length 1).isEmpty = true := by
  cases hq : (Builtin.Str.occurrences (Str.ofString "._+-") p 0 (Str.ofString "._+-").length 1).isEmpty with
  | true => rfl
  | false =>
    obtain ⟨i, hi, hs⟩ := (StrLaws.found_iff (Str.ofString "._+-") p).mp (by rw [hq]; rfl)
    have hs' : (Str.ofString "._+-").cps.extract i (i + p.length) = p.cps := by
      unfold Builtin.Str.subAt at hs
      exact eq_of_beq hs
    obtain ⟨c, r, e⟩ : ∃ c r, p.cps.toList = c :: r := by
      cases e : p.cps.toList with
      | nil => exact absurd e h0
      | cons c r => exact ⟨c, r, rfl⟩
    have hc := h c (by rw [e]; exact .head _)
    have hm : c ∈ (Str.ofString "._+-").cps.toList := by
      have : c ∈ ((Str.ofString "._+-").cps.extract i (i + p.length)).toList := by rw [hs', e]; exact .head _
      rw [Array.toList_extract] at this
      exact List.mem_of_mem_drop (List.mem_of_mem_take this)
    rw [four] at hm
    have : sep4 c = true := by
      unfold sep4
      rw [List.contains_iff_mem]; exact hm
    rw [this] at hc; cases hc
theorem in_four {p : Str} (h : p.cps.toList = [] ∨ ∃ c, p.cps.toList = [c] ∧ sep4 c = true) : (Builtin.Str.occurrences (Str.ofString "._+-") p 0 (Str.ofString "._+-").length 1).isEmpty = false := by
  have e : (!(Builtin.Str.occurrences (Str.ofString "._+-") p 0 (Str.ofString "._+-").length 1).isEmpty) = true := by
    rcases h with h | ⟨c, h, hs⟩
    · obtain ⟨⟨l⟩⟩ := p
      obtain rfl : l = [] := h
      decide +kernel
    · obtain ⟨⟨l⟩⟩ := p
      obtain rfl : l = [c] := h
      have := StrLaws.found_one (Str.ofString "._+-") c
      refine this.trans ?_
      rw [four]
      unfold sep4 at hs
      rw [List.contains_iff_mem] at hs
      exact decide_eq_true hs
  simpa using e
end Mine

end PartPlain4

section PartFcmp
open PySem PySem.W PyProof.Rows PySem.Calls PySem.NumText
set_option maxRecDepth 100000
set_option pp.maxSteps 3000
set_option maxHeartbeats 0
namespace Mine
section
local macro_rules | `(tactic| walk_at "GO") => `(tactic| (repeat' (first | (k_unfold; (try dsimp only)) | (walk1; try dsimp only) | (dsimp only; walk1))))
local macro_rules | `(tactic| walk_at "eval Name") => `(tactic| (refine ld (by assumption) (by first | with_reducible rfl | rfl | assumption) ?_))
theorem evalArgs2 {M : Model} {A : Around} {E : Value → Shared → Prop} {s : Shared} {env : Env} {Q : Args → Shared → Prop} {f : Value} {pos : Pos} {e₁ e₂ : PySem.Expr} (h : wpAny M A (eval e₁ env) (fun v s₁ => wpAny M A (eval e₂ env) (fun u s₂ => Q ⟨[v, u], []⟩ s₂) E s₁) E s)
    (ha : backTo pos (starEach [e₁, e₂] env) = [(false, eval e₁ env), (false, eval e₂ env)] := by rfl) : wpAny M A (evalArgs f true (backTo pos (starEach [e₁, e₂] env)) []) Q E s := by
  rw [ha]
  exact Calls.evalArgs_plain (Calls.spliced_cons (wpAny_mono h (fun _ _ q => Calls.spliced_cons (wpAny_mono q (fun _ _ z => Calls.spliced_nil z) fun _ _ z => z)) fun _ _ z => z))
theorem flat_rank {v : Value} {x : Str} (h : PyProof.V.Flat v ((Spec.lookup (.str x) RANKS).getD (.int 0))) : ∃ t, v = .int (rankZ x) t := by
  unfold rankZ PyProof.Rows.intAt
  cases e : Spec.lookup (.str x) RANKS with
  | none => rw [e] at h; exact PyProof.V.Flat.int_inv h
  | some d =>
    rw [e] at h
    have hm := lookup_mem e
    simp only [RANKS, List.map_cons, List.map_nil, List.mem_cons, List.not_mem_nil, or_false] at hm
    rcases hm with rfl | rfl | rfl | rfl | rfl | rfl | rfl | rfl | rfl | rfl <;> exact PyProof.V.Flat.int_inv h
theorem split_small {text : Array Nat} {st : Nat} {full : List Str} (h : SplitR text st full) (hst : st ≤ text.size) : (∀ p ∈ full, p.length ≤ text.size) ∧ full.length ≤ 2 * (text.size - st) + 1 := by
  induction h with
  | last _ =>
    refine ⟨fun p hp => ?_, by simp⟩
    rw [List.mem_singleton.mp hp]
    show (text.extract _ _).size ≤ _
    rw [Array.size_extract]; omega
  | more hn _ ih =>
    obtain ⟨b1, b2, b3⟩ := nextAt_bounds text _ _ _ _ (by omega) hn
    obtain ⟨i1, i2⟩ := ih b3
    refine ⟨fun p hp => ?_, by simp only [List.length_cons]; omega⟩
    rcases List.mem_cons.mp hp with rfl | hp
    · show (text.extract _ _).size ≤ _
      rw [Array.size_extract]; omega
    rcases List.mem_cons.mp hp with rfl | hp
    · show (text.extract _ _).size ≤ _
      rw [Array.size_extract]; omega
    exact i1 p hp
/-- what holds before a turn of the loop over the pieces -/
def CmpJ (s : Shared) (hb : Heap) (L D sp I Lw : Addr) (oL : Obj) (pv : List Value) (es : List (List Run)) (i : Nat) (s' : Shared) : Prop :=
  ∃ h tk m ws n oL' oI, s' = { s with heap := h, toks := tk } ∧ Fr hb L h m ∧ News hb L h [(D, W.listOf ws n), (sp, W.listOf pv.toArray 0), (I, oI), (Lw, oL')] ∧
    oI.cls = .type "list_iterator" ∧ oI.data = .fields #[.ref sp, .int i 0] ∧ m (Str.ofString "result") = some (.ref D) ∧ (∃ sl, oL' = { oL with slots := sl }) ∧
    ∃ vs : List Value, ws = vs.toArray ∧ RunsAre (es.take i).flatten vs ∧ vs.length ≤ 2 * i
theorem cmp_call {w : World} {A : Around} {s : Shared} {R : Result → Shared → Prop} {x : Str} {t : Tok} {mg mb : Str → Option Value} {hb : Heap} {env : Env} {Lw : Addr} {oL : Obj}
    (hkeep : ∀ b o, hb.get? b = some o → s.heap.get? b = some o) (hsize : hb.objs.size ≤ s.heap.objs.size) (hLw : hb.get? Lw = none)
    (X : (hd.heap_39 w.params).In hb) (T : TopRead hd.view_39 Loose mg mb hb)
    (hoL : s.heap.get? Lw = some oL) (hLd : ∃ es ep, oL.data = .dict es ep) (hfr : A.frames = some [env]) (hek : env.scope.kind ≠ .module) (hef : env.frame = some Lw)
    (hroom : A.depth < 800) (hx : x.length ≤ 600) (hpc : ∀ full, SplitR x.cps 0 full → ∃ es, PiecesK full es) (hh : A.handled = none)
    (h : ∀ h' k a (vs : List Value) sl full es, (∀ b o, hb.get? b = some o → h'.get? b = some o) → h'.get? Lw = some { oL with slots := sl } → hb.get? a = none → a ≠ Lw → h'.IsList a vs.toArray →
      SplitR x.cps 0 full → PiecesK full es → RunsAre es.flatten vs → R (.ok (.ret (.ref a))) { s with heap := h', toks := k }) :
    codeC (model PySem.Challenge.rw_ny0464_01.row.prog w) A (.call (.ref 44) ⟨[.str x t], []⟩) R s := by
  obtain ⟨pa, pb, py, pn, hp36, hp35⟩ := pat_in X
  revert X; k_fill; intro X
  refine callC_plain (a := 44) (binds := [(Str.ofString "version", .str x t)]) (Nat.lt_trans hroom (by decide)) (hkeep _ _ (X 44 _ (by k_is))) rfl (T.nolimit.keeps hkeep) ((codeRec_of X (by k_is)).keeps hkeep) (by rfl) (locs (by rfl)) ?_
  intro h₁ F₁
  have F : Fr hb s.heap.objs.size h₁ _ := ⟨F₁.ns, fun b o e => F₁.keep b o (hkeep b o e), hsize⟩
  have N : News hb s.heap.objs.size h₁ [(Lw, oL)] := by
    intro p hp
    rw [List.mem_singleton.mp hp]
    exact ⟨F₁.keep _ _ hoL, Nat.ne_of_lt (Heap.lt_size hoL), hLw⟩
  clear F₁
  generalize s.heap.objs.size = L at F N ⊢
  w_on
  refine wpC_execs_any ?_
  walk_at "GO"
  refine wpC_execs_any ?_
  walk_at "GO"
  refine wpC_execs_cons (wpC_For ?_)
  walk_at "GO"
  rename Fr _ _ _ _ => F₂
  rename News _ _ _ _ => N₂
  rename_i D _ hLD h₂
  refine split_method (F₂.keep _ _ hp36) ?_
  walk_at "GO"
  refine split_call (F₂.keep _ _ hp36) (F₂.keep _ _ hp35) (Nat.le_trans hx (by decide)) ?_
  intro k full pv hsplit hpv
  obtain ⟨es, hes⟩ := hpc full hsplit
  dsimp only
  have hLlt := F₂.ns.lt
  have hDm := N₂ _ (.head _)
  have hWm := N₂ _ (.tail _ (.head _))
  have hlt1 := Heap.lt_size hDm.1
  have hlt2 := Heap.lt_size hWm.1
  have hspl : (h₂.push (W.listOf pv.toArray 0)).IsList h₂.objs.size pv.toArray := ⟨_, Heap.get?_push_size _ rfl, rfl, _, rfl⟩
  refine wpAny_pyIter_list hspl ?_
  have hI : (h₂.push (W.listOf pv.toArray 0)).objs.size = h₂.objs.size + 1 := Heap.size_push _ _
  have hpush : ∀ b, h₂.objs.size ≤ b → hb.get? b = none := fun b hb' => by
    cases e : hb.get? b with
    | none => rfl
    | some o => exact absurd (Heap.lt_size (F₂.keep _ _ e)) (Nat.not_lt.mpr hb')
  have hIge : h₂.objs.size ≤ (h₂.push (W.listOf pv.toArray 0)).objs.size := by rw [hI]; exact Nat.le_succ _
  have hLI : L ≠ (h₂.push (W.listOf pv.toArray 0)).objs.size := Nat.ne_of_lt (Nat.lt_of_lt_of_le hLlt hIge)
  have hDI : D ≠ (h₂.push (W.listOf pv.toArray 0)).objs.size := Nat.ne_of_lt (Nat.lt_of_lt_of_le hlt1 hIge)
  have hWI : Lw ≠ (h₂.push (W.listOf pv.toArray 0)).objs.size := Nat.ne_of_lt (Nat.lt_of_lt_of_le hlt2 hIge)
  have hSI : h₂.objs.size ≠ (h₂.push (W.listOf pv.toArray 0)).objs.size := by rw [hI]; exact Nat.ne_of_lt (Nat.lt_succ_self _)
  refine codeC_for (Walks.list (by exact hh) (h₂.push (W.listOf pv.toArray 0)).objs.size h₂.objs.size (by rw [hI]; exact Nat.ne_of_lt (Nat.lt_succ_self _)) pv.toArray) (CmpJ s hb L D h₂.objs.size (h₂.push (W.listOf pv.toArray 0)).objs.size Lw oL pv es) ?_ ?_ ?_
  rotate_left
  · rintro s' ⟨h₃, tk, m, ws, n, oL', oI, rfl, F₃, N₃, hc1, hc2, hm, ⟨sl, rfl⟩, vs, rfl, hvs, hlen⟩
    have e1 := hpv.length
    have e2 := hes.length
    refine ⟨⟨⟨oI, (N₃ _ (.tail _ (.tail _ (.head _)))).1, hc1, hc2⟩, News.list N₃ (.tail _ (.head _))⟩, ?_⟩
    intro h₄ tk₄ hk₄
    have hsub : ∀ b o, b ≠ (h₂.push (W.listOf pv.toArray 0)).objs.size → h₃.get? b = some o → h₄.get? b = some o := fun b o hne e => hk₄ b o (fun hm => hne (List.mem_singleton.mp hm)) e
    have F₄ : Fr hb L h₄ m := ⟨F₃.ns.at' fun o e => hsub _ o hLI e, fun b o e => hsub b o (fun z => by rw [z, hpush _ hIge] at e; cases e) (F₃.keep b o e), F₃.above⟩
    have N₄ : News hb L h₄ [(D, W.listOf vs.toArray n), (Lw, { oL with slots := sl })] := by
      intro p hp
      rcases List.mem_cons.mp hp with rfl | hp
      · exact ⟨hsub _ _ hDI (N₃ _ (.head _)).1, (N₃ _ (.head _)).2⟩
      · rw [List.mem_singleton.mp hp]
        exact ⟨hsub _ _ hWI (N₃ _ (.tail _ (.tail _ (.tail _ (.head _))))).1, (N₃ _ (.tail _ (.tail _ (.tail _ (.head _))))).2⟩
    show wpC _ _ _ _ _ _
    refine wpC_any ?_
    clear F₂ N₂ F₃ N₃
    walk_at "GO"
    refine h _ _ _ _ _ full es F₄.keep (N₄ _ (.tail _ (.head _))).1 (N₄ _ (.head _)).2.2 (Nat.ne_of_gt hLD) (News.list N₄ (.head _)) hsplit hes ?_
    have e3 : pv.toArray.size = es.length := by simp only [List.size_toArray]; omega
    rw [e3, List.take_length] at hvs
    exact hvs
  · exact ⟨_, _, _, _, 0, oL, _, rfl, (F₂.push _).push _, (by
      intro p hp
      rcases List.mem_cons.mp hp with rfl | hp
      · exact ⟨Heap.get?_push_of_some _ (Heap.get?_push_of_some _ hDm.1), hDm.2⟩
      rcases List.mem_cons.mp hp with rfl | hp
      · exact ⟨Heap.get?_push_of_some _ (Heap.get?_push_size _ rfl), Nat.ne_of_gt hLlt, hpush _ (Nat.le_refl _)⟩
      rcases List.mem_cons.mp hp with rfl | hp
      · exact ⟨Heap.get?_push_size _ rfl, (by rw [show ((h₂.push (W.listOf pv.toArray 0)).objs.size, _).fst = h₂.objs.size + 1 from hI]; exact Nat.ne_of_gt (Nat.lt_succ_of_lt hLlt)), hpush _ (by rw [show ((h₂.push (W.listOf pv.toArray 0)).objs.size, _).fst = h₂.objs.size + 1 from hI]; exact Nat.le_succ _)⟩
      rw [List.mem_singleton.mp hp]
      exact ⟨Heap.get?_push_of_some _ (Heap.get?_push_of_some _ hWm.1), hWm.2⟩), rfl, rfl, rfl, ⟨oL.slots, rfl⟩, [], rfl, (by simp [RunsAre]), Nat.zero_le _⟩
  intro i s' hi hJ
  obtain ⟨h₃, tk, m, ws, n, oL', oI, rfl, F₃, N₃, hc1, hc2, hm, ⟨sl, rfl⟩, vs, rfl, hvs, hlen⟩ := hJ
  refine ⟨⟨⟨oI, (N₃ _ (.tail _ (.tail _ (.head _)))).1, hc1, hc2⟩, News.list N₃ (.tail _ (.head _))⟩, ?_⟩
  intro v h₄ tk₄ hv hst₄ hk₄
  obtain ⟨p, u, hp, rfl⟩ := hpv.get (by simpa using hv)
  obtain ⟨e, he, hk⟩ := hes.get hp
  obtain ⟨⟨oI', ho1, ho2, ho3⟩, _⟩ := hst₄
  have hsub : ∀ b o, b ≠ (h₂.push (W.listOf pv.toArray 0)).objs.size → h₃.get? b = some o → h₄.get? b = some o := fun b o hne e => hk₄ b o (fun hm => hne (List.mem_singleton.mp hm)) e
  have F₄ : Fr hb L h₄ m := ⟨F₃.ns.at' fun o e => hsub _ o hLI e, fun b o e => hsub b o (fun z => by rw [z, hpush _ hIge] at e; cases e) (F₃.keep b o e), F₃.above⟩
  have N₄ : News hb L h₄ [(D, W.listOf vs.toArray n), (h₂.objs.size, W.listOf pv.toArray 0), ((h₂.push (W.listOf pv.toArray 0)).objs.size, oI'), (Lw, { oL with slots := sl })] := by
    intro p hp
    rcases List.mem_cons.mp hp with rfl | hp
    · exact ⟨hsub _ _ hDI (N₃ _ (.head _)).1, (N₃ _ (.head _)).2⟩
    rcases List.mem_cons.mp hp with rfl | hp
    · exact ⟨hsub _ _ hSI (N₃ _ (.tail _ (.head _))).1, (N₃ _ (.tail _ (.head _))).2⟩
    rcases List.mem_cons.mp hp with rfl | hp
    · exact ⟨ho1, (N₃ _ (.tail _ (.tail _ (.head _)))).2⟩
    rw [List.mem_singleton.mp hp]
    exact ⟨hsub _ _ hWI (N₃ _ (.tail _ (.tail _ (.tail _ (.head _))))).1, (N₃ _ (.tail _ (.tail _ (.tail _ (.head _))))).2⟩
  have hx' : x.cps.size ≤ 600 := hx
  obtain ⟨hsm1, hsm2⟩ := split_small hsplit (Nat.zero_le _)
  have hpl : p.length ≤ 640 := by have := hsm1 p (List.mem_of_getElem? hp); omega
  have hfl : full.length ≤ 100000 := by omega
  have hsz : vs.length + [Value.none, Value.none].length ≤ sizeLine := by
    have e1 := hpv.length
    simp only [List.size_toArray] at hi
    rw [sizeLine_eq]; simp only [List.length_cons, List.length_nil]; omega
  have hDr : ∀ p ∈ [(h₂.objs.size, W.listOf pv.toArray 0), ((h₂.push (W.listOf pv.toArray 0)).objs.size, oI'), (Lw, { oL with slots := sl })], p.1 ≠ D := by
    intro p hp
    rcases List.mem_cons.mp hp with rfl | hp
    · exact Nat.ne_of_gt hlt1
    rcases List.mem_cons.mp hp with rfl | hp
    · exact fun e => hDI e.symm
    rw [List.mem_singleton.mp hp]
    exact Nat.ne_of_lt hLD
  have hDr' : ∀ (q : Array (Option Value)), ∀ p ∈ [(h₂.objs.size, W.listOf pv.toArray 0), ((h₂.push (W.listOf pv.toArray 0)).objs.size, oI'), (Lw, { oL with slots := q })], p.1 ≠ D := by
    intro q p hp
    rcases List.mem_cons.mp hp with rfl | hp
    · exact Nat.ne_of_gt hlt1
    rcases List.mem_cons.mp hp with rfl | hp
    · exact fun e => hDI e.symm
    rw [List.mem_singleton.mp hp]
    exact Nat.ne_of_lt hLD
  generalize (h₂.push (W.listOf pv.toArray 0)).objs.size = I at *
  generalize h₂.objs.size = sp at *
  clear F₂ N₂ F₃ N₃ hsub hk₄ hpush hspl
  dsimp only
  refine wpAny_assign_Name ?_
  walk_at "GO"
  refine wpC_execs_cons (wpC_If ?_)
  walk_at "GO"
  all_goals rename Fr _ _ _ _ => F₅
  all_goals rename News _ _ _ _ => N₅
  · rename_i hocc
    refine wpC_execs_cons (wpC_Try ?_)
    refine wpC_execs_cons (wpC_Assign_Name (wpC_Call_Name ?_))
    walk_at "GO"
    refine wpC_callWith_type (by rfl) ?_
    refine evalArgs2 ?_
    walk_at "GO"
    cases hk with
    | nil h1 => rw [in_four (.inl h1)] at hocc; cases hocc
    | sep h1 h2 => rw [in_four (.inr ⟨_, h1, h2⟩)] at hocc; cases hocc
    | figs h1 h2 =>
      refine wpC_any (int_figs h1 h2 hpl ?_)
      intro kv
      walk_at "GO"
      refine wpC_execs_any ?_
      walk_at "GO"
      refine wpC_any (wpAny_execs_nil (wpAny_execs_nil ?_))
      refine wpC_execs_any ?_
      walk_at "GO"
      rename Fr _ _ _ _ => F₉; rename News _ _ _ _ => N₉
      rename_i T' _ l1
      refine extend_T (its2 := [_, _]) F₉ N₉ (.head _) (by simp) (.tail (Nat.ne_of_gt l1.1) (.head hDr)) ?_ hsz
      intro h₁₀ F₁₀ N₁₀
      refine wpC_any (wpAny_execs_nil (wpC_any (wpAny_execs_nil ?_)))
      refine ⟨_, _, _, _, n + 1, _, oI', rfl, F₁₀, (fun p hp => N₁₀ p (.tail _ hp)), ho2, ho3, hm, ⟨sl, rfl⟩, _, rfl, ?_, by simp only [List.length_append, List.length_cons, List.length_nil]; omega⟩
      rw [flat_succ he]
      exact hvs.append ⟨⟨_, rfl⟩, ⟨_, rfl⟩, trivial⟩
    | word h1 h2 h3 =>
      refine int_word (by exact hh) h1 hpl ?_
      intro h₆ tk₆ ex hnew
      refine TI.noted_newT (l := [env]) (new := [(D, W.listOf vs.toArray n), (sp, W.listOf pv.toArray 0), (I, oI')]) (frs := [(Lw, { oL with slots := sl })]) hfr ⟨hek, hef, hLd, trivial⟩ hnew F₅ N₅ (by simp [TI.notDict, ho3]) ?_
      intro h₇ frs' SU Fs' H
      obtain ⟨sl', rfl⟩ := TLg.one_up SU
      refine H.land fun h₈ H₈ => ?_
      refine wpAny_handleBy_builtin (X := "ValueError") (T := "ValueError") (b := true) (isSubtype_of_subB (by decide +kernel)) (isSubtype_of_subB (by decide +kernel)) (isSubtype_of_subB (by decide +kernel)) ?_
      have F₈ := H₈.held.fr
      have N₈ := H₈.made
      clear F₅ N₅
      refine wpAny_mono (E := fun _ _ => False) ?_ (fun _ _ q => q) fun _ _ q => q.elim
      walk1
      refine ⟨rfl, TT.HeldNA.isA (s' := { s with heap := h₈ }) H₈, ?_⟩
      rw [if_pos rfl]
      clear F₈ N₈
      refine H₈.lands fun h₉ F₉ N₉ => ?_
      replace N₉ : News hb L h₉ [(D, W.listOf vs.toArray n), (sp, W.listOf pv.toArray 0), (I, oI'), (Lw, { oL with slots := sl' })] := N₉
      clear H₈ H
      refine wpAny_mono (E := fun _ _ => False) ?_ (fun _ _ q => q) fun _ _ q => q.elim
      walk_at "GO"
      rename PyProof.V.Flat _ _ => hv'
      obtain ⟨tr, rfl⟩ := flat_rank (x := p) hv'
      refine wpC_execs_any ?_
      walk_at "GO"
      rename Fr _ _ _ _ => F₉; rename News _ _ _ _ => N₉
      rename_i T' _ l1
      refine extend_T (its2 := [_, _]) F₉ N₉ (.head _) (by simp) (.tail (Nat.ne_of_gt l1.1) (.head (hDr' sl'))) ?_ hsz
      intro h₁₀ F₁₀ N₁₀
      refine wpC_any (wpAny_execs_nil (wpC_any (wpAny_execs_nil ?_)))
      refine ⟨_, _, _, _, n + 1, _, oI', rfl, F₁₀, (fun p hp => N₁₀ p (.tail _ hp)), ho2, ho3, hm, ⟨sl', rfl⟩, _, rfl, ?_, by simp only [List.length_append, List.length_cons, List.length_nil]; omega⟩
      rw [flat_succ he]
      have hpp : p = ⟨p.cps.toList.toArray⟩ := by simp
      have hrk : rankZ p = ((rankN p.cps.toList : Nat) : Int) := by rw [← rank_cast, ← hpp]
      exact hvs.append ⟨⟨tr, by rw [hrk]⟩, ⟨u, by rw [← hpp]⟩, trivial⟩
  · rename_i hocc
    have hnil : e = [] := by
      cases hk with
      | nil _ => rfl
      | sep _ _ => rfl
      | figs h1 h2 =>
        rw [no_four h2 (fun c hc => by
          have := h1 c hc
          simp [sep4]; omega)] at hocc
        cases hocc
      | word h1 h2 h3 => rw [no_four h3 h2] at hocc; cases hocc
    refine wpC_any (wpAny_execs_nil (wpC_any (wpAny_execs_nil ?_)))
    refine ⟨_, _, _, _, n, _, oI', rfl, F₅, N₅, ho2, ho3, hm, ⟨sl, rfl⟩, vs, rfl, ?_, by omega⟩
    rw [flat_succ he, hnil, List.append_nil]
    exact hvs
end
end Mine

end PartFcmp

section PartFilt
open PySem PySem.W PyProof.Rows PySem.Calls
set_option maxRecDepth 100000
set_option maxHeartbeats 400000
namespace Mine
theorem slot_filter_next : Slot "filter" "__next__" "filter.__next__" :=
  .of (owner := "filter") (n := "__next__") (by rw [typeLookup_type, builtinLookup_eq_fast]; kernel_rfl) (by decide +kernel) (by decide +kernel) (by decide +kernel)
    (by first | exact .inl (by decide +kernel) | exact .inr (by decide +kernel)) (by rw [isSubtype_type]; kernel_rfl)
theorem slot_filter_iter : Slot "filter" "__iter__" "filter.__iter__" :=
  .of (owner := "filter") (n := "__iter__") (by rw [typeLookup_type, builtinLookup_eq_fast]; kernel_rfl) (by decide +kernel) (by decide +kernel) (by decide +kernel)
    (by first | exact .inl (by decide +kernel) | exact .inr (by decide +kernel)) (by rw [isSubtype_type]; kernel_rfl)
theorem slot_filter_init : Slot "filter" "__init__" "object.__init__" :=
  .of (owner := "object") (n := "__init__") (by rw [typeLookup_type, builtinLookup_eq_fast]; kernel_rfl) (by decide +kernel) (by decide +kernel) (by decide +kernel)
    (by first | exact .inl (by decide +kernel) | exact .inr (by decide +kernel)) (by rw [isSubtype_type]; kernel_rfl)
theorem entry_filter_next : entryFor table "filter.__next__" = some Builtin.«filter.__next__» := entryFor_of_tree (by kernel_rfl)
theorem entry_filter_new : entryFor table "filter.__new__" = some Builtin.«filter.__new__» := entryFor_of_tree (by kernel_rfl)
theorem entry_filter_iter : entryFor table "filter.__iter__" = some Builtin.«dict_keyiterator.__iter__» :=
  entryFor_alias (id' := "dict_keyiterator.__iter__") (by kernel_rfl) (by first | rfl | decide +kernel | (unfold String.splitOn; simp +decide [String.splitOnAux])) (by decide +kernel) (by kernel_rfl)
theorem args_filter_next (a : Value) : argsOk "filter.__next__" ⟨[a], []⟩ := by unfold argsOk; kernel_rfl
theorem args_filter_iter (a : Value) : argsOk "filter.__iter__" ⟨[a], []⟩ := by unfold argsOk; kernel_rfl
theorem mro_filter : mroOf (.type "filter") = pure [.type "filter", .type "object"] := by rw [mroOf_type]; kernel_rfl
theorem lookup_filter_new : typeLookup (.type "filter") "__new__" = pure (some (.builtin "filter.__new__")) := by rw [typeLookup_type, builtinLookup_eq_fast]; kernel_rfl
theorem called_filter : TypeCalled "filter" "filter.__new__" "object.__init__" :=
  ⟨by decide +kernel, by decide +kernel, ⟨_, _, mro_filter⟩, madeBy_type mro_filter lookup_filter_new (by decide +kernel), by decide +kernel, by rw [isSubtype_type]; kernel_rfl, slot_filter_init⟩
theorem typeCall_filter (a b : Value) : checkTypeCall "filter" ⟨[a, b], []⟩ = pure () := by kernel_rfl
theorem newCall_filter (a b : Value) : checkBuiltinCall "filter.__new__" ⟨[.type "filter", a, b], []⟩ = pure () := by kernel_rfl
theorem sub_filter : isSubtype (.type "filter") (.type "filter") = pure true := by rw [isSubtype_type]; kernel_rfl

abbrev filtObj (it : Addr) : Obj := { cls := .type "filter", data := .fields #[.builtin "len", .ref it] }
abbrev IsFilt (h : Heap) (f it : Addr) : Prop := h.get? f = some (filtObj it)

section
variable {prog : Program} {w : World} {A : Around} {E : Value → Shared → Prop} {s : Shared}
theorem tup_next_item {it t : Addr} {i : Nat} {items} {x : Value} {Q : Option Value → Shared → Prop} (hit : s.heap.IsTupleIter it t i)
    (ht : s.heap.IsTuple t items) (hx : items[i]? = some x)
    (hQ : ∀ h', h'.IsTupleIter it t (i + 1) → Heap.SameBut it s.heap h' → Q (some x) { s with heap := h' }) :
    wpAny (model prog w) A (callSpecial? (.ref it) "__next__") Q E s := by
  obtain ⟨o, ho, hc, hd⟩ := id hit
  obtain ⟨ol, hol, _, nl, hdl⟩ := ht
  refine wpAny_callSpecial?_slot (name := Str.ofString "__next__") hit.typeIs F.slot_tuple_iterator_next
    (wpAny_call_entry F.slot_tuple_iterator_next hit.typeIs F.entry_tuple_iterator_next ?_ (F.args_tuple_iterator_next_1 _))
  show wpAny _ _ (field (.ref it) 0 >>= _) _ _ s
  refine wpAny_bind (wpAny_field ho hd (x := .ref t) rfl ?_)
  show wpAny _ _ (if (Value.ref t == Value.none) = true then _ else _) _ _ s
  rw [if_neg (show ¬ ((Value.ref t == Value.none) = true) from Bool.false_ne_true)]
  show wpAny _ _ (field (.ref it) 1 >>= _) _ _ s
  refine wpAny_bind (wpAny_field ho hd (x := .int i 0) rfl ?_)
  show wpAny _ _ (seqItems? (.ref t) >>= _) _ _ s
  refine wpAny_bind (wpAny_seqItems hol hdl ?_)
  simp only [Int.toNat_natCast, hx]
  refine wpAny_bind (wpAny_setField ho hd (by simp) (wpAny_pure ⟨x, rfl, hQ _ ?_ (Heap.SameBut.update ..)⟩))
  exact ⟨_, Heap.get?_update_self _ ho (Obj.isFreed_of_fields (Obj.data_mapFields hd _)), (Obj.cls_mapFields ..).trans hc, by
    rw [Obj.data_mapFields hd]; simp [rawInt]⟩
theorem tup_next_end {it t : Addr} {i : Nat} {items} {Q : Option Value → Shared → Prop} (hh : A.handled = none)
    (hit : s.heap.IsTupleIter it t i) (ht : s.heap.IsTuple t items) (hx : items[i]? = none)
    (hE : ∀ h' e, Heap.ExtBut it s.heap h' → (∃ o, h'.get? e = some o ∧ o.cls = .type "StopIteration") → E (.ref e) { s with heap := h' }) :
    wpAny (model prog w) A (callSpecial? (.ref it) "__next__") Q E s := by
  obtain ⟨o, ho, hc, hd⟩ := id hit
  obtain ⟨ol, hol, _, nl, hdl⟩ := ht
  refine wpAny_callSpecial?_slot (name := Str.ofString "__next__") hit.typeIs F.slot_tuple_iterator_next
    (wpAny_call_entry F.slot_tuple_iterator_next hit.typeIs F.entry_tuple_iterator_next ?_ (F.args_tuple_iterator_next_1 _))
  show wpAny _ _ (field (.ref it) 0 >>= _) _ _ s
  refine wpAny_bind (wpAny_field ho hd (x := .ref t) rfl ?_)
  show wpAny _ _ (if (Value.ref t == Value.none) = true then _ else _) _ _ s
  rw [if_neg (show ¬ ((Value.ref t == Value.none) = true) from Bool.false_ne_true)]
  show wpAny _ _ (field (.ref it) 1 >>= _) _ _ s
  refine wpAny_bind (wpAny_field ho hd (x := .int i 0) rfl ?_)
  show wpAny _ _ (seqItems? (.ref t) >>= _) _ _ s
  refine wpAny_bind (wpAny_seqItems hol hdl ?_)
  simp only [Int.toNat_natCast, hx]
  refine wpAny_bind (wpAny_rule (wpAny_bind (wpAny_setField ho hd (by simp) ?_)))
  show wpAny _ _ (newExc (.type "StopIteration") [] >>= _) _ _ _
  refine wpAny_bind ?_
  simp only [newExc, newTuple]
  refine wpAny_bind (wpAny_newObj_type ?_ (by size_fits))
  refine wpAny_bind (m := firstArgMember _ _) (wpAny_of_eq (a := Value.none) (by first | rfl | (simp only [firstArgMember]; rfl)) ?_)
  refine wpAny_newObj_type ?_ (by size_fits)
  simp only [raiseNew]
  refine wpAny_bind (wpAny_handled ?_)
  first | rw [show A.in1.handled = none from hh] | rw [hh]
  refine wpAny_bind (wpAny_pure (wpAny_throw ?_))
  exact hE _ _ (((Heap.SameBut.update ..).extBut.push _).push _) ⟨_, Heap.get?_push_size _ rfl, rfl⟩
end
end Mine

end PartFilt

section PartFilt2
open PySem PySem.W PyProof.Rows PySem.Calls
set_option maxRecDepth 100000
set_option maxHeartbeats 400000
namespace Mine
/-- a field that is kept -/
def neB (f : Str) : Bool := f.length != 0
section
variable {prog : Program} {w : World} {A : Around} {E : Value → Shared → Prop} {s : Shared}
theorem filt_turn {R : Result → Shared → Prop} {f it t : Addr} {fs : List Str} {vs : List Value} (hh : A.handled = none) (hi : StrsAre fs vs) (hs : ∀ g ∈ fs, g.length ≤ 100000) (htit : t ≠ it) (hfit : f ≠ it) : ∀ (k j : Nat) (s : Shared), fs.length - j = k → IsFilt s.heap f it → s.heap.IsTupleIter it t j → s.heap.IsTuple t vs.toArray →
    (∀ g rest, (fs.drop j).filter neB = g :: rest → ∀ u h' tk j', (fs.drop j').filter neB = rest → h'.IsTupleIter it t j' → Heap.ExtBut it s.heap h' → R (.ok (.ret (.str g u))) { s with heap := h', toks := tk }) →
    ((fs.drop j).filter neB = [] → ∀ h' tk e, Heap.ExtBut it s.heap h' → (∃ o, h'.get? e = some o ∧ o.cls = .type "StopIteration") → R (.error (.ref e)) { s with heap := h', toks := tk }) →
    wpAny (model prog w) A.in1 (Builtin.«filter.__next__» ⟨[.ref f], []⟩) (fun fin s' => match fin with | .done f => R (.ok f) s' | .again c' => c'.quiet = true ∧ codeAny (model prog w) A c' R s') (fun e s' => R (.error e) s') s := by
  intro k
  induction k with
  | zero =>
    intro j s hk hf hit ht hitem hend
    have hj : fs.length ≤ j := by omega
    have hd : fs.drop j = [] := List.drop_of_length_le hj
    show wpAny _ _ (field (.ref f) 0 >>= _) _ _ s
    refine wpAny_bind (wpAny_field hf rfl (x := .builtin "len") rfl ?_)
    refine wpAny_bind (wpAny_field hf rfl (x := .ref it) rfl ?_)
    refine wpAny_bind (tup_next_end hh hit ht (by rw [Array.getElem?_eq_none]; have := hi.length; simp only [List.size_toArray]; omega) fun h' e hx he => ?_)
    exact hend (by rw [hd]; rfl) h' s.toks e hx he
  | succ k ih =>
    intro j s hk hf hit ht hitem hend
    have hj : j < fs.length := by omega
    have hjv : j < vs.length := by rw [hi.length]; exact hj
    obtain ⟨g, u, hg, hv⟩ := hi.get (i := j) (v := vs[j]) (by simp [hjv])
    have hd : fs.drop j = g :: fs.drop (j + 1) := by
      rw [List.drop_eq_getElem_cons hj]
      congr 1
      have := List.getElem?_eq_some_iff.mp hg
      exact this.2
    have hgl := hs g (List.mem_of_getElem? hg)
    show wpAny _ _ (field (.ref f) 0 >>= _) _ _ s
    refine wpAny_bind (wpAny_field hf rfl (x := .builtin "len") rfl ?_)
    refine wpAny_bind (wpAny_field hf rfl (x := .ref it) rfl ?_)
    refine wpAny_bind (tup_next_item hit ht (x := .str g u) (by simp [hjv, hv]) fun h' hit' hsb => ?_)
    refine wpAny_bind (wpAny_holding ?_)
    rw [if_neg (by decide)]
    refine wpAny_bind (PySem.P.len_str (by omega) ?_)
    refine wpAny_holding ?_
    refine PySem.P.truthy_int ?_
    cases hb : neB g with
    | true =>
      have e : ((g.length : Int) != 0) = true := by
        unfold neB at hb
        simp only [bne_iff_ne, ne_eq] at hb ⊢
        omega
      rw [e, if_pos rfl]
      refine wpAny_pure ?_
      exact hitem g ((fs.drop (j + 1)).filter neB) (by rw [hd, List.filter_cons_of_pos hb]) u h' _ (j + 1) rfl hit' hsb.extBut
    | false =>
      have e : ((g.length : Int) != 0) = false := by
        unfold neB at hb
        simp only [bne_eq_false_iff_eq] at hb ⊢
        omega
      rw [e, if_neg (by decide)]
      have hfl : (fs.drop j).filter neB = (fs.drop (j + 1)).filter neB := by rw [hd, List.filter_cons_of_neg (by rw [hb]; decide)]
      refine wpAny_pure (And.intro (plainId_quiet slot_filter_next.plain _) (codeAny_builtin entry_filter_next ?_))
      rw [Around.under_plainId slot_filter_next.plain]
      refine ih (j + 1) _ (by omega) (hsb.extBut _ _ hfit hf) hit' (ht.extBut hsb.extBut htit) ?_ ?_
      · intro g' rest hgr u' h'' tk j' h1 h2 h3
        exact hitem g' rest (by rw [hfl]; exact hgr) u' h'' tk j' h1 h2 (fun b o hb' e' => h3 b o hb' (hsb.extBut b o hb' e'))
      · intro hn h'' tk e' h3 h4
        exact hend (by rw [hfl]; exact hn) h'' tk e' (fun b o hb' e'' => h3 b o hb' (hsb.extBut b o hb' e'')) h4
end
end Mine

end PartFilt2

section PartFilt3
open PySem PySem.W PyProof.Rows PySem.Calls
set_option maxRecDepth 100000
set_option maxHeartbeats 400000
namespace Mine
def FiltSt (f it t : Addr) (fs : List Str) (vs : List Value) (i : Nat) (h : Heap) : Prop :=
  IsFilt h f it ∧ h.IsTuple t vs.toArray ∧ ∃ j, h.IsTupleIter it t j ∧ (fs.drop j).filter neB = (fs.filter neB).drop i
section
variable {prog : Program} {w : World} {A : Around} {E : Value → Shared → Prop} {s : Shared}
theorem filt_code {R : Result → Shared → Prop} {f it t : Addr} {fs : List Str} {vs : List Value} (hh : A.handled = none) (hi : StrsAre fs vs) (hs : ∀ g ∈ fs, g.length ≤ 100000) (htit : t ≠ it) (hfit : f ≠ it) {j : Nat} (hf : IsFilt s.heap f it) (hit : s.heap.IsTupleIter it t j) (ht : s.heap.IsTuple t vs.toArray)
    (h1 : ∀ g rest, (fs.drop j).filter neB = g :: rest → ∀ u h' tk j', (fs.drop j').filter neB = rest → h'.IsTupleIter it t j' → Heap.ExtBut it s.heap h' → R (.ok (.ret (.str g u))) { s with heap := h', toks := tk })
    (h2 : (fs.drop j).filter neB = [] → ∀ h' tk e, Heap.ExtBut it s.heap h' → (∃ o, h'.get? e = some o ∧ o.cls = .type "StopIteration") → R (.error (.ref e)) { s with heap := h', toks := tk }) :
    codeAny (model prog w) A (.call (.builtin "filter.__next__") ⟨[.ref f], []⟩) R s := by
  have hT : s.TypeIs (.ref f) "filter" := ⟨_, hf, rfl⟩
  have h0 := filt_turn (prog := prog) (w := w) (R := R) hh hi hs htit hfit _ j s rfl hf hit ht h1 h2
  exact codeAny_call_builtin slot_filter_next.plain entry_filter_next (slot_filter_next.check _ _ _ _ _ _ _ _ hT (args_filter_next _) h0)
theorem walks_filt {f it t : Addr} {fs : List Str} {vs : List Value} (hh : A.handled = none) (hi : StrsAre fs vs) (hs : ∀ g ∈ fs, g.length ≤ 100000) (htit : t ≠ it) (hfit : f ≠ it) :
    Walks prog w A f [f, it, t] [it] (fs.filter neB).length (fun i v => ∃ g u, (fs.filter neB)[i]? = some g ∧ v = .str g u) (FiltSt f it t fs vs) where
  sub := fun b hb => by rw [List.mem_singleton.mp hb]; simp
  frame := fun i h h' st hk => by
    obtain ⟨h1, ⟨o, ho, r⟩, j, ⟨o', ho', r'⟩, h4⟩ := st
    exact ⟨hk _ (by simp) _ h1, ⟨o, hk _ (by simp) _ ho, r⟩, j, ⟨o', hk _ (by simp) _ ho', r'⟩, h4⟩
  item := fun i s Q E hlt st hQ => by
    obtain ⟨h1, h2, j, h3, h4⟩ := st
    have hT : s.TypeIs (.ref f) "filter" := ⟨_, h1, rfl⟩
    have hd : (fs.filter neB).drop i = (fs.filter neB)[i] :: (fs.filter neB).drop (i + 1) := List.drop_eq_getElem_cons hlt
    unfold pyNext
    refine wpAny_bind (wpAny_attempt (wpAny_callSpecial?_slot (name := Str.ofString "__next__") hT slot_filter_next
      (wpAny_call (filt_code hh hi hs htit hfit h1 h3 h2 ?_ ?_))))
    · intro g rest hgr u h' tk j' hj' hit' hx
      rw [h4, hd] at hgr
      cases hgr
      refine wpAny_pure (hQ _ h' tk ⟨_, u, by simp [hlt], rfl⟩ ⟨hx _ _ hfit h1, h2.extBut hx htit, j', hit', hj'⟩ fun b o hb e => hx b o (fun z => hb (by rw [z]; simp)) e)
    · intro hn
      rw [h4, hd] at hn
      cases hn
  done := fun s Q E st hQ => by
    obtain ⟨h1, h2, j, h3, h4⟩ := st
    have hT : s.TypeIs (.ref f) "filter" := ⟨_, h1, rfl⟩
    unfold pyNext
    refine wpAny_bind (wpAny_attempt (wpAny_callSpecial?_slot (name := Str.ofString "__next__") hT slot_filter_next
      (wpAny_call (filt_code hh hi hs htit hfit h1 h3 h2 ?_ ?_))))
    · intro g rest hgr
      rw [h4, List.drop_length] at hgr
      cases hgr
    · intro _ h' tk e hx he
      obtain ⟨o, ho, hc⟩ := he
      refine wpAny_bind (wpAny_isInstance (T := "StopIteration") (b := true) ⟨o, ho, hc⟩ isSubtype_stop ?_)
      exact wpAny_pure (hQ _ _ fun b o hb e => hx b o (fun z => hb (by rw [z]; simp)) e)
  self := fun i s Q E st hQ => by
    obtain ⟨h1, _⟩ := st
    have hT : s.TypeIs (.ref f) "filter" := ⟨_, h1, rfl⟩
    refine wpAny_pyIter_slot hT slot_filter_iter (wpAny_call_entry slot_filter_iter hT entry_filter_iter ?_ (args_filter_iter _))
    show wpAny _ _ (ret (.ref f)) _ _ s
    exact wpAny_pure ⟨_, rfl, "filter", _, hT, slot_filter_next.lookup, hQ⟩
theorem meets_filter (t : Addr) (items : Array Value) :
    Meets (Builtin.«filter.__new__» ⟨[.type "filter", .builtin "len", .ref t], []⟩) (fun _ R s => s.heap.IsTuple t items ∧
      R (.ok (.ret (.ref (s.heap.objs.size + 1)))) { s with heap := (s.heap.push { cls := .type "tuple_iterator", data := .fields #[.ref t, .int 0 0] }).push (filtObj s.heap.objs.size) }) :=
  .of_wp fun prog w A R s h => by
    obtain ⟨ht, h⟩ := h
    have hsub := sub_filter
    show wpAny _ _ (Builtin.SmallTypes.newClass "filter" ⟨[.type "filter", .builtin "len", .ref t], []⟩ >>= _) _ _ s
    refine wpAny_bind ?_
    unfold Builtin.SmallTypes.newClass
    refine wpAny_bind (wpAny_of_eq (a := true) rfl ?_)
    rw [if_neg (by decide)]
    refine wpAny_bind (wpAny_of_eq hsub ?_)
    rw [if_neg (by decide)]
    refine wpAny_pure ?_
    refine wpAny_bind (wpAny_of_eq (a := PUnit.unit) rfl ?_)
    refine wpAny_bind (wpAny_of_eq (a := PUnit.unit) rfl ?_)
    refine wpAny_bind (wpAny_pyIter_tuple ht ?_)
    show wpAny _ _ (newObj (.type "filter") (.fields #[.builtin "len", .ref s.heap.objs.size]) >>= _) _ _ _
    refine wpAny_bind (wpAny_newObj_type ?_)
    refine wpAny_pure ⟨_, rfl, ?_⟩
    have e : (s.heap.push { cls := .type "tuple_iterator", data := .fields #[.ref t, .int 0 0] }).objs.size = s.heap.objs.size + 1 := Heap.size_push ..
    rw [← e] at h
    exact h
theorem call_filter {t : Addr} {items : Array Value} {Q : Value → Shared → Prop} (ht : s.heap.IsTuple t items)
    (h : Q (.ref (s.heap.objs.size + 1)) { s with heap := (s.heap.push { cls := .type "tuple_iterator", data := .fields #[.ref t, .int 0 0] }).push (filtObj s.heap.objs.size) }) :
    wpAny (model prog w) A (call (.type "filter") [.builtin "len", .ref t]) Q E s := by
  refine callType_new called_filter (by decide) (typeCall_filter _ _) (newCall_filter _ _) (fun obj => F.args_object_init_3 obj _ _) entry_filter_new (meets_filter t items) ⟨ht, ?_⟩
  have e : (s.heap.push { cls := .type "tuple_iterator", data := .fields #[.ref t, .int 0 0] }).objs.size = s.heap.objs.size + 1 := Heap.size_push ..
  have g : ((s.heap.push { cls := .type "tuple_iterator", data := .fields #[.ref t, .int 0 0] }).push (filtObj s.heap.objs.size)).get? (s.heap.objs.size + 1) = some (filtObj s.heap.objs.size) := by
    rw [← e]; exact Heap.get?_push_size _ rfl
  exact ⟨⟨_, g, rfl⟩, h⟩
end
end Mine

end PartFilt3

section PartPlain5
open PySem PySem.W PyProof.Rows PySem.Calls
set_option maxRecDepth 100000
set_option maxHeartbeats 400000
namespace Mine
open PySem.StrLaws PySem.Builtin.Str
/-- replacing, from the left, one after the other -/
inductive Rep (y z : List Nat) : List Nat → List Nat → Prop
  | nil : Rep y z [] []
  | hit {l r : List Nat} : Rep y z l r → Rep y z (y ++ l) (z ++ r)
  | miss {c : Nat} {l r : List Nat} : ¬ y <+: (c :: l) → Rep y z l r → Rep y z (c :: l) (c :: r)
theorem at_prefix {x y : Str} {k : Nat} (h : y.cps.toList <+: x.cps.toList.drop k) (h1 : 1 ≤ y.length) : At x y x.length k := by
  have hl := h.length_le
  have e1 : y.cps.toList.length = y.length := Array.length_toList
  have e2 : x.cps.toList.length = x.length := Array.length_toList
  rw [List.length_drop] at hl
  refine ⟨by omega, ?_⟩
  rw [subAt_eq, beq_iff_eq, ← e1]
  exact (List.prefix_iff_eq_take.mp h).symm
theorem rep_step {x y : Str} {z : List Nat} (h1 : 1 ≤ y.length) : ∀ (n a : Nat) (R : List Nat), (∀ k, a ≤ k → k < a + n → ¬ At x y x.length k) → a + n ≤ x.length → Rep y.cps.toList z (x.cps.toList.drop (a + n)) R →
    Rep y.cps.toList z (x.cps.toList.drop a) ((x.cps.toList.drop a).take n ++ R)
  | 0, a, R, _, _, h => by simpa using h
  | n + 1, a, R, hn, hl, h => by
    have e2 : x.cps.toList.length = x.length := Array.length_toList
    have ha : a < x.cps.toList.length := by omega
    have ih := rep_step h1 n (a + 1) R (fun k hk hk' => hn k (by omega) (by omega)) (by omega) (by rw [show a + 1 + n = a + (n + 1) by omega]; exact h)
    have hp : ¬ y.cps.toList <+: x.cps.toList.drop a := fun hp => hn a (Nat.le_refl _) (by omega) (at_prefix hp h1)
    rw [List.drop_eq_getElem_cons ha] at hp ⊢
    rw [List.take_succ_cons, List.cons_append]
    exact .miss hp ih
theorem rep_end {x y : Str} {z : List Nat} (h1 : 1 ≤ y.length) {a : Nat} (ha : a ≤ x.length) (hn : ∀ k, a ≤ k → ¬ At x y x.length k) : Rep y.cps.toList z (x.cps.toList.drop a) (x.cps.toList.drop a) := by
  have e2 : x.cps.toList.length = x.length := Array.length_toList
  have h := rep_step (z := z) h1 (x.length - a) a [] (fun k hk _ => hn k hk) (by omega) (by rw [show a + (x.length - a) = x.length by omega, List.drop_of_length_le (by omega)]; exact .nil)
  rw [List.append_nil, List.take_of_length_le (by rw [List.length_drop]; omega)] at h
  exact h
theorem rep_chain {x y z : Str} (h1 : 1 ≤ y.length) : ∀ (cuts : List Nat) (a f : Nat), ChainG x y x.length a cuts f → a ≤ x.length → (∀ k, f ≤ k → ¬ At x y x.length k) →
    Rep y.cps.toList z.cps.toList (x.cps.toList.drop a) (Str.join z (partsFrom x y.length a cuts)).cps.toList
  | [], a, f, h, ha, hn => by
    have e : f = a := h
    subst e
    show Rep _ _ _ (strSub x f x.length).cps.toList
    have e2 : x.cps.toList.length = x.length := Array.length_toList
    rw [strSub_toList, List.take_of_length_le (by rw [List.length_drop]; omega)]
    exact rep_end h1 ha hn
  | c :: r, a, f, h, ha, hn => by
    obtain ⟨hac, hAt, hno, hch⟩ := h
    obtain ⟨p, q, e⟩ := partsFrom_ne x y.length (c + y.length) r
    have ih := rep_chain (z := z) h1 r (c + y.length) f hch hAt.1 hn
    have e1 : y.cps.toList.length = y.length := Array.length_toList
    have hj : Str.join z (partsFrom x y.length a (c :: r)) = strSub x a c ++ z ++ Str.join z (partsFrom x y.length (c + y.length) r) := by
      show Str.join z (strSub x a c :: partsFrom x y.length (c + y.length) r) = _
      rw [e]; rfl
    rw [hj]
    simp only [Str.cps_append, Array.toList_append]
    rw [strSub_toList, List.append_assoc]
    refine rep_step h1 (c - a) a _ (fun k hk hk' => hno k hk (by omega)) (by have := hAt.1; omega) ?_
    rw [show a + (c - a) = c by omega]
    have hy : x.cps.toList.drop c = y.cps.toList ++ x.cps.toList.drop (c + y.length) := by
      have hs := hAt.2
      rw [subAt_eq, beq_iff_eq] at hs
      have := List.take_append_drop y.length (x.cps.toList.drop c)
      rw [hs, List.drop_drop] at this
      exact this.symm
    rw [hy]
    exact .hit ih
theorem rep_replace (x y z : Str) (h1 : 1 ≤ y.length) : Rep y.cps.toList z.cps.toList x.cps.toList (Txt.replace x y z).cps.toList := by
  obtain ⟨f, hch, hn⟩ := occ_tight x y h1
  unfold Txt.replace
  cases he : (occurrences x y 0 x.length (x.length + 1)).isEmpty with
  | true =>
    rw [Bool.true_or, if_pos rfl]
    have : occurrences x y 0 x.length (x.length + 1) = [] := List.isEmpty_iff.mp he
    rw [this] at hch
    have e : f = 0 := hch
    subst e
    exact rep_end (a := 0) h1 (Nat.zero_le _) hn
  | false =>
    have e0 : (y.length == 0) = false := by rw [beq_eq_false_iff_ne]; omega
    rw [Bool.false_or, e0, Bool.false_and, if_neg Bool.false_ne_true, glued_eq_join, partsBetween_eq]
    exact rep_chain h1 _ 0 f hch (Nat.zero_le _) hn
end Mine

end PartPlain5

section PartPlain6
open PySem PySem.W PyProof.Rows PySem.Calls
set_option maxRecDepth 100000
set_option maxHeartbeats 400000
namespace Mine
def swapC (a b c : Nat) : Nat := if c = a then b else c
theorem rep_one {a b : Nat} {l r : List Nat} (h : Rep [a] [b] l r) : r = l.map (swapC a b) := by
  induction h with
  | nil => rfl
  | hit _ ih => simp [ih, swapC]
  | @miss c l r hn _ ih =>
    have hc : ¬ c = a := fun e => hn (by rw [e]; exact ⟨l, rfl⟩)
    simp [ih, swapC, hc]
theorem rep_len {y z l r : List Nat} (hyz : z.length ≤ y.length) (h : Rep y z l r) : r.length ≤ l.length := by
  induction h with
  | nil => exact Nat.le_refl _
  | hit _ ih => simp only [List.length_append]; omega
  | miss _ _ ih => simp only [List.length_cons]; omega
theorem rep_same {y z l r : List Nat} (hyz : z.length < y.length) (h : Rep y z l r) : r = l ∨ r.length < l.length := by
  induction h with
  | nil => exact .inl rfl
  | hit h ih =>
    have := rep_len (Nat.le_of_lt hyz) h
    right; simp only [List.length_append]; omega
  | miss _ h ih =>
    rcases ih with rfl | ih
    · exact .inl rfl
    · right; simp only [List.length_cons]; omega
section
variable {prog : Program} {w : World} {A : Around} {E : Value → Shared → Prop} {s : Shared}
theorem rep1_toks {x y z : Str} {a b : Nat} {t u v : Tok} {Q : Value → Shared → Prop} (hy : y.cps.toList = [a]) (hz : z.cps.toList = [b]) (hu : u ≠ 0) (hv : v ≠ 0) (huv : u ≠ v) (hyz : (y == z) = false) (hx : x.length ≤ 1000000)
    (h : ∀ r t' k, s.toks ≤ k → r.cps.toList = x.cps.toList.map (swapC a b) → r.length = x.length → Q (.str r t') { s with toks := k }) :
    wpAny (model prog w) A (call (.builtin "str.replace") [.str x t, .str y u, .str z v]) Q E s := by
  have h1 : y.length = 1 := by show y.cps.size = 1; rw [← Array.length_toList, hy]; rfl
  have h2 : z.length = 1 := by show z.cps.size = 1; rw [← Array.length_toList, hz]; rfl
  refine replace_toks hu hv huv hyz (by omega) (by omega) fun t' k hk => ?_
  have hr := rep_replace x y z (by omega)
  rw [hy, hz] at hr
  have he := rep_one hr
  refine h _ t' k hk he ?_
  show (Txt.replace x y z).cps.size = x.cps.size
  rw [← Array.length_toList, he, List.length_map, Array.length_toList]
theorem rep0_toks {x y z : Str} {t u v : Tok} {Q : Value → Shared → Prop} (h1 : 1 ≤ y.length) (hl : z.length ≤ y.length) (hz : z.length ≤ 14) (hu : u ≠ 0) (hv : v ≠ 0) (huv : u ≠ v) (hyz : (y == z) = false) (hx : x.length ≤ 1000000)
    (h : ∀ r t' k, s.toks ≤ k → Rep y.cps.toList z.cps.toList x.cps.toList r.cps.toList → r.length ≤ x.length → Q (.str r t') { s with toks := k }) :
    wpAny (model prog w) A (call (.builtin "str.replace") [.str x t, .str y u, .str z v]) Q E s := by
  refine replace_toks hu hv huv hyz (by omega) hz fun t' k hk => ?_
  have hr := rep_replace x y z h1
  refine h _ t' k hk hr ?_
  have := rep_len (by rw [Array.length_toList, Array.length_toList]; exact hl) hr
  rw [Array.length_toList, Array.length_toList] at this
  exact this
theorem st_N {h₀ : Heap} {L a : Addr} {m : Str → Option Value} {name : Str} {scope : Scope} {cd : Value} {news : List (Addr × Obj)} {x : Str} {v : Value} {Q : Unit → Shared → Prop} (F : Fr h₀ L s.heap m) (N : News h₀ L s.heap news)
    (h : ∀ h', Fr h₀ L h' (fun y => if y = x then some v else m y) → News h₀ L h' news → Q () { s with heap := h', toks := s.toks + 1 })
    (hk : scope.kind = .function := by rfl) (hl : (envOf name scope L a cd).kindOf x = some .local := by rfl) :
    wpAny (model prog w) A (storeName (envOf name scope L a cd) x v) Q E s :=
  wpAny_storeName_local hl F.ns (fun h' hn hs => h h' (F.set hn hs) (N.set hs))
    (by show (scope.kind == .class || (scope.kind == .module && L != mainGlobals)) = false; rw [hk]; rfl)
end
end Mine

end PartPlain6

section PartPlain7
open PySem PySem.W PyProof.Rows PySem.Calls
set_option maxRecDepth 100000
set_option maxHeartbeats 400000
namespace Mine
theorem idx_front (n : Nat) (h : 1 ≤ n) : Builtin.Str.strSliceIndices none (some (-1)) 1 n = (List.range (n - 1)).map (0 + ·) := by
  unfold Builtin.Str.strSliceIndices sliceRange
  simp only [show (1 : Int) > 0 by decide, if_true, show ((-1 : Int) < 0) by decide]
  have e : max (0 : Int) (min (-1 + (n : Int)) (n : Int)) = ((n - 1 : Nat) : Int) := by omega
  rw [e]
  by_cases h2 : n = 1
  · subst h2; rfl
  · rw [if_pos (by omega), Int.ediv_one, show (((n - 1 : Nat) : Int) - 0 + 1 - 1).toNat = n - 1 by omega]
    refine List.map_congr_left fun k _ => ?_
    omega
theorem last_of {r : Str} (h0 : (r.length : Int) ≠ 0) (h : (Txt.item r (-1) == Str.ofString "-") = true) : r.cps.toList = (Txt.slice r none (some (-1))).cps.toList ++ [45] := by
  have hne : r.cps.toList ≠ [] := fun e => h0 (by
    have : r.cps.toList.length = r.length := Array.length_toList
    rw [e] at this; simp at this; omega)
  obtain ⟨l, c, e⟩ : ∃ l c, r.cps.toList = l ++ [c] := ⟨_, _, (List.dropLast_concat_getLast hne).symm⟩
  have er : r = (⟨l.toArray⟩ : Str) ++ ⟨#[c]⟩ := Str.ext' (Array.toList_inj.mp (by rw [e]; simp [Str.cps_append]))
  have hi : Txt.item r (-1) = ⟨#[c]⟩ := by rw [er]; exact item_last_right1 _ c
  rw [hi] at h
  have hc : c = 45 := by
    have := eq_of_beq h
    have h2 : (#[c] : Array Nat) = #[45] := congrArg Str.cps this
    simpa using h2
  subst hc
  rw [e]
  congr 1
  have hn : r.length = l.length + 1 := by
    have : r.cps.toList.length = r.length := Array.length_toList
    rw [e] at this; simp at this; omega
  unfold Txt.slice
  rw [idx_front r.length (by omega)]
  rw [if_neg (by simp [hn])]
  show l = (List.filterMap _ _).toArray.toList
  have := pick_run r.cps 0 (r.length - 1)
  rw [show ((List.range (r.length - 1)).map (0 + ·)).filterMap (fun x => r.cps[x]?) = _ from this, e, hn]
  simp
end Mine

end PartPlain7

section PartFplat
open PySem PySem.W PyProof.Rows PySem.Calls
set_option maxRecDepth 100000
set_option pp.maxSteps 3000
set_option maxHeartbeats 0
namespace Mine
section
local macro_rules | `(tactic| walk_at "GO") => `(tactic| (repeat' (first | (k_unfold; (try dsimp only)) | (walk1; try dsimp only) | (dsimp only; walk1))))
local macro_rules | `(tactic| walk_at "call builtin:str.replace") => `(tactic| (first | (refine rep1_toks (a := 32) (b := 95) rfl rfl (by refine neN ?_; omega) (by refine neN ?_; omega) (by refine neN ?_; omega) (by decide) (by omega) ?_; intro _ _ _ _ _ _) | (refine rep1_toks (a := 47) (b := 45) rfl rfl (by refine neN ?_; omega) (by refine neN ?_; omega) (by refine neN ?_; omega) (by decide) (by omega) ?_; intro _ _ _ _ _ _) | (refine rep1_toks (a := 92) (b := 45) rfl rfl (by refine neN ?_; omega) (by refine neN ?_; omega) (by refine neN ?_; omega) (by decide) (by omega) ?_; intro _ _ _ _ _ _) | (refine rep1_toks (a := 58) (b := 45) rfl rfl (by refine neN ?_; omega) (by refine neN ?_; omega) (by refine neN ?_; omega) (by decide) (by omega) ?_; intro _ _ _ _ _ _) | (refine rep1_toks (a := 59) (b := 45) rfl rfl (by refine neN ?_; omega) (by refine neN ?_; omega) (by refine neN ?_; omega) (by decide) (by omega) ?_; intro _ _ _ _ _ _) | (refine rep1_toks (a := 34) (b := 45) rfl rfl (by refine neN ?_; omega) (by refine neN ?_; omega) (by refine neN ?_; omega) (by decide) (by omega) ?_; intro _ _ _ _ _ _) | (refine rep1_toks (a := 40) (b := 45) rfl rfl (by refine neN ?_; omega) (by refine neN ?_; omega) (by refine neN ?_; omega) (by decide) (by omega) ?_; intro _ _ _ _ _ _) | (refine rep1_toks (a := 41) (b := 45) rfl rfl (by refine neN ?_; omega) (by refine neN ?_; omega) (by refine neN ?_; omega) (by decide) (by omega) ?_; intro _ _ _ _ _ _) | (refine rep0_toks (by decide) (by decide) (by decide) (by refine neN ?_; omega) (by refine neN ?_; omega) (by refine neN ?_; omega) (by decide) (by omega) ?_; intro _ _ _ _ _ _)))
local macro_rules | `(tactic| walk_at "execs nil") => `(tactic| (refine wpAny_execs_nil ?_))
local macro_rules | `(tactic| walk_at "execs cons") => `(tactic| (refine wpAny_execs_cons ?_))
local macro_rules | `(tactic| walk_at "storeName") => `(tactic| (refine st_N (by assumption) (by assumption) ?_; intro _ _ _))
local macro_rules | `(tactic| walk_at "eval Name") => `(tactic| (refine ld (by assumption) (by first | with_reducible rfl | rfl | assumption) ?_))
theorem bind_star {fd : FuncData} {vals : List Value} {v : Str} {M : Model} {A : Around} {E : Value → Shared → Prop} {s : Shared} {Q : List (Str × Value) → Shared → Prop} {an : Option PySem.Expr} {ap : Pos}
    (hp : fd.params = { posonlyargs := [], args := [], vararg := some { arg := v, annotation := an, pos := ap }, kwonlyargs := [], kw_defaults := [], kwarg := none, defaults := [] }) (hd : fd.defaults = .none)
    (h : wpAny M A (newTuple vals) (fun t s' => Q [(v, t)] s') E s) : wpAny M A (bindArgs fd ⟨vals, []⟩) Q E s := by
  unfold bindArgs
  rw [hp, hd]
  simp
  exact wpAny_bind (wpAny_of_eq (a := none) rfl (wpAny_map h))
theorem gen_code {M : Model} {A : Around} {E : Value → Shared → Prop} {s : Shared} {env : Env} {c P : Addr} {ps : Array Value} {pos : Pos} {q : Str} {scope : Scope} {Q : Value → Shared → Prop} (hc : env.code = .ref c) (hok : s.heap.IsCode c P ps) (htab : s.heap.TableAt c P ps)
    (h : ∀ code h' tk more, Heap.ExtBut P s.heap h' → h'.IsCode c P (ps ++ more) → h'.TableAt c P (ps ++ more) → Q code { s with heap := h', toks := tk }) : wpAny M A (genexprCode env pos q scope) Q E s := by
  cases hnf : codeAmong pos ps.toList with
  | none => exact wpAny_genexprCodeX hc hok htab hnf fun c' h' tk a _ _ b _ d _ => h _ h' tk _ a b d
  | some c' => exact wpAny_genexprCode_hit hc hok hnf (h c' s.heap s.toks #[] (Heap.ExtBut.refl _ _) (by simpa using hok) (by simpa using htab))
def Hold (P : Prop) : Prop := P
theorem wp_execs_cut {M : Model} {Γ : PySem.Ctx} {env : Env} {Q : Flow → Pos → Shared → Prop} {E : Value → Pos → Shared → Prop} : ∀ (n : Nat) (l : List Stmt) (p : Pos) (s : Shared),
    Sem.wp M Γ (execs (l.take n) env) (fun f p' s' => match f with | .next => Sem.wp M Γ (execs (l.drop n) env) Q E p' s' | f => Q f p' s') E p s → Sem.wp M Γ (execs l env) Q E p s
  | 0, l, p, s, h => h
  | n + 1, [], p, s, h => h
  | n + 1, st :: l, p, s, h => by
    rw [List.take_succ_cons, execs_cons, Sem.wp_bind'] at h
    rw [execs_cons, Sem.wp_bind']
    refine Sem.wp_mono M Γ _ (fun f p' s' h' => ?_) (fun _ _ _ q => q) p s h
    cases f with
    | next => exact wp_execs_cut n l p' s' h'
    | brk => exact h'
    | cont => exact h'
    | ret v => exact h'
theorem execs_hold {M : Model} {A : Around} {E : Value → Shared → Prop} {env : Env} {Q : Flow → Shared → Prop} (n : Nat) {l : List Stmt} {s : Shared}
    (h : wpAny M A (execs (l.take n) env) (fun f s' => match f with | .next => Hold (wpAny M A (execs (l.drop n) env) Q E s') | f => Q f s') E s) : wpAny M A (execs l env) Q E s := by
  intro Γ p hΓ
  refine wp_execs_cut n l p s (Sem.wp_mono M Γ _ (fun f p' s' h' => ?_) (fun _ _ _ q => q) p s (h Γ p hΓ))
  cases f with
  | next => exact h' Γ p' hΓ
  | brk => exact h'
  | cont => exact h'
  | ret v => exact h'
theorem codeAny_whileH {prog : Program} {w : World} {A : Around} {R : Result → Shared → Prop} {s : Shared} {test body env} (I : Nat → Shared → Prop)
    (turn : ∀ n s, I n s →
      wpAny (model prog w) A (isTrue test env (eval test env)) (fun b s₂ =>
        if b then wpAny (model prog w) A (execs body env) (fun f s₃ => match f with
            | .next | .cont => Hold (∃ m, m < n ∧ I m s₃)
            | .brk => Hold (R (.ok .next) s₃)
            | .ret v => R (.ok (.ret v)) s₃) (fun _ _ => False) s₂
        else Hold (R (.ok .next) s₂)) (fun _ _ => False) s)
    (n : Nat) (h : I n s) : codeAny (model prog w) A (.whileLoop test body [] env) R s := by
  refine codeAny_whileLoop I (fun n s hI => ?_) n h
  refine wpAny_mono (turn n s hI) (fun b s₂ q => ?_) fun _ _ q => q.elim
  cases b with
  | false => exact wpAny_execs_nil q
  | true => exact wpAny_mono q (fun f s₃ z => by cases f <;> exact z) fun _ _ z => z.elim
/-- doubled hyphens made one, over and over -/
inductive Coll : List Nat → List Nat → Prop
  | refl {l : List Nat} : Coll l l
  | step {l m r : List Nat} : Coll l m → Rep [45, 45] [45] m r → Coll l r
/-- the name that a row of fields makes -/
def PlatR (fs : List Str) (z : List Nat) : Prop :=
  ∃ r0 r9 k, Rep (Str.ofString "unknown").cps.toList (Str.ofString "").cps.toList
    (List.map (swapC 41 45) (List.map (swapC 40 45) (List.map (swapC 34 45) (List.map (swapC 59 45) (List.map (swapC 58 45) (List.map (swapC 92 45) (List.map (swapC 47 45)
      (List.map (swapC 32 95) (Txt.join (Str.ofString "-") ((fs.filter neB).map Txt.strip)).cps.toList)))))))) r0 ∧ Coll r0 r9 ∧ r9 = z ++ List.replicate k 45
/-- what holds before a turn of the first loop -/
def PlatI (s : Shared) (hb : Heap) (L : Addr) (tab : Obj) (g : Array GenState) (l : List Nat) (n : Nat) (s' : Shared) : Prop :=
  ∃ h tk m r t, s' = { s with heap := h, gens := g, toks := tk } ∧ 1 ≤ tk ∧ Fr hb L h m ∧ News hb L h [(46, tab)] ∧ m (Str.ofString "platform") = some (.str r t) ∧ Coll l r.cps.toList ∧ r.length = n ∧ n ≤ 200000
/-- what holds before a turn of the second loop -/
def PlatK (s : Shared) (hb : Heap) (L : Addr) (tab : Obj) (g : Array GenState) (l : List Nat) (n : Nat) (s' : Shared) : Prop :=
  ∃ h tk m r t, s' = { s with heap := h, gens := g, toks := tk } ∧ Fr hb L h m ∧ News hb L h [(46, tab)] ∧ m (Str.ofString "platform") = some (.str r t) ∧ (∃ k, l = r.cps.toList ++ List.replicate k 45) ∧ r.length = n ∧ n ≤ 200000
theorem elt_strip {prog : Program} {w : World} {A : Around} {E : Value → Shared → Prop} {s : Shared} {env : Env} {m : Str → Option Value} {g : Str} {u : Tok} {p1 p2 p3 : Pos} {Q : Value → Shared → Prop} (hk : env.scope.kind = .function) (hl : env.kindOf (Str.ofString "x") = some .local) (hn : s.heap.Ns env.locals m) (hm : m (Str.ofString "x") = some (.str g u))
    (hline : (p2.endLine == p3.line) = true) (hg : g.length ≤ 1000) (h : ∀ t' k, Q (.str (Txt.strip g) t') { s with toks := k }) :
    wpAny (model prog w) A (eval (.Call (.Attribute (.Name (Str.ofString "x") p1) (Str.ofString "strip") p2) [] [] p3) env) Q E s :=
  wpAny_Call_method_lateS rfl rfl hline (wpAny_Name (wpAny_loadName_local hk hl hn hm (SB.strip h (Nat.le_trans hg (by decide)))))
theorem sum_small : ∀ (fs : List Str), (∀ f ∈ fs, f.length ≤ 1000) → (fs.map (·.length)).sum ≤ 1000 * fs.length
  | [], _ => by simp
  | f :: fs, h => by
    have h1 := h f (.head _)
    have h2 := sum_small fs fun g hg => h g (.tail _ hg)
    simp only [List.map_cons, List.sum_cons, List.length_cons]; omega
theorem passing_eq (n : Nat) : passing (fun _ => true) n 0 = List.range n := by
  unfold passing
  rw [List.drop_zero]
  exact List.filter_eq_self.mpr fun _ _ => rfl
theorem join_small {fs : List Str} (hlen : ∀ f ∈ fs, f.length ≤ 1000) (hfn : fs.length ≤ 100) : (Txt.join (Str.ofString "-") ((fs.filter neB).map Txt.strip)).length ≤ 200000 := by
  have h1 := StrLaws.join_length_le (Str.ofString "-") ((fs.filter neB).map Txt.strip)
  have h2 : ∀ l : List Str, (∀ f ∈ l, f.length ≤ 1000) → ((l.map Txt.strip).map (·.length)).sum ≤ 1000 * l.length := by
    intro l hl
    induction l with
    | nil => simp
    | cons f l ih =>
      have := hl f (.head _)
      have h4 := len_strip f
      have := ih fun g hg => hl g (.tail _ hg)
      simp only [List.map_cons, List.sum_cons, List.length_cons]; omega
  have h3 := h2 (fs.filter neB) fun f hf => hlen f (List.mem_filter.mp hf).1
  have h4 := List.length_filter_le neB fs
  rw [List.length_map, show (Str.ofString "-").length = 1 by decide] at h1
  have h5 : (Txt.join (Str.ofString "-") ((fs.filter neB).map Txt.strip)).length ≤ (Str.join (Str.ofString "-") ((fs.filter neB).map Txt.strip)).length := by
    show (Builtin.Str.glued _ _).length ≤ _
    rw [StrLaws.glued_eq_join]
    exact Nat.le_refl _
  omega
theorem plat_call {w : World} {A : Around} {s : Shared} {R : Result → Shared → Prop} {fs : List Str} {vals : List Value} {ps : Array Value} {mg mb : Str → Option Value} {hb : Heap} {bm : Addr} {ob : Obj}
    (hkeep : ∀ b o, hb.get? b = some o → s.heap.get? b = some o) (hsize : hb.objs.size ≤ s.heap.objs.size) (h46 : hb.get? 46 = none) (hfull : ∀ b o, b ≠ 46 → s.heap.get? b = some o → hb.get? b = some o)
    (X : (hd.heap_39 w.params).In hb) (T : TopRead hd.view_39 Loose mg mb hb) (BM : BMod hb mainGlobals mg bm ob)
    (hcode : s.heap.IsCode 50 46 ps) (htab : s.heap.TableAt 50 46 ps) (hi : StrsAre fs vals) (hlen : ∀ f ∈ fs, f.length ≤ 1000) (hfn : fs.length ≤ 100)
    (hroom : A.depth < 800) (hh : A.handled = none) (hG : AllBare s.gens)
    (h : ∀ h' k g t (z : Str) more, PlatR fs z.cps.toList → z.length ≤ 200000 → (∀ b o, b ≠ 46 → s.heap.get? b = some o → h'.get? b = some o) → h'.IsCode 50 46 (ps ++ more) → h'.TableAt 50 46 (ps ++ more) →
      AllBare g → R (.ok (.ret (.str z t))) { s with heap := h', gens := g, toks := k }) :
    codeAny (model PySem.Challenge.rw_ny0464_01.row.prog w) A (.call (.ref 51) ⟨vals, []⟩) R s := by
  revert X; k_fill; intro X
  refine codeAny_call_function (a := 51) (Nat.lt_trans hroom (by decide)) (hkeep _ _ (X 51 _ (by k_is))) rfl rfl rfl rfl ((codeRec_of X (by k_is)).keeps hkeep) ?_
  refine bind_star rfl rfl ?_
  have hvl : vals.length ≤ sizeLine := by have := hi.length; rw [sizeLine_eq]; omega
  refine wpAny_newTuple ?_ hvl
  have hT0 : (s.heap.push { cls := .type "tuple", data := .seq vals.toArray }).objs.size = s.heap.objs.size + 1 := Heap.size_push ..
  refine wpAny_newFunctionEnv (by decide) (locs (by rfl)) (fun h₁ hns hsb => ⟨((T.nolimit.keeps hkeep).push _).fresh _ hsb, ?_⟩) rfl
  have hk1 : ∀ b o, s.heap.get? b = some o → h₁.get? b = some o := fun b o e => hsb.extBut b o (by have := Heap.lt_size e; dsimp only; rw [hT0]; exact Nat.ne_of_lt (Nat.lt_succ_of_lt this)) (Heap.get?_push_of_some _ (Heap.get?_push_of_some _ e))
  have hT1 : h₁.get? s.heap.objs.size = some { cls := .type "tuple", data := .seq vals.toArray } := hsb.extBut _ _ (by dsimp only; rw [hT0]; exact Nat.ne_of_lt (Nat.lt_succ_self _)) (Heap.get?_push_of_some _ (Heap.get?_push_size _ rfl))
  have hbn : ∀ b, s.heap.objs.size ≤ b → hb.get? b = none := fun b hb' => by
    cases e : hb.get? b with
    | none => rfl
    | some o => exact absurd (Heap.lt_size (hkeep _ _ e)) (Nat.not_lt.mpr hb')
  have h46l := Heap.lt_size htab.2
  dsimp only at hns hsb ⊢
  show codeAny _ _ (.func _ (envOf (Str.ofString "_platform") _ (s.heap.push { cls := .type "tuple", data := .seq vals.toArray }).objs.size 51 (.ref 50))) _ _
  refine codeAny_func (wpAny_mono (E := fun _ _ => False) ?_ (fun _ _ q => q) fun _ _ q => q.elim)
  have hcode₁ := hcode.keeps hk1
  have htab₁ := htab.keeps hk1
  rw [hT0] at hns ⊢
  have F : Fr hb (s.heap.objs.size + 1) h₁ _ := ⟨hns, fun b o e => hk1 b o (hkeep b o e), Nat.le_succ_of_le hsize⟩
  have N : News hb (s.heap.objs.size + 1) h₁ [(s.heap.objs.size, { cls := .type "tuple", data := .seq vals.toArray }), (46, { cls := .none, data := .fields ps })] := by
    intro p hp
    rcases List.mem_cons.mp hp with rfl | hp
    · exact ⟨hT1, Nat.ne_of_lt (Nat.lt_succ_self _), hbn _ (Nat.le_refl _)⟩
    rw [List.mem_singleton.mp hp]
    exact ⟨htab₁.2, Nat.ne_of_lt (Nat.lt_succ_of_lt h46l), h46⟩
  clear hns hsb
  have hLlt : s.heap.objs.size + 1 < h₁.objs.size := F.ns.lt
  generalize hLe : s.heap.objs.size + 1 = L at *
  generalize hte : s.heap.objs.size = tp at *
  w_on
  refine execs_hold 10 ?_
  simp only [List.take_succ_cons, List.take_zero, List.drop_succ_cons, List.drop_zero]
  walk_at "GO"
  refine wpAny_with_toks (Nat.le_refl _) ?_
  refine wpAny_GeneratorExp_walksQ (by exact hh) rfl rfl (by decide) rfl rfl rfl (by show A.depth + 1 < recursionLimit; exact Nat.lt_trans (Nat.succ_lt_succ hroom) (by decide)) ?_ (by intro _; rfl)
  walk_at "GO"
  have hTup : h₁.IsTuple tp vals.toArray := ⟨_, hT1, rfl, _, rfl⟩
  refine call_filter hTup ?_
  have hp1 : (h₁.push { cls := .type "tuple_iterator", data := .fields #[.ref tp, .int 0 0] }).objs.size = h₁.objs.size + 1 := Heap.size_push ..
  have hp2 : ((h₁.push { cls := .type "tuple_iterator", data := .fields #[.ref tp, .int 0 0] }).push (filtObj h₁.objs.size)).objs.size = h₁.objs.size + 2 := by rw [Heap.size_push, hp1]
  obtain ⟨h₂, hh₂⟩ : ∃ h₂, h₂ = (h₁.push { cls := .type "tuple_iterator", data := .fields #[.ref tp, .int 0 0] }).push (filtObj h₁.objs.size) := ⟨_, rfl⟩
  have hk2 : ∀ b o, h₁.get? b = some o → h₂.get? b = some o := fun b o e => by rw [hh₂]; exact Heap.get?_push_of_some _ (Heap.get?_push_of_some _ e)
  have hst0 : FiltSt (h₁.objs.size + 1) h₁.objs.size tp fs vals 0 h₂ := by
    refine ⟨?_, ⟨_, hk2 _ _ hT1, rfl, _, rfl⟩, 0, ⟨{ cls := .type "tuple_iterator", data := .fields #[.ref tp, .int 0 0] }, ?_, rfl, rfl⟩, by simp⟩
    · show h₂.get? (h₁.objs.size + 1) = _
      rw [hh₂, ← hp1]; exact Heap.get?_push_size _ rfl
    · rw [hh₂]; exact Heap.get?_push_of_some _ (Heap.get?_push_size _ rfl)
  have hne1 : tp ≠ h₁.objs.size := Nat.ne_of_lt (Heap.lt_size hT1)
  have hne2 : h₁.objs.size + 1 ≠ h₁.objs.size := Nat.succ_ne_self _
  have hlen' : ∀ g ∈ fs, g.length ≤ 100000 := fun g hg => Nat.le_trans (hlen g hg) (by decide)
  rw [← hh₂] at hp2 ⊢
  have WF : ∀ A' : Around, A'.handled = none → Walks PR w A' (h₁.objs.size + 1) [h₁.objs.size + 1, h₁.objs.size, tp] [h₁.objs.size] (fs.filter neB).length (fun i v => ∃ g u, (fs.filter neB)[i]? = some g ∧ v = .str g u) (FiltSt (h₁.objs.size + 1) h₁.objs.size tp fs vals) :=
    fun A' hA => walks_filt hA hi hlen' hne1 hne2
  refine (WF _ (by exact hh)).self 0 _ _ _ hst0 ?_
  have hnl2 : h₂.NoLimit := T.nolimit.keeps fun b o e => hk2 b o (F.keep b o e)
  refine ⟨hnl2, ?_⟩
  refine gen_code (c := 50) (P := 46) (ps := ps) rfl (hcode₁.keeps hk2) (htab₁.keeps hk2) ?_
  intro code h₃ tk₃ more hx3 hcode₃ htab₃
  have hk3 : ∀ b o, b ≠ 46 → h₁.get? b = some o → h₃.get? b = some o := fun b o hne e => hx3 b o hne (hk2 b o e)
  have hkb3 : ∀ b o, hb.get? b = some o → h₃.get? b = some o := fun b o e => hk3 b o (fun z => by rw [z, h46] at e; cases e) (F.keep b o e)
  refine wpAny_builtinsFor (BM.ns.keeps hkb3) BM.name BM.ne (hkb3 _ _ BM.obj) BM.cls BM.dict BM.data ?_
  have h46ne : ∀ b, tp ≤ b → b ≠ 46 := fun b hb' => Nat.ne_of_gt (Nat.lt_of_lt_of_le h46l hb')
  have hst3 : FiltSt (h₁.objs.size + 1) h₁.objs.size tp fs vals 0 h₃ := (WF A hh).frame 0 _ _ hst0 fun b hb' o e => hx3 b o (h46ne b (by
    have h1 := Heap.lt_size hT1
    simp only [List.mem_cons, List.not_mem_nil, or_false] at hb'
    rcases hb' with rfl | rfl | rfl
    · exact Nat.le_succ_of_le (Nat.le_of_lt h1)
    · exact Nat.le_of_lt h1
    · exact Nat.le_refl _)) e
  have hsz3 : h₁.objs.size + 2 ≤ h₃.objs.size := by
    have h1 : h₃.get? (h₁.objs.size + 1) = some _ := hst3.1
    exact Heap.lt_size h1
  have hnl3 : h₃.NoLimit := T.nolimit.keeps hkb3
  have hstat : cStatics < tp := by
    obtain ⟨_, hn, _⟩ := T.nolimit
    obtain ⟨o, _, _, ho, _⟩ := hn
    have := Heap.lt_size (hkeep _ _ ho)
    rw [hte] at this; exact this
  have h1lt := Heap.lt_size hT1
  dsimp only
  refine ⟨h₁.objs.size + 1, [h₁.objs.size + 1, h₁.objs.size, tp], [h₁.objs.size], (fs.filter neB).length, _, _, fun _ => true, (fun i y => ∃ g u, (fs.filter neB)[i]? = some g ∧ y = .str (Txt.strip g) u), rfl, WF, hst3, ?_, hnl3, ?_, ?_, ?_⟩
  · intro b hb'
    simp only [List.mem_cons, List.not_mem_nil, or_false] at hb'
    rcases hb' with rfl | rfl | rfl
    · exact hsz3
    · exact Nat.lt_of_succ_lt hsz3
    · exact Nat.lt_trans h1lt (Nat.lt_of_succ_lt hsz3)
  · intro hm
    rw [List.mem_singleton.mp hm] at hstat
    exact absurd (Nat.lt_trans hstat h1lt) (Nat.lt_irrefl _)
  · intro href _
    refine ⟨?_, ?_⟩
    · intro A' E' i v s₂ m₂ _ _ _ _ _
      exact wpAny_pure ⟨rfl, s₂.heap, s₂.toks, rfl, fun _ _ e => e⟩
    · intro A' E' i v s₂ m₂ hA hP _ hns hmx _
      obtain ⟨g, u, hg, rfl⟩ := hP
      have hgm := (List.mem_filter.mp (List.mem_of_getElem? hg)).1
      refine elt_strip rfl rfl hns hmx rfl (hlen g hgm) ?_
      intro t' k
      exact ⟨⟨g, t', hg, rfl⟩, s₂.heap, k, rfl, fun _ _ e => e⟩
  · intro a h₅ tk₅ gs hgs ha hsz5 hk5 WG GA htk₅
    try dsimp only at htk₅
    walk_at "GO"
    rw [passing_eq, List.length_range] at WG
    refine wpAny_with_toks (Nat.le_refl _) ?_
    refine SC.joinGen WG.in4_2 (fun i s' st => st.1.typeIs) GA ?_ List.mem_cons_self ?_ ?_ ?_
    · intro b hb'
      show b < h₅.objs.size
      rw [hsz5]
      rcases List.mem_cons.mp hb' with rfl | hb'
      · exact Nat.lt_succ_self _
      · rcases List.mem_cons.mp hb' with rfl | hb'
        · exact Nat.lt_succ_of_lt ha
        · exact Nat.lt_succ_of_lt (Nat.lt_trans (List.mem_range.mp hb') ha)
    · rintro j v ⟨i, _, g, u, _, rfl⟩
      exact ⟨_, u, rfl⟩
    rotate_left
    · have := List.length_filter_le neB fs
      rw [sizeLine_eq]; omega
    intro s' lt hm hacc
    have hl : lt.map (·.1) = (fs.filter neB).map Txt.strip := by
      have hln : lt.length = (fs.filter neB).length := by simpa [strValues] using hacc.1
      apply List.ext_getElem
      · simp [hln]
      · intro j h1 h2
        have hj : j < lt.length := by simpa using h1
        obtain ⟨i, hi', g, u, hg, hv⟩ := hacc.2 j (.str lt[j].1 lt[j].2) (by simp [strValues, List.getElem?_eq_getElem hj])
        have hij : i = j := by
          have := List.getElem?_eq_some_iff.mp hi'
          obtain ⟨_, h4⟩ := this
          simpa using h4.symm
        subst hij
        injection hv with hv1 _
        have := List.getElem?_eq_some_iff.mp hg
        obtain ⟨h5, h6⟩ := this
        simp only [List.getElem_map]
        rw [hv1, h6]
    rw [hl]
    have hsm := sum_small fs hlen
    refine ⟨joinOk_filter_map (by omega) (fun k => Nat.le_trans (len_strip k) (by omega)) (by decide), ?_⟩
    intro t' k htk₆
    try dsimp only at htk₆
    obtain ⟨h₆, g₆, d₆, k₆, o₆⟩ := s'
    obtain ⟨hmh, hmg, hmd, hmo, _⟩ := hm
    dsimp only at hmh hmg hmd hmo
    subst hmd hmo
    have hk6 : ∀ b o, b < h₁.objs.size → b ≠ 46 → h₁.get? b = some o → h₆.get? b = some o := fun b o hlt hne e => hmh b o (by
      intro hm
      rcases List.mem_cons.mp hm with z | z
      · exact absurd hlt (by rw [z]; exact Nat.not_lt.mpr (Nat.le_of_lt (Nat.lt_of_succ_lt hsz3)))
      · exact absurd hlt (by rw [List.mem_singleton.mp z]; exact Nat.lt_irrefl _)) (hk5 b o (hk3 b o hne e))
    have hk46 : h₆.get? 46 = some { cls := .none, data := .fields (ps ++ more) } := hmh _ _ (by
      intro hm
      rcases List.mem_cons.mp hm with z | z
      · exact absurd (Nat.lt_trans h46l h1lt) (by rw [z]; exact Nat.not_lt.mpr (Nat.le_of_lt (Nat.lt_of_succ_lt hsz3)))
      · exact absurd (Nat.lt_trans h46l h1lt) (by rw [List.mem_singleton.mp z]; exact Nat.lt_irrefl _)) (hk5 _ _ htab₃.2)
    have hL46 : L ≠ 46 := h46ne L (by rw [← hLe]; exact Nat.le_succ _)
    have F₆ : Fr hb L h₆ _ := ⟨F.ns.at' fun o e => hk6 _ o hLlt hL46 e, fun b o e => hk6 b o (Heap.lt_size (F.keep b o e)) (fun z => by rw [z, h46] at e; cases e) (F.keep b o e), F.above⟩
    have N₆ : News hb L h₆ [(46, { cls := .none, data := .fields (ps ++ more) })] := by
      intro p hp
      rw [List.mem_singleton.mp hp]
      exact ⟨hk46, fun z => hL46 z.symm, h46⟩
    have hk50 : ∀ b o, b ≠ 46 → s.heap.get? b = some o → h₆.get? b = some o := fun b o hne e => hk6 b o (by
      have := Heap.lt_size e
      rw [hte] at this; exact Nat.lt_trans this h1lt) hne (hk1 b o e)
    have hcode₆ : h₆.IsCode 50 46 (ps ++ more) := by
      obtain ⟨o, vs, file, tf, flags, tg, inF, text, tt, op, b1, r1, r2, r3, r4, r5, r6, b2, r⟩ := hcode₃
      have hc50 : s.heap.get? 50 = some o := by
        obtain ⟨o', _, _, _, _, _, _, _, _, _, b1', _⟩ := hcode
        have := hx3 50 o' (by decide) (hk2 _ _ (hk1 _ _ b1'))
        rw [b1] at this
        rw [b1']; exact this.symm
      exact ⟨o, vs, file, tf, flags, tg, inF, text, tt, _, hk50 50 o (by decide) hc50, r1, r2, r3, r4, r5, r6, hk46, rfl, r.2⟩
    have htab₆ : h₆.TableAt 50 46 (ps ++ more) := by
      obtain ⟨⟨o, vs, e1, e2, e3, e4⟩, _⟩ := htab
      exact ⟨⟨o, vs, hk50 50 o (by decide) e1, e2, e3, e4⟩, hk46⟩
    clear F N
    have hP0 : (Txt.join (Str.ofString "-") ((fs.filter neB).map Txt.strip)).length ≤ 200000 := join_small hlen hfn
    generalize hP0e : Txt.join (Str.ofString "-") ((fs.filter neB).map Txt.strip) = P0 at *
    have hG6 : AllBare g₆ := (hG.push hgs).moved hmg
    have htk0 : 1 ≤ k := by simp only [List.length_cons, List.length_nil] at htk₅ htk₆; omega
    clear htk₅ htk₆
    walk_at "GO"
    rename Fr _ _ _ _ => F₇
    rename News _ _ _ _ => N₇
    rename_i r8 _ _ _ e8 l8 _ r7 _ _ _ e7 l7 _ r6 _ _ _ e6 l6 _ r5 _ _ _ e5 l5 _ r4 _ _ _ e4 l4 _ r3 _ _ _ e3 l3 _ r2 _ _ _ e2 l2 _ r1 _ _ _ e1 l1 _ r0 t0 k0 hk0 e0 l0 h₇
    unfold Hold
    rw [e2, e3, e4, e5, e6, e7, e8] at e1
    rw [e1] at e0
    clear e1 e2 e3 e4 e5 e6 e7 e8
    have hr0 : r0.length ≤ 200000 := by omega
    refine execs_hold 1 ?_
    simp only [List.take_succ_cons, List.take_zero, List.drop_succ_cons, List.drop_zero]
    refine wpAny_execs_cons (wpAny_While ?_)
    refine codeAny_whileH (PlatI s hb L { cls := .none, data := .fields (ps ++ more) } g₆ r0.cps.toList) ?_ r0.length ⟨_, _, _, r0, t0, rfl, by omega, F₇, N₇, rfl, .refl, rfl, hr0⟩
    clear F₇ N₇
    rintro n s' ⟨h₈, tk₈, m₈, r, t, rfl, htk₈, F₈, N₈, hm₈, hcoll, rfl, hrl⟩
    dsimp only
    walk_at "GO"
    all_goals rename Fr _ _ _ _ => F₉
    all_goals rename News _ _ _ _ => N₉
    · rename_i r9 t9 k9 hk9 hrep hle h₉ heq
      have e9 : r9 = r := eq_of_beq heq
      subst e9
      unfold Hold
      refine wpAny_execs_nil ?_
      dsimp only
      refine execs_hold 1 ?_
      simp only [List.take_succ_cons, List.take_zero, List.drop_succ_cons, List.drop_zero]
      refine wpAny_execs_cons (wpAny_While ?_)
      refine codeAny_whileH (PlatK s hb L { cls := .none, data := .fields (ps ++ more) } g₆ r9.cps.toList) ?_ r9.length ⟨_, _, _, r9, t, rfl, F₉, N₉, hm₈, ⟨0, by simp⟩, rfl, hrl⟩
      clear F₉ N₉ hm₈
      have hend : ∀ (h₁₂ : Heap) (m : Str → Option Value) (r : Str) (tt : Tok), Fr hb L h₁₂ m → News hb L h₁₂ [(46, { cls := .none, data := .fields (ps ++ more) })] → (∃ k, r9.cps.toList = r.cps.toList ++ List.replicate k 45) → r.length ≤ 200000 →
          ∀ k, R (.ok (.ret (.str r tt))) { s with heap := h₁₂, gens := g₆, toks := k } := by
        intro h₁₂ m r tt Fe Ne ⟨kk, hkk⟩ hre k
        have hk12 : ∀ b o, b ≠ 46 → s.heap.get? b = some o → h₁₂.get? b = some o := fun b o hne e => Fe.keep b o (hfull b o hne e)
        have ht46 := (Ne _ (.head _)).1
        refine h h₁₂ k g₆ tt r more ⟨r0.cps.toList, r9.cps.toList, kk, ?_, hcoll, hkk⟩ hre hk12 ?_ ?_ hG6
        · rw [hP0e]; exact e0
        · obtain ⟨o, vs, file, tf, flags, tg, inF, text, tt, op, b1, r1, r2, r3, r4, r5, r6, b2, r⟩ := hcode₆
          have hc50 : s.heap.get? 50 = some o := by
            obtain ⟨o', _, _, _, _, _, _, _, _, _, b1', _⟩ := hcode
            have := hk50 50 o' (by decide) b1'
            rw [b1] at this
            rw [b1']; exact this.symm
          exact ⟨o, vs, file, tf, flags, tg, inF, text, tt, _, hk12 50 o (by decide) hc50, r1, r2, r3, r4, r5, r6, ht46, rfl, r.2⟩
        · obtain ⟨⟨o, vs, e1, e2, e3, e4⟩, _⟩ := htab
          exact ⟨⟨o, vs, hk12 50 o (by decide) e1, e2, e3, e4⟩, ht46⟩
      rintro n s' ⟨h₁₀, tk₁₀, m₁₀, r, t₁₀, rfl, F₁₀, N₁₀, hm₁₀, ⟨kk, hkk⟩, rfl, hrl'⟩
      dsimp only
      walk_at "GO"
      · rename Fr _ _ _ _ => F₁₁
        rename News _ _ _ _ => N₁₁
        rename_i a0 a1 a2 _ t₁₁ k₁₁ hle' h₁₁
        have hlast := last_of a0 a2
        have hll : (Txt.slice r none (some (-1))).length < r.length := by
          have h1 : r.cps.toList.length = r.length := Array.length_toList
          have h2 : (Txt.slice r none (some (-1))).cps.toList.length = (Txt.slice r none (some (-1))).length := Array.length_toList
          rw [hlast] at h1; simp only [List.length_append, List.length_cons, List.length_nil] at h1; omega
        refine ⟨_, hll, _, _, _, Txt.slice r none (some (-1)), t₁₁, rfl, F₁₁, N₁₁, rfl, ⟨kk + 1, ?_⟩, rfl, by omega⟩
        rw [hkk, hlast, List.append_assoc]
        rfl
      · refine wpAny_execs_nil ?_
        dsimp only [Hold]
        walk_at "GO"
        exact hend _ _ _ _ F₁₀ N₁₀ ⟨kk, hkk⟩ hrl' _
      · refine wpAny_execs_nil ?_
        dsimp only [Hold]
        walk_at "GO"
        exact hend _ _ _ _ F₁₀ N₁₀ ⟨kk, hkk⟩ hrl' _
    · rename_i r9 t9 k9 hk9 hrep hle _ heq h₉
      have hne : r9.cps.toList ≠ r.cps.toList := fun e => by
        have e2 : r9 = r := Str.ext' (Array.toList_inj.mp e)
        rw [e2] at heq; simp at heq
      have hlt : r9.length < r.length := by
        have := rep_same (by decide) hrep
        rcases this with z | z
        · exact absurd z hne
        · rw [Array.length_toList, Array.length_toList] at z; exact z
      exact ⟨r9.length, hlt, _, _, _, r9, t9, rfl, by simp only [] at hk9; omega, F₉, N₉, rfl, .step hcoll hrep, rfl, by omega⟩
end
end Mine

end PartFplat

section PartLeft
open PySem PySem.W PyProof.Rows PySem.Calls
set_option maxRecDepth 100000
set_option maxHeartbeats 0
namespace Mine
abbrev AS : List Nat := [2, 3, 6, 11, 12, 35, 36, 37, 38, 40, 41, 43, 44, 45, 47, 48, 50, 51, 52, 54, 55, 57, 58, 59, 61, 62, 64, 65, 66, 68, 69, 71, 72, 73, 75, 76, 78, 79]
noncomputable abbrev HK := kHook hd.heap_39 AS (fun _ => by kernel_rfl)
abbrev ROW := PySem.Challenge.rw_ny0464_01.row
theorem left : LeftO ROW.prog hd.view_39 Loose0 (fun s => xlAt hd.view_39 [] s && recOk (RowW.records ROW.toRowW) s) (Hook.obs HK) (Hook.val HK) 1696 :=
  by
    with_reducible apply LeftO.of_split "special-get-raises"
    intro w
    kernel_rfl
end Mine

end PartLeft

section PartBridge
open PySem PySem.W PyProof.Rows PySem.Calls
set_option maxRecDepth 100000
set_option maxHeartbeats 400000
namespace Mine
abbrev Γc : PySem.Ctx := ⟨.builtin "claim.caller" {}, none, none, [], none⟩
theorem pinned_caller : HasC Γc := rfl
/-- a pinned tree, run under the claim's caller, ends -/
theorem ends_C {prog : Program} {w : World} {t : Sem PySem.Fin} {s : Shared} {R : Result → Shared → Prop} (hreg : s.asleep)
    (h : wpC (model prog w) callerA t (fun fin s' => ∃ f, fin = .done f ∧ (R (.ok f) s' ∧ leftWithCleanup s'.gens = false)) (fun e s' => R (.error e) s' ∧ leftWithCleanup s'.gens = false) s) :
    ∃ n r s' s'', runN (denote table) prog w n s ⟨t, .builtin "claim.caller" {}, default, []⟩ = .halted (outcomeOf r) s' ∧
      schedN (denote table) prog w n (.single s ⟨t, .builtin "claim.caller" {}, default, []⟩) = .halted (outcomeOf r) s' ∧ s'.forget = s''.forget ∧ R r s'' := by
  have h1 := h Γc default caller_in pinned_caller
  have h2 : Sem.wp (model prog w) Γc t (Sem.finPost (model prog w) Γc fun r s' => R r s' ∧ leftWithCleanup s'.gens = false) (fun e _ s' => R (.error e) s' ∧ leftWithCleanup s'.gens = false) default s := by
    refine Sem.wp_mono _ _ t (fun fin p' s' q => ?_) (fun _ _ _ q => q) _ _ h1
    obtain ⟨f, rfl, hf⟩ := q
    exact hf
  obtain ⟨n, r, s₁, s₂, a, b, c, d⟩ := wp_halts_full (M := model prog w) (R := R) hreg h2
  exact ⟨n, r, s₂, s₁, b, a, c, d⟩
/-- the walk that the head asks, pinned -/
abbrev WalkC (q : Program) (loose : List Str) (XP : (Str → Option Value) → Heap → Prop) (YP : World → Heap → Prop) (r : RowW) (d : DefRec) (kwd : List (Str × PySem.Expr)) : Prop :=
  ∀ (w : World) (s₀ s₁ : Shared) (mg mb : Str → Option Value), Ground q loose r.records XP w s₀ mg mb s₁.heap → YP w s₁.heap → ∀ (a : Addr) (o : Obj) (pm cd doc dV kV : Value), s₁.heap.get? a = some o →
    o.data = .func { docDef d.name d.params d.body d.scope pm cd doc with defaults := dV, kwdefaults := kV } → s₁.heap.CodeRec cd d.name → Dflts mg s₁.heap d.params kwd dV kV → mg d.name = some (.ref a) → s₁.gens = #[] →
    ∀ (args : List WData) (vals : List Value) (as : List Addr), r.claim.pre args = true → WData.layableAll args = true → ReadsAllW r.records (classAt s₀.heap) s₁.heap vals args as → WellAll w.params s₁.heap vals args → (∀ a ∈ as, (a == sysModules) = false) →
      wpC (model r.prog w) callerA (PySem.call (.ref a) vals) (fun v s' => GoodWG r.claim (classAt s₀.heap) (ExcName.means s₀.heap) args s₁ (.ok (.ret v)) s')
        (fun e s' => GoodWG r.claim (classAt s₀.heap) (ExcName.means s₀.heap) args s₁ (.error e) s') s₁
theorem holds_pin {r : OpenRow} {q : Program} {loose : List Str} {Xt : Shared → Bool} {XP : (Str → Option Value) → Heap → Prop} {α : Type} {Yf : Shared → α} {Ya : World → α} {YP : World → Heap → Prop} {d : DefRec} {kwd : List (Str × PySem.Expr)} {N : Nat}
    (left : LeftO r.prog q loose Xt Yf Ya N) (hY : ∀ w s, Yf s = Ya w → YP w s.heap) (hYk : ∀ w h h', YP w h → (∀ b o, h.get? b = some o → h'.get? b = some o) → YP w h')
    (hX : ∀ s, Xt s = true → XP (s.heap.nsMap mainGlobals) s.heap) (hXk : ∀ mg h h', XP mg h → (∀ b o, h.get? b = some o → h'.get? b = some o) → XP mg h')
    (hdef : defOf q r.name = some (d, kwd)) (hp : r.prog.theDef r.name = some (d.params, d.body, d.scope)) (hk : kwWritten? d.params.kwonlyargs d.params.kw_defaults = some kwd) (hRf : ∀ s, Xt s = true → RecFacts r.records s.heap) (hwr : (!r.writes || r.records.isEmpty) = true)
    (k1 : r.wellSaid = true) (ok : (chainsOk q && opensWell r.prog && (frees r.toRowW && r.within.isEmpty)) = true) (hb : r.prog.bare) (hw : r.toRowW.promised)
    (call : WalkC q loose XP YP r.toRowW d kwd) : r.Holds := by
  obtain ⟨ok, k5⟩ := Bool.and_eq_true_iff.mp ok
  obtain ⟨hch, o1⟩ := Bool.and_eq_true_iff.mp ok
  obtain ⟨k5, k6⟩ := Bool.and_eq_true_iff.mp k5
  obtain ⟨hsame, hu, ha, hap, hm⟩ := frees_parts k5
  have hwi : r.toRowW.claim.within = [] := List.isEmpty_iff.mp k6
  have hid := ident_freeW hu ha hap
  have beh := fun w => left.behind (XP := fun mg h => XP mg h ∧ RecFacts r.records h) (fun s hs => ⟨hX s hs, hRf s hs⟩) hch w
  refine ⟨k1, hw, ⟨hb, o1, by show r.makers.map _ = []; rw [hm]; rfl⟩, hw.witness, fun w => ⟨(beh w).1, fun s' hs' => ?_⟩⟩
  obtain ⟨s₀, hf, hg0, s, hT, hz, hgens, hg, G00, y⟩ := (beh w).2 s' hs'
  have G0 : Ground q loose [] XP w s (s.heap.nsMap mainGlobals) (s.heap.nsMap builtinsNs) s.heap := ⟨G00.T, G00.B, G00.D, G00.TE, G00.TD, G00.W, G00.X.1, G00.cls, G00.has, G00.apart, G00.once, G00.K⟩
  have RF := G00.X.2
  have hgens : s.gens = #[] := Array.eq_empty_of_size_eq_zero (beq_iff_eq.mp hgens)
  have G : Ground q loose r.records XP w s _ _ s.heap := RF.ground G0
  refine ⟨s₀, hf, hg0, s, hT, fun n hn => ?_, RF.1, RF.2.1, ?_⟩
  · obtain rfl : n = r.name := by split at hn <;> simp_all
    exact pinned_of_view hg G0 hdef hp hk
  intro args hpre hlay ord hord
  obtain ⟨⟨vs, s₁⟩, hlaid⟩ := Option.isSome_iff_exists.mp (layAllW_isSome (P := w.params) (ord := ord) G.has args r.args s (pre_splitW hpre).1)
  have keeps := layAllW_keeps _ _ _ hlaid
  have hal := layAllW_rest _ _ _ hlaid
  obtain ⟨as, hrd, hin, hold⟩ := reads_layAllW hord _ _ _ hlaid hlay s₁.heap (fun _ _ e => e)
  have L : Laid r.records w s s₁ args vs as := ⟨⟨ord, hord, hlaid⟩, hrd, hin, hold, keeps, hal.1.trans hgens, hal.2.2.1⟩
  have G₁ := G.keeps hXk keeps
  obtain ⟨a, o, pm, cd, doc, dV, kV, h1, h2, h3, h4, h5⟩ := G₁.fn hdef
  have hbody := call w s s₁ _ _ G₁ (hYk _ _ _ (hY w s y) keeps) a o pm cd doc dV kV h2 h3 h4 h5 (defOf_name hdef ▸ h1) L.gens args vs as hpre hlay L.reads L.well (L.low G.low)
  have htree : wpC (model r.prog w) callerA (callStub r.name vs).cur
      (fun fin s' => ∃ f, fin = .done f ∧ ((r.toRowW.claim.Ends s args vs s₁ (.ok f) s' ∧ s'.os = s.os ∧ (r.writes = true → namesKept r.prog r.keeps s.heap s'.heap ∧ ∀ x ∈ r.records, ∀ a, classAt s.heap x.1 = some a → recordClass s'.heap a x.1 (x.2.map (·.1)) = true)) ∧ leftWithCleanup s'.gens = false))
      (fun e s' => (r.toRowW.claim.Ends s args vs s₁ (.error e) s' ∧ s'.os = s.os ∧ (r.writes = true → namesKept r.prog r.keeps s.heap s'.heap ∧ ∀ x ∈ r.records, ∀ a, classAt s.heap x.1 = some a → recordClass s'.heap a x.1 (x.2.map (·.1)) = true)) ∧ leftWithCleanup s'.gens = false) s₁ := by
    show wpC _ _ (do match ← nsGet mainNs r.name with
      | some f => do ret (← PySem.call f vs)
      | none => unsupported "claim.caller:no-such-global") _ _ _
    refine wpC_step (wpAny_nsGet G₁.T.g ?_)
    rw [h1]
    refine wpC_bind (wpC_mono hbody (fun v s' g => wpC_pure ?_) fun e s' g => ?_)
    · have z := g.laid (c := r.toRowW.claim) hsame hwi hid L
      exact ⟨_, rfl, ⟨z.1, z.2.1, fun q => ⟨namesKept_of hT hg r.keeps keeps g.2.1.old, noTable hwr q⟩⟩, leftWithCleanup_false_of_bare z.2.2⟩
    · have z := g.laid (c := r.toRowW.claim) hsame hwi hid L
      exact ⟨⟨z.1, z.2.1, fun q => ⟨namesKept_of hT hg r.keeps keeps g.2.1.old, noTable hwr q⟩⟩, leftWithCleanup_false_of_bare z.2.2⟩
  obtain ⟨k, rr, s₂, s₃, hrun, hsched, hfo, hcase, hos, hkp⟩ := ends_C (prog := r.prog) (w := w) (t := (callStub r.name vs).cur) (s := s₁)
    (R := fun rr s' => r.toRowW.claim.Ends s args vs s₁ rr s' ∧ s'.os = s.os ∧ (r.writes = true → namesKept r.prog r.keeps s.heap s'.heap ∧ ∀ x ∈ r.records, ∀ a, classAt s.heap x.1 = some a → recordClass s'.heap a x.1 (x.2.map (·.1)) = true)) (Shared.asleep_of_life hal.2.2.2 hz) htree
  obtain ⟨eh, _, _, eo, _⟩ := Shared.forget_eq hfo
  have hcase := hcase.congr eh
  rw [← eh] at hkp
  rw [← eo] at hos
  have hlife : s₂.heap.life = s.heap.life := (runN_life _ _ _ hrun).trans hal.2.2.2
  refine ⟨vs, s₁, hlaid, k, _, s₂, hsched, ?_, (fun _ i x hx => by rw [hgens] at hx; simp at hx), hkp, by rw [hlife], Shared.rest_eq hos⟩
  rcases hcase with ⟨v, rfl, d1, d2, d3, d4, d5⟩ | ⟨e, ob, cls, rfl, d1, d2, d3, d4, d5⟩
  · exact .inl ⟨v, rfl, d1, d2, d3, fun b o y _ => d4 b o y, d5⟩
  · exact .inr ⟨e, ob, cls, rfl, d1, d2, d3, d4, fun b o y _ => d5 b o y⟩
end Mine

end PartBridge

section PartPlainA
open PySem PySem.W PyProof.Rows PySem.Calls
set_option maxRecDepth 100000
set_option maxHeartbeats 400000
namespace Mine
theorem getLast_app {S : List Run} (R : List Run) (h : S ≠ []) : (R ++ S).getLast? = S.getLast? := by
  obtain ⟨l, x, e⟩ : ∃ l x, S = l ++ [x] := ⟨_, _, (List.dropLast_concat_getLast h).symm⟩
  subst e
  rw [← List.append_assoc]; simp
theorem dropLast_app {S : List Run} (R : List Run) (h : S ≠ []) : (R ++ S).dropLast = R ++ S.dropLast := by
  obtain ⟨l, x, e⟩ : ∃ l x, S = l ++ [x] := ⟨_, _, (List.dropLast_concat_getLast h).symm⟩
  subst e
  rw [← List.append_assoc]; simp
theorem bump_app {S : List Run} (R : List Run) (c : Nat) (h : S ≠ []) : bump (R ++ S) c = R ++ bump S c := by
  unfold bump
  rw [getLast_app R h, dropLast_app R h]
  cases S.getLast? with
  | none => rfl
  | some x => cases x with
    | num n => simp
    | txt l => rfl
theorem grow_app {S : List Run} (R : List Run) (c : Nat) (h : S ≠ []) : grow (R ++ S) c = R ++ grow S c := by
  unfold grow
  rw [getLast_app R h, dropLast_app R h]
  cases S.getLast? with
  | none => rfl
  | some x => cases x with
    | num n => rfl
    | txt l => simp
theorem bump_ne {S : List Run} (c : Nat) (h : S ≠ []) : bump S c ≠ [] := by
  unfold bump
  split
  · simp
  · exact h
theorem grow_ne {S : List Run} (c : Nat) (h : S ≠ []) : grow S c ≠ [] := by
  unfold grow
  split
  · simp
  · exact h
theorem step_app (R S : List Run) (k c : Nat) (h : k ≠ 0 → S ≠ []) : stepR (R ++ S, k) c = (R ++ (stepR (S, k) c).1, (stepR (S, k) c).2) ∧ ((stepR (S, k) c).2 ≠ 0 → (stepR (S, k) c).1 ≠ []) := by
  unfold stepR
  by_cases h0 : kindOf c = 0
  · simp [h0]
  · by_cases h1 : kindOf c = 1
    · by_cases hk : k = 1
      · have hs := h (by omega)
        simp [h1, hk, bump_app R c hs, bump_ne c hs]
      · simp [h1, hk]
    · by_cases hk : k = 2
      · have hs := h (by omega)
        simp [h0, h1, hk, grow_app R c hs, grow_ne c hs]
      · simp [h0, h1, hk]
theorem scan_app (R : List Run) : ∀ (t : List Nat) (S : List Run) (k : Nat), (k ≠ 0 → S ≠ []) → t.foldl stepR (R ++ S, k) = (R ++ (t.foldl stepR (S, k)).1, (t.foldl stepR (S, k)).2)
  | [], _, _, _ => rfl
  | c :: t, S, k, h => by
    obtain ⟨e1, e2⟩ := step_app R S k c h
    rw [List.foldl_cons, List.foldl_cons, e1]
    exact scan_app R t _ _ e2
theorem scan_zero (R : List Run) (t : List Nat) : t.foldl stepR (R, 0) = (R ++ runsOf t, (t.foldl stepR ([], 0)).2) := by
  have := scan_app R t [] 0 (by simp)
  rw [List.append_nil] at this
  exact this
theorem step_fresh (R : List Run) (k c : Nat) (h : kindOf c ≠ k) : stepR (R, k) c = stepR (R, 0) c := by
  unfold stepR
  by_cases h0 : kindOf c = 0
  · simp [h0]
  · by_cases h1 : kindOf c = 1
    · have : ¬ k = 1 := fun e => h (by omega)
      simp [h1, this]
    · have h2 : kindOf c = 2 := by unfold kindOf at *; split at h0 <;> simp_all
      have : ¬ k = 2 := fun e => h (by omega)
      simp [h0, h1, this]
theorem runs_part {a b : List Nat} (h : ∀ c r, b = c :: r → kindOf c ≠ (a.foldl stepR ([], 0)).2) : runsOf (a ++ b) = runsOf a ++ runsOf b := by
  unfold runsOf
  rw [List.foldl_append]
  cases b with
  | nil => simp
  | cons c r =>
    have hc := h c r rfl
    generalize a.foldl stepR ([], 0) = st at hc ⊢
    obtain ⟨R, k⟩ := st
    dsimp only at hc ⊢
    rw [List.foldl_cons, step_fresh R k c hc, ← List.foldl_cons]
    rw [scan_zero R (c :: r)]
    rfl
theorem step_sep {c : Nat} (h : sepB c = true) (st : List Run × Nat) : stepR st c = (st.1, 0) := by
  unfold stepR kindOf
  simp [h]
theorem runs_sep {a b : List Nat} {c : Nat} (h : sepB c = true) : runsOf (a ++ c :: b) = runsOf a ++ runsOf b := by
  unfold runsOf
  rw [List.foldl_append, List.foldl_cons, step_sep h, scan_zero]
  rfl
theorem runs_map {f : Nat → Nat} (h1 : ∀ c, sepB c = true → sepB (f c) = true) (h2 : ∀ c, sepB c = false → f c = c) : ∀ (t : List Nat) (st : List Run × Nat), (t.map f).foldl stepR st = t.foldl stepR st
  | [], _ => rfl
  | c :: t, st => by
    rw [List.map_cons, List.foldl_cons, List.foldl_cons]
    have e : stepR st (f c) = stepR st c := by
      cases hs : sepB c with
      | true => rw [step_sep (h1 c hs), step_sep hs]
      | false => rw [h2 c hs]
    rw [e]
    exact runs_map h1 h2 t _
theorem runs_trail (z : List Nat) (k : Nat) : runsOf (z ++ List.replicate k 45) = runsOf z := by
  unfold runsOf
  rw [List.foldl_append]
  have : ∀ k (st : List Run × Nat), ((List.replicate k 45).foldl stepR st).1 = st.1 := by
    intro k
    induction k with
    | zero => intro st; rfl
    | succ k ih => intro st; rw [List.replicate_succ, List.foldl_cons, step_sep (by decide), ih]
  exact this k _
theorem runs_word : ∀ (t : List Nat) (l : List Nat) (R : List Run), (∀ c ∈ t, kindOf c = 2) → t.foldl stepR (R ++ [.txt l], 2) = (R ++ [.txt (l ++ t)], 2)
  | [], l, R, _ => by simp
  | c :: t, l, R, h => by
    have hc := h c (.head _)
    have e : stepR (R ++ [.txt l], 2) c = (R ++ [.txt (l ++ [c])], 2) := by
      unfold stepR grow
      simp [hc]
    rw [List.foldl_cons, e, runs_word t (l ++ [c]) R fun d hd => h d (.tail _ hd)]
    simp
theorem scan_word {t : List Nat} (h0 : t ≠ []) (h : ∀ c ∈ t, kindOf c = 2) : t.foldl stepR ([], 0) = ([.txt t], 2) := by
  cases t with
  | nil => exact absurd rfl h0
  | cons c t =>
    have hc := h c (.head _)
    have e : stepR ([], 0) c = ([] ++ [.txt [c]], 2) := by unfold stepR; simp [hc]
    rw [List.foldl_cons, e, runs_word t [c] [] fun d hd => h d (.tail _ hd)]
    simp
theorem runs_figs : ∀ (t : List Nat) (n : Nat) (R : List Run), (∀ c ∈ t, kindOf c = 1) → t.foldl stepR (R ++ [.num n], 1) = (R ++ [.num (t.foldl (fun acc c => acc * 10 + (c - 48)) n)], 1)
  | [], n, R, _ => rfl
  | c :: t, n, R, h => by
    have hc := h c (.head _)
    have e : stepR (R ++ [.num n], 1) c = (R ++ [.num (n * 10 + (c - 48))], 1) := by
      unfold stepR bump
      simp [hc]
    rw [List.foldl_cons, e, runs_figs t _ R fun d hd => h d (.tail _ hd)]
    rfl
theorem scan_figs {t : List Nat} (h0 : t ≠ []) (h : ∀ c ∈ t, kindOf c = 1) : t.foldl stepR ([], 0) = ([.num (t.foldl (fun acc c => acc * 10 + (c - 48)) 0)], 1) := by
  cases t with
  | nil => exact absurd rfl h0
  | cons c t =>
    have hc := h c (.head _)
    have e : stepR ([], 0) c = ([] ++ [.num (c - 48)], 1) := by unfold stepR; simp [hc]
    rw [List.foldl_cons, e, runs_figs t _ [] fun d hd => h d (.tail _ hd)]
    simp
end Mine

end PartPlainA

section PartPlainB
open PySem PySem.W PyProof.Rows PySem.Calls PySem.NumText
set_option maxRecDepth 100000
set_option maxHeartbeats 400000
namespace Mine
theorem dlen_dig (text : Array Nat) : ∀ (n p j : Nat), j < dlen text n p → digB (text.getD (p + j) 0) = true
  | 0, _, _, h => by simp [dlen] at h
  | n + 1, p, j, h => by
    unfold dlen at h
    split at h
    · rename_i hd
      cases j with
      | zero => exact hd
      | succ j =>
        have := dlen_dig text n (p + 1) j (by omega)
        rw [show p + (j + 1) = p + 1 + j by omega]; exact this
    · omega
theorem dlen_end (text : Array Nat) : ∀ (n p : Nat), dlen text n p < n → digB (text.getD (p + dlen text n p) 0) = false
  | 0, _, h => by omega
  | n + 1, p, h => by
    unfold dlen at h ⊢
    split at h
    · rename_i hd
      rw [if_pos hd]
      have := dlen_end text n (p + 1) (by omega)
      rw [show p + (dlen text n (p + 1) + 1) = p + 1 + dlen text n (p + 1) by omega]; exact this
    · rename_i hd
      rw [if_neg hd]
      simpa using hd
/-- neither a figure nor one of the four signs -/
def plainC (c : Nat) : Prop := digB c = false ∧ sep4 c = false
theorem nx_none (text : Array Nat) : ∀ (k s : Nat), s + k = text.size → nextAt text k s = none → ∀ j, s ≤ j → j < text.size → plainC (text.getD j 0)
  | 0, s, hk, _, j, h1, h2 => by omega
  | k + 1, s, hk, h, j, h1, h2 => by
    unfold nextAt at h
    cases hd : digB (text.getD s 0) with
    | true => rw [hd] at h; simp at h
    | false =>
      cases hp : sep4 (text.getD s 0) with
      | true => rw [hd, hp] at h; simp at h
      | false =>
        rw [hd, hp] at h
        simp only [Bool.false_eq_true, if_false] at h
        by_cases e : j = s
        · subst e; exact ⟨hd, hp⟩
        · exact nx_none text k (s + 1) (by omega) h j (by omega) h2
theorem nx_some (text : Array Nat) (hsz : text.size ≤ 1000000) : ∀ (k s i e : Nat), s + k = text.size → nextAt text k s = some (i, e) →
    (∀ j, s ≤ j → j < i → plainC (text.getD j 0)) ∧ ((digB (text.getD i 0) = false ∧ sep4 (text.getD i 0) = true ∧ e = i + 1) ∨
      ((∀ j, i ≤ j → j < e → digB (text.getD j 0) = true) ∧ (e < text.size → digB (text.getD e 0) = false)))
  | 0, s, i, e, _, h => by simp [nextAt] at h
  | k + 1, s, i, e, hk, h => by
    unfold nextAt at h
    cases hd : digB (text.getD s 0) with
    | true =>
      rw [hd] at h
      simp only [if_true] at h
      cases h
      refine ⟨fun j h1 h2 => by omega, .inr ⟨fun j h1 h2 => ?_, fun h2 => ?_⟩⟩
      · have := dlen_dig text (min 4294967295 ((text.size : Int) - (s : Int)).toNat) s (j - s) (by unfold dl at h2; omega)
        rw [show s + (j - s) = j by omega] at this; exact this
      · exact dlen_end text (min 4294967295 ((text.size : Int) - (s : Int)).toNat) s (by unfold dl at h2; omega)
    | false =>
      cases hp : sep4 (text.getD s 0) with
      | true =>
        rw [hd, hp] at h
        simp at h
        obtain ⟨rfl, rfl⟩ := h
        exact ⟨fun j h1 h2 => by omega, .inl ⟨hd, hp, rfl⟩⟩
      | false =>
        rw [hd, hp] at h
        simp only [Bool.false_eq_true, if_false] at h
        obtain ⟨h1, h2⟩ := nx_some text hsz k (s + 1) i e (by omega) h
        refine ⟨fun j ha hb => ?_, h2⟩
        by_cases ej : j = s
        · subst ej; exact ⟨hd, hp⟩
        · exact h1 j (by omega) hb
theorem mem_extract {text : Array Nat} {a b c : Nat} (h : c ∈ (text.extract a b).toList) : ∃ j, a ≤ j ∧ j < b ∧ j < text.size ∧ c = text.getD j 0 := by
  rw [Array.toList_extract] at h
  obtain ⟨k, hk⟩ := List.getElem?_of_mem h
  have hlt := (List.getElem?_eq_some_iff.mp hk).1
  simp only [List.extract_eq_take_drop, List.length_take, List.length_drop, Array.length_toList] at hlt
  refine ⟨a + k, by omega, by omega, by omega, ?_⟩
  rw [List.extract_eq_take_drop, List.getElem?_take_of_lt (by omega), List.getElem?_drop] at hk
  have : text.toList[a + k]? = text[a + k]? := by simp
  rw [this] at hk
  simp [Array.getD_eq_getD_getElem?, hk]
end Mine

end PartPlainB

section PartPlainC
open PySem PySem.W PyProof.Rows PySem.Calls PySem.NumText
set_option maxRecDepth 100000
set_option maxHeartbeats 400000
namespace Mine
/-- the signs of a name: seven bits, and of the parting signs the four alone -/
def NameC (c : Nat) : Prop := c < 128 ∧ c ≠ 0 ∧ (sepB c = true → sep4 c = true)
theorem sep_of_four {c : Nat} (h : sep4 c = true) : sepB c = true := by
  unfold sep4 at h; rw [List.contains_iff_mem] at h
  unfold sepB; rw [List.contains_iff_mem]
  simp only [List.mem_cons, List.not_mem_nil, or_false] at h ⊢
  omega
theorem not_sep_dig {c : Nat} (h : digB c = true) : sepB c = false := by
  cases hs : sepB c with
  | false => rfl
  | true =>
    unfold sepB at hs; rw [List.contains_iff_mem] at hs
    unfold digB at h
    simp only [List.mem_cons, List.not_mem_nil, or_false, Bool.and_eq_true, decide_eq_true_eq] at hs h
    omega
theorem kind_dig {c : Nat} (h : digB c = true) : kindOf c = 1 := by unfold kindOf; rw [not_sep_dig h, h]; rfl
theorem kind_plain {c : Nat} (h : plainC c) (hn : NameC c) : kindOf c = 2 := by
  have hs : sepB c = false := by
    cases hs : sepB c with
    | false => rfl
    | true => have := h.2; rw [hn.2.2 hs] at this; cases this
  unfold kindOf; rw [hs, h.1]; rfl
theorem dig_range {c : Nat} : digB c = true ↔ 48 ≤ c ∧ c ≤ 57 := by unfold digB; simp
theorem piece_nil {p : Str} (h : p.cps.toList = []) : PieceK p [] ∧ ∀ e, PieceK p e → e = emits (runsOf p.cps.toList) := by
  refine ⟨.nil h, fun e he => ?_⟩
  cases he with
  | nil _ => rw [h]; rfl
  | sep h1 _ => rw [h] at h1; cases h1
  | figs _ h2 => exact absurd h h2
  | word _ _ h2 => exact absurd h h2
theorem piece_sep {p : Str} {c : Nat} (h : p.cps.toList = [c]) (hs : sep4 c = true) (hd : digB c = false) : PieceK p [] ∧ ∀ e, PieceK p e → e = [] := by
  refine ⟨.sep h hs, fun e he => ?_⟩
  cases he with
  | nil _ => rfl
  | sep h1 _ => rfl
  | figs h1 _ => have := dig_range.mpr (h1 c (by rw [h]; exact .head _)); rw [this] at hd; cases hd
  | word _ h2 _ => rw [h2 c (by rw [h]; exact .head _)] at hs; cases hs
theorem piece_figs {p : Str} (h0 : p.cps.toList ≠ []) (h : ∀ c ∈ p.cps.toList, digB c = true) : (∃ e, PieceK p e) ∧ ∀ e, PieceK p e → e = emits (runsOf p.cps.toList) := by
  have hr : runsOf p.cps.toList = [.num (digitsVal p.cps.toList)] := by
    unfold runsOf
    rw [scan_figs h0 fun c hc => kind_dig (h c hc)]
    rfl
  refine ⟨⟨_, .figs (fun c hc => dig_range.mp (h c hc)) h0⟩, fun e he => ?_⟩
  rw [hr]
  obtain ⟨c, r, ec⟩ : ∃ c r, p.cps.toList = c :: r := by
    cases e : p.cps.toList with
    | nil => exact absurd e h0
    | cons c r => exact ⟨c, r, rfl⟩
  have hc := h c (by rw [ec]; exact .head _)
  cases he with
  | nil h1 => exact absurd h1 h0
  | sep h1 h2 =>
    rw [h1] at ec; cases ec
    have := not_sep_dig hc
    rw [sep_of_four h2] at this; cases this
  | figs _ _ => rfl
  | word h1 _ _ => exact absurd (dig_range.mp hc) (h1 c (by rw [ec]; exact .head _)).2.2.1
theorem piece_word {p : Str} (h0 : p.cps.toList ≠ []) (h : ∀ c ∈ p.cps.toList, plainC c ∧ NameC c) : (∃ e, PieceK p e) ∧ ∀ e, PieceK p e → e = emits (runsOf p.cps.toList) := by
  have hr : runsOf p.cps.toList = [.txt p.cps.toList] := by
    unfold runsOf
    rw [scan_word h0 fun c hc => kind_plain (h c hc).1 (h c hc).2]
  have hw : Wordy p.cps.toList := fun c hc => ⟨(h c hc).2.1, (h c hc).2.2.1, (fun hd => by
    have := (h c hc).1.1
    rw [dig_range.mpr hd] at this; cases this), (fun e => by
    have := (h c hc).1.2
    rw [e] at this; cases this)⟩
  refine ⟨⟨_, .word hw (fun c hc => (h c hc).1.2) h0⟩, fun e he => ?_⟩
  rw [hr]
  obtain ⟨c, r, ec⟩ : ∃ c r, p.cps.toList = c :: r := by
    cases e : p.cps.toList with
    | nil => exact absurd e h0
    | cons c r => exact ⟨c, r, rfl⟩
  have hc := h c (by rw [ec]; exact .head _)
  cases he with
  | nil h1 => exact absurd h1 h0
  | sep h1 h2 => rw [h1] at ec; cases ec; rw [hc.1.2] at h2; cases h2
  | figs h1 _ => have := dig_range.mpr (h1 c (by rw [ec]; exact .head _)); rw [hc.1.1] at this; cases this
  | word _ _ _ => rfl
theorem piece_any {p : Str} (h : ∀ c ∈ p.cps.toList, plainC c ∧ NameC c) : (∃ e, PieceK p e) ∧ ∀ e, PieceK p e → e = emits (runsOf p.cps.toList) := by
  by_cases h0 : p.cps.toList = []
  · exact ⟨⟨_, (piece_nil h0).1⟩, (piece_nil h0).2⟩
  · exact piece_word h0 h
theorem cut3 {text : Array Nat} {s i e : Nat} (h1 : s ≤ i) (h2 : i ≤ e) (_h3 : e ≤ text.size) : text.toList.drop s = (text.extract s i).toList ++ ((text.extract i e).toList ++ text.toList.drop e) := by
  rw [Array.toList_extract, Array.toList_extract, List.extract_eq_take_drop, List.extract_eq_take_drop]
  have a1 : text.toList.drop i = (text.toList.drop i).take (e - i) ++ text.toList.drop e := by
    have := List.take_append_drop (e - i) (text.toList.drop i)
    rw [List.drop_drop, show i + (e - i) = e by omega] at this
    exact this.symm
  have a2 : text.toList.drop s = (text.toList.drop s).take (i - s) ++ text.toList.drop i := by
    have := List.take_append_drop (i - s) (text.toList.drop s)
    rw [List.drop_drop, show s + (i - s) = i by omega] at this
    exact this.symm
  rw [← a1]; exact a2
theorem emits_runs_app {a b : List Nat} (h : runsOf (a ++ b) = runsOf a ++ runsOf b) : emits (runsOf (a ++ b)) = emits (runsOf a) ++ emits (runsOf b) := by rw [h, emits_append]
theorem getD_mem {text : Array Nat} {j : Nat} (h : j < text.size) : text.getD j 0 ∈ text.toList := by
  simp [Array.getD_eq_getD_getElem?, h]
theorem scan_plain {a : List Nat} (h : ∀ c ∈ a, kindOf c = 2) : (a.foldl stepR ([], 0)).2 = 0 ∨ (a.foldl stepR ([], 0)).2 = 2 := by
  by_cases h0 : a = []
  · subst h0; exact .inl rfl
  · rw [scan_word h0 h]; exact .inr rfl
/-- what the pieces bring is what the runs bring -/
theorem split_emits {text : Array Nat} (hsz : text.size ≤ 1000000) (hA : ∀ c ∈ text.toList, NameC c) {st : Nat} {full : List Str} (h : SplitR text st full) : st ≤ text.size →
    (∃ es, PiecesK full es) ∧ ∀ es, PiecesK full es → es.flatten = emits (runsOf (text.toList.drop st)) := by
  induction h with
  | @last st hn =>
    intro hst
    have hp : ∀ c ∈ (text.extract st text.size).toList, plainC c ∧ NameC c := by
      intro c hc
      obtain ⟨j, h1, h2, h3, rfl⟩ := mem_extract hc
      exact ⟨nx_none text _ _ (by omega) hn j h1 h3, hA _ (getD_mem h3)⟩
    obtain ⟨⟨e, he⟩, hu⟩ := piece_any (p := ⟨text.extract st text.size⟩) hp
    have hl : (text.extract st text.size).toList = text.toList.drop st := by
      rw [Array.toList_extract, List.extract_eq_take_drop, List.take_of_length_le (by simp)]
    refine ⟨⟨[e], he, trivial⟩, fun es hes => ?_⟩
    match es, hes with
    | [e'], hes =>
      rw [List.flatten_cons, List.flatten_nil, List.append_nil, hu e' hes.1, hl]
  | @more st i e r hn hr ih =>
    intro hst
    obtain ⟨b1, b2, b3⟩ := nextAt_bounds text _ _ _ _ (by omega) hn
    obtain ⟨hpl, hcase⟩ := nx_some text hsz _ _ _ _ (by omega) hn
    obtain ⟨⟨es₀, hes₀⟩, ihu⟩ := ih b3
    have hp : ∀ c ∈ (text.extract st i).toList, plainC c ∧ NameC c := by
      intro c hc
      obtain ⟨j, h1, h2, h3, rfl⟩ := mem_extract hc
      exact ⟨hpl j h1 h2, hA _ (getD_mem h3)⟩
    obtain ⟨⟨e1, he1⟩, hu1⟩ := piece_any (p := ⟨text.extract st i⟩) hp
    have hk2 : ∀ c ∈ (text.extract st i).toList, kindOf c = 2 := fun c hc => kind_plain (hp c hc).1 (hp c hc).2
    rw [cut3 b1 (Nat.le_of_lt b2) b3]
    rcases hcase with ⟨hd, hs, rfl⟩ | ⟨hdig, hend⟩
    · have hm : (text.extract i (i + 1)).toList = [text.getD i 0] := by
        have hi : i < text.size := by omega
        rw [Array.toList_extract, List.extract_eq_take_drop, show i + 1 - i = 1 by omega, List.drop_eq_getElem_cons (by simpa using hi)]
        simp [Array.getD_eq_getD_getElem?, hi]
      obtain ⟨q1, q2⟩ := piece_sep (p := ⟨text.extract i (i + 1)⟩) hm hs hd
      refine ⟨⟨e1 :: [] :: es₀, he1, q1, hes₀⟩, fun es hes => ?_⟩
      match es, hes with
      | a :: b :: es', hes =>
        rw [List.flatten_cons, List.flatten_cons, hu1 a hes.1, q2 b hes.2.1, ihu es' hes.2.2, List.nil_append, hm, List.singleton_append, runs_sep (sep_of_four hs), emits_append]
    · have hdm : ∀ c ∈ (text.extract i e).toList, digB c = true := by
        intro c hc
        obtain ⟨j, h1, h2, h3, rfl⟩ := mem_extract hc
        exact hdig j h1 h2
      have hm0 : (text.extract i e).toList ≠ [] := by
        intro z
        have : (text.extract i e).toList.length = 0 := by rw [z]; rfl
        rw [Array.length_toList, Array.size_extract] at this; omega
      obtain ⟨⟨e2, he2⟩, hu2⟩ := piece_figs (p := ⟨text.extract i e⟩) hm0 hdm
      refine ⟨⟨e1 :: e2 :: es₀, he1, he2, hes₀⟩, fun es hes => ?_⟩
      match es, hes with
      | a :: b :: es', hes =>
        rw [List.flatten_cons, List.flatten_cons, hu1 a hes.1, hu2 b hes.2.1, ihu es' hes.2.2]
        have p2 : runsOf ((text.extract i e).toList ++ text.toList.drop e) = runsOf (text.extract i e).toList ++ runsOf (text.toList.drop e) := by
          refine runs_part fun c r hc => ?_
          rw [scan_figs hm0 fun c hc => kind_dig (hdm c hc)]
          have hlt : e < text.size := by
            have : (text.toList.drop e).length = (c :: r).length := by rw [hc]
            simp only [List.length_drop, Array.length_toList, List.length_cons] at this; omega
          have ec : c = text.getD e 0 := by
            rw [List.drop_eq_getElem_cons (by simpa using hlt)] at hc
            cases hc
            simp [Array.getD_eq_getD_getElem?, hlt]
          have := hend hlt
          rw [← ec] at this
          show kindOf c ≠ 1
          unfold kindOf
          rw [this]
          split <;> simp
        have p1 : runsOf ((text.extract st i).toList ++ ((text.extract i e).toList ++ text.toList.drop e)) = runsOf (text.extract st i).toList ++ runsOf ((text.extract i e).toList ++ text.toList.drop e) := by
          refine runs_part fun c r hc => ?_
          have hcm : c ∈ (text.extract i e).toList := by
            cases hx : (text.extract i e).toList with
            | nil => exact absurd hx hm0
            | cons y ys => rw [hx] at hc; cases hc; exact .head _
          rw [kind_dig (hdm c hcm)]
          rcases scan_plain hk2 with z | z <;> rw [z] <;> decide
        rw [p1, p2, emits_append, emits_append]
end Mine

end PartPlainC

section PartPlainD
open PySem PySem.W PyProof.Rows PySem.Calls PySem.NumText
set_option maxRecDepth 100000
set_option maxHeartbeats 400000
namespace Mine
theorem rep_hy {l r : List Nat} (h : Rep [45, 45] [45] l r) : ∀ st, r.foldl stepR st = l.foldl stepR st := by
  induction h with
  | nil => intro st; rfl
  | hit _ ih =>
    intro st
    simp only [List.cons_append, List.nil_append, List.foldl_cons, step_sep (show sepB 45 = true by decide)]
    exact ih _
  | miss _ _ ih => intro st; simp only [List.foldl_cons]; exact ih _
theorem coll_runs {l r : List Nat} (h : Coll l r) : runsOf r = runsOf l := by
  induction h with
  | refl => rfl
  | step _ h ih => rw [← ih]; unfold runsOf; rw [rep_hy h]
theorem rep_mem {y z l r : List Nat} (h : Rep y z l r) {c : Nat} (hc : c ∈ r) : c ∈ l ∨ c ∈ z := by
  induction h with
  | nil => exact .inl hc
  | hit _ ih =>
    rcases List.mem_append.mp hc with hc | hc
    · exact .inr hc
    · rcases ih hc with h | h
      · exact .inl (List.mem_append_right _ h)
      · exact .inr h
  | miss _ _ ih =>
    rcases List.mem_cons.mp hc with rfl | hc
    · exact .inl (.head _)
    · rcases ih hc with h | h
      · exact .inl (.tail _ h)
      · exact .inr h
theorem coll_mem {l r : List Nat} (h : Coll l r) {c : Nat} : c ∈ r → c ∈ l ∨ c = 45 := by
  induction h with
  | refl => exact .inl
  | step _ h ih =>
    intro hc
    rcases rep_mem h hc with h | h
    · exact ih h
    · exact .inr (List.mem_singleton.mp h)
abbrev UNK : List Nat := [117, 110, 107, 110, 111, 119, 110]
theorem unk_eq : (Str.ofString "unknown").cps.toList = UNK := by rfl
theorem nil_eq : (Str.ofString "").cps.toList = ([] : List Nat) := by rfl
theorem rep_map {y : List Nat} {M : Nat → Nat} (hM : ∀ c, ∀ x ∈ y, M c = x ↔ c = x) (_y0 : y ≠ []) : ∀ {l r : List Nat}, Rep y [] l r → ∀ a : List Nat, l = a.map M → ∃ r', Rep y [] a r' ∧ r = r'.map M := by
  have hy : y.map M = y := by
    have : ∀ u : List Nat, (∀ x ∈ u, x ∈ y) → u.map M = u := by
      intro u
      induction u with
      | nil => intro _; rfl
      | cons x u ih =>
        intro h
        rw [List.map_cons, (hM x x (h x (.head _))).mpr rfl, ih fun z hz => h z (.tail _ hz)]
    exact this y fun x hx => hx
  have hinv : ∀ u v : List Nat, (∀ x ∈ v, x ∈ y) → u.map M = v → u = v := by
    intro u
    induction u with
    | nil => intro v _ h; cases v with
      | nil => rfl
      | cons _ _ => cases h
    | cons c u ih =>
      intro v hv h
      cases v with
      | nil => cases h
      | cons x v =>
        rw [List.map_cons] at h
        injection h with h1 h2
        rw [(hM c x (hv x (.head _))).mp h1, ih v (fun z hz => hv z (.tail _ hz)) h2]
  intro l r h
  induction h with
  | nil => intro a e; cases a with
    | nil => exact ⟨[], .nil, rfl⟩
    | cons _ _ => cases e
  | @hit l r _ ih =>
    intro a e
    have e1 : (a.take y.length).map M = y := by rw [List.map_take, ← e]; simp
    have e2 : (a.drop y.length).map M = l := by rw [List.map_drop, ← e]; simp
    have e3 := hinv _ _ (fun x hx => hx) e1
    obtain ⟨r', h1, h2⟩ := ih _ e2.symm
    refine ⟨r', ?_, by rw [List.nil_append]; exact h2⟩
    have := List.take_append_drop y.length a
    rw [e3] at this
    rw [← this]
    exact Rep.hit (z := []) h1
  | @miss c l r hn _ ih =>
    intro a e
    cases a with
    | nil => cases e
    | cons d a =>
      rw [List.map_cons] at e
      injection e with e1 e2
      obtain ⟨r', h1, h2⟩ := ih a e2
      refine ⟨d :: r', .miss (fun hp => hn ?_) h1, by rw [List.map_cons, e1, h2]⟩
      obtain ⟨t, ht⟩ := hp
      refine ⟨t.map M, ?_⟩
      have := congrArg (List.map M) ht
      rw [List.map_append, hy, List.map_cons] at this
      rw [this, e1, e2]
theorem rep_cut {y : List Nat} (hy : 45 ∉ y) : ∀ {l r : List Nat}, Rep y [] l r → ∀ a b : List Nat, l = a ++ 45 :: b → ∃ r1 r2, Rep y [] a r1 ∧ Rep y [] b r2 ∧ r = r1 ++ 45 :: r2 := by
  intro l r h
  induction h with
  | nil => intro a b e; cases a <;> cases e
  | @hit l r h ih =>
    intro a b e
    rcases List.append_eq_append_iff.mp e with ⟨a', e1, e2⟩ | ⟨b', e1, e2⟩
    · obtain ⟨r1, r2, q1, q2, q3⟩ := ih a' b e2
      exact ⟨r1, r2, by rw [e1]; exact Rep.hit (z := []) q1, q2, q3⟩
    · cases b' with
      | nil =>
        rw [List.nil_append] at e2
        rw [List.append_nil] at e1
        obtain ⟨r1, r2, q1, q2, q3⟩ := ih [] b (by rw [List.nil_append]; exact e2.symm)
        refine ⟨r1, r2, ?_, q2, q3⟩
        have := Rep.hit (y := y) (z := []) q1
        rw [List.append_nil, List.nil_append] at this
        rw [← e1]; exact this
      | cons d b' =>
        rw [List.cons_append] at e2
        injection e2 with e3 _
        exact absurd (by rw [e1, ← e3]; exact List.mem_append_right _ (.head _)) hy
  | @miss c l r hn h ih =>
    intro a b e
    cases a with
    | nil =>
      rw [List.nil_append] at e
      injection e with e1 e2
      subst e1 e2
      exact ⟨[], r, .nil, h, rfl⟩
    | cons d a =>
      rw [List.cons_append] at e
      injection e with e1 e2
      subst e1
      obtain ⟨r1, r2, q1, q2, q3⟩ := ih a b e2
      refine ⟨c :: r1, r2, .miss (fun hp => hn ?_) q1, q2, by rw [q3]; rfl⟩
      obtain ⟨t, ht⟩ := hp
      exact ⟨t ++ 45 :: b, by rw [← List.append_assoc, ht, e2]; rfl⟩
theorem rep_unique {y z : List Nat} (y0 : y ≠ []) : ∀ {l r : List Nat}, Rep y z l r → ∀ {r' : List Nat}, Rep y z l r' → r = r' := by
  intro l r h
  induction h with
  | nil =>
    intro r' h'
    generalize hl : ([] : List Nat) = l at h'
    cases h' with
    | nil => rfl
    | hit _ => exact absurd (List.append_eq_nil_iff.mp hl.symm).1 y0
    | miss _ _ => cases hl
  | @hit l r h ih =>
    intro r' h'
    generalize hl : y ++ l = l' at h'
    cases h' with
    | nil => exact absurd (List.append_eq_nil_iff.mp hl).1 y0
    | hit h2 =>
      have := List.append_cancel_left hl
      subst this
      rw [ih h2]
    | miss hn _ => exact absurd ⟨l, hl⟩ hn
  | @miss c l r hn h ih =>
    intro r' h'
    generalize hl : c :: l = l' at h'
    cases h' with
    | nil => cases hl
    | hit h2 => exact absurd ⟨_, hl.symm⟩ hn
    | miss _ h2 => injection hl with e1 e2; subst e1 e2; rw [ih h2]
end Mine

end PartPlainD

section PartPlainE
open PySem PySem.W PyProof.Rows PySem.Calls PySem.NumText
set_option maxRecDepth 100000
set_option maxHeartbeats 400000
namespace Mine
/-- the signs of a field -/
def AlphaC (c : Nat) : Prop := c < 128 ∧ c ≠ 0 ∧ Unicode.isSpace c = (Str.ofString " \t").cps.contains c
theorem takeWhile_eq {p q : Nat → Bool} : ∀ {l : List Nat}, (∀ c ∈ l, p c = q c) → l.takeWhile p = l.takeWhile q
  | [], _ => rfl
  | c :: l, h => by
    rw [List.takeWhile_cons, List.takeWhile_cons, h c (.head _), takeWhile_eq fun d hd => h d (.tail _ hd)]
theorem strip_eq {x : Str} (h : ∀ c ∈ x.cps.toList, AlphaC c) : Txt.strip x = Txt.stripChars x (Str.ofString " \t") := by
  have h' : ∀ c ∈ x.cps.toList, Unicode.isSpace c = (Str.ofString " \t").cps.contains c := fun c hc => (h c hc).2.2
  have e1 : stripLo Unicode.isSpace true x = stripLo (Str.ofString " \t").cps.contains true x := by
    unfold stripLo; rw [takeWhile_eq h']
  have e2 : ∀ lo, stripHi Unicode.isSpace true x lo = stripHi (Str.ofString " \t").cps.contains true x lo := by
    intro lo
    unfold stripHi
    rw [takeWhile_eq (l := (x.cps.toList.drop lo).reverse) fun c hc => h' c (List.mem_of_mem_drop (List.mem_reverse.mp hc))]
  unfold Txt.strip Txt.stripChars Txt.stripBy stripSame PySem.stripped
  rw [e1, e2]
theorem strip_mem {x : Str} {c : Nat} (h : c ∈ (Txt.strip x).cps.toList) : c ∈ x.cps.toList := by
  unfold Txt.strip Txt.stripBy at h
  split at h
  · exact h
  · unfold PySem.stripped at h
    rw [StrLaws.strSub_toList] at h
    exact List.mem_of_mem_drop (List.mem_of_mem_take h)
def joinL : List (List Nat) → List Nat
  | [] => []
  | [x] => x
  | x :: y :: r => x ++ 45 :: joinL (y :: r)
theorem join_eq : ∀ ts : List Str, (Txt.join (Str.ofString "-") ts).cps.toList = joinL (ts.map (·.cps.toList)) := by
  intro ts
  show (Builtin.Str.glued _ _).cps.toList = _
  rw [StrLaws.glued_eq_join]
  induction ts with
  | nil => rfl
  | cons x ts ih =>
    cases ts with
    | nil => rfl
    | cons y r =>
      show (x ++ Str.ofString "-" ++ Str.join (Str.ofString "-") (y :: r)).cps.toList = _
      simp only [Str.cps_append, Array.toList_append]
      rw [ih]
      show x.cps.toList ++ [45] ++ _ = x.cps.toList ++ 45 :: _
      simp
theorem joinL_mem : ∀ {gs : List (List Nat)} {c : Nat}, c ∈ joinL gs → c = 45 ∨ ∃ g ∈ gs, c ∈ g
  | [], _, h => by cases h
  | [x], _, h => .inr ⟨x, .head _, h⟩
  | x :: y :: r, c, h => by
    rcases List.mem_append.mp h with h | h
    · exact .inr ⟨x, .head _, h⟩
    · rcases List.mem_cons.mp h with h | h
      · exact .inl h
      · rcases joinL_mem h with h | ⟨g, hg, h⟩
        · exact .inl h
        · exact .inr ⟨g, .tail _ hg, h⟩
theorem clean_rep {f : Str} (h : ∀ c ∈ f.cps.toList, AlphaC c) : Rep UNK [] (Txt.strip f).cps.toList (cleanF f) := by
  have := rep_replace (Txt.strip f) (Str.ofString "unknown") (Str.ofString "") (by decide)
  rw [unk_eq, nil_eq] at this
  rw [strip_eq h] at this ⊢
  exact this
theorem runs_join : ∀ (fs : List Str), (∀ f ∈ fs, ∀ c ∈ f.cps.toList, AlphaC c) → ∀ r, Rep UNK [] (joinL (fs.map fun f => (Txt.strip f).cps.toList)) r → runsOf r = (fs.map fun f => runsOf (cleanF f)).flatten
  | [], _, r, h => by
    rw [rep_unique (by decide) h .nil]; rfl
  | [f], hA, r, h => by
    rw [rep_unique (by decide) h (clean_rep (hA f (.head _)))]; simp
  | f :: g :: fs, hA, r, h => by
    obtain ⟨r1, r2, q1, q2, rfl⟩ := rep_cut (by decide) h _ _ rfl
    rw [runs_sep (by decide), rep_unique (by decide) q1 (clean_rep (hA f (.head _))), runs_join (g :: fs) (fun x hx => hA x (.tail _ hx)) r2 q2]
    rfl
/-- the eight swaps -/
def swapM (c : Nat) : Nat := swapC 41 45 (swapC 40 45 (swapC 34 45 (swapC 59 45 (swapC 58 45 (swapC 92 45 (swapC 47 45 (swapC 32 95 c)))))))
theorem swapM_eq (c : Nat) : swapM c = if c = 32 then 95 else if c = 47 ∨ c = 92 ∨ c = 58 ∨ c = 59 ∨ c = 34 ∨ c = 40 ∨ c = 41 then 45 else c := by
  unfold swapM swapC
  by_cases h : c = 32
  · subst h; rfl
  by_cases h1 : c = 47
  · subst h1; rfl
  by_cases h2 : c = 92
  · subst h2; rfl
  by_cases h3 : c = 58
  · subst h3; rfl
  by_cases h4 : c = 59
  · subst h4; rfl
  by_cases h5 : c = 34
  · subst h5; rfl
  by_cases h6 : c = 40
  · subst h6; rfl
  by_cases h7 : c = 41
  · subst h7; rfl
  simp [h, h1, h2, h3, h4, h5, h6, h7]
theorem sep_iff (c : Nat) : sepB c = true ↔ c = 46 ∨ c = 95 ∨ c = 43 ∨ c = 45 ∨ c = 32 ∨ c = 47 ∨ c = 92 ∨ c = 58 ∨ c = 59 ∨ c = 34 ∨ c = 40 ∨ c = 41 := by
  unfold sepB; rw [List.contains_iff_mem]; simp
theorem four_iff (c : Nat) : sep4 c = true ↔ c = 46 ∨ c = 95 ∨ c = 43 ∨ c = 45 := by
  unfold sep4; rw [List.contains_iff_mem]; simp
theorem swapM_sep (c : Nat) (h : sepB c = true) : sepB (swapM c) = true := by
  rw [swapM_eq, sep_iff]
  rw [sep_iff] at h
  split
  · omega
  · split <;> omega
theorem swapM_other (c : Nat) (h : sepB c = false) : swapM c = c := by
  have h' : ¬ sepB c = true := by rw [h]; decide
  rw [sep_iff] at h'
  rw [swapM_eq, if_neg (by omega), if_neg (by omega)]
theorem swapM_name {c : Nat} (h : AlphaC c) : NameC (swapM c) := by
  have h1 := h.1
  have h2 := h.2.1
  refine ⟨?_, ?_, fun hs => ?_⟩
  · rw [swapM_eq]; split
    · omega
    · split <;> omega
  · rw [swapM_eq]; split
    · omega
    · split <;> omega
  · rw [four_iff]
    rw [sep_iff] at hs
    rw [swapM_eq] at hs ⊢
    split at hs
    · rw [if_pos (by assumption)]; omega
    · rename_i hc
      rw [if_neg hc]
      split at hs
      · rw [if_pos (by assumption)]; omega
      · rename_i hd
        rw [if_neg hd]; omega
theorem swapM_unk (c x : Nat) (hx : x ∈ UNK) : swapM c = x ↔ c = x := by
  simp only [List.mem_cons, List.not_mem_nil, or_false] at hx
  rw [swapM_eq]
  split
  · omega
  · split <;> omega
theorem clean_empty {f : Str} (h : neB f = false) : runsOf (cleanF f) = [] := by
  have hl : f.length = 0 := by unfold neB at h; simpa using h
  have hc : (cleanF f).length = 0 := by have := cleanF_len f; omega
  rw [List.eq_nil_of_length_eq_zero hc]; rfl
theorem plat_told {fs : List Str} {z : List Nat} (hA : ∀ f ∈ fs, ∀ c ∈ f.cps.toList, AlphaC c) (h : PlatR fs z) : (∀ c ∈ z, NameC c) ∧ runsOf z = (fs.map fun f => runsOf (cleanF f)).flatten := by
  obtain ⟨r0, r9, k, hrep, hcoll, rfl⟩ := h
  have hm : List.map (swapC 41 45) (List.map (swapC 40 45) (List.map (swapC 34 45) (List.map (swapC 59 45) (List.map (swapC 58 45) (List.map (swapC 92 45) (List.map (swapC 47 45)
      (List.map (swapC 32 95) (Txt.join (Str.ofString "-") ((fs.filter neB).map Txt.strip)).cps.toList))))))) = (joinL ((fs.filter neB).map fun f => (Txt.strip f).cps.toList)).map swapM := by
    rw [join_eq, List.map_map]
    simp only [List.map_map]
    rfl
  rw [hm, unk_eq, nil_eq] at hrep
  have hAf : ∀ f ∈ fs.filter neB, ∀ c ∈ f.cps.toList, AlphaC c := fun f hf => hA f (List.mem_filter.mp hf).1
  refine ⟨fun c hc => ?_, ?_⟩
  · have h45 : NameC 45 := by refine ⟨by decide, by decide, fun _ => by decide⟩
    rcases coll_mem hcoll (List.mem_append_left _ hc) with hc | rfl
    · rcases rep_mem hrep hc with hc | hc
      · obtain ⟨d, hd, rfl⟩ := List.mem_map.mp hc
        rcases joinL_mem hd with rfl | ⟨g, hg, hd⟩
        · exact h45
        · obtain ⟨f, hf, rfl⟩ := List.mem_map.mp hg
          exact swapM_name (hAf f hf d (strip_mem hd))
      · cases hc
    · exact h45
  · have e1 := coll_runs hcoll
    rw [runs_trail] at e1
    rw [e1]
    obtain ⟨r', q1, rfl⟩ := rep_map swapM_unk (by decide) hrep _ rfl
    have e2 : runsOf (r'.map swapM) = runsOf r' := by unfold runsOf; rw [runs_map swapM_sep swapM_other]
    rw [e2, runs_join _ hAf r' q1]
    clear hrep hm hAf hcoll e1 e2 q1 hA
    induction fs with
    | nil => rfl
    | cons f fs ih =>
      cases hb : neB f with
      | true => rw [List.filter_cons_of_pos hb, List.map_cons, List.map_cons, List.flatten_cons, List.flatten_cons, ih]
      | false => rw [List.filter_cons_of_neg (by rw [hb]; decide), List.map_cons, List.flatten_cons, clean_empty hb, List.nil_append, ih]
theorem emits_flat : ∀ l : List (List Run), emits l.flatten = (l.map emits).flatten
  | [] => rfl
  | x :: l => by rw [List.flatten_cons, emits_append, emits_flat l]; rfl
/-- the plain law: what the pieces of the name bring is what is told field by field -/
theorem plain_law {fs : List Str} {z : Str} (hA : ∀ f ∈ fs, ∀ c ∈ f.cps.toList, AlphaC c) (h : PlatR fs z.cps.toList) (hz : z.length ≤ 1000000) {full : List Str} (hs : SplitR z.cps 0 full) :
    (∃ es, PiecesK full es) ∧ ∀ es, PiecesK full es → es.flatten = toldOf fs := by
  obtain ⟨h1, h2⟩ := plat_told hA h
  obtain ⟨h3, h4⟩ := split_emits hz h1 hs (Nat.zero_le _)
  refine ⟨h3, fun es hes => ?_⟩
  rw [h4 es hes, List.drop_zero, h2, emits_flat, List.map_map]
  unfold toldOf
  rw [List.flatMap_def]
  rfl
end Mine

end PartPlainE

section PartPlainF
open PySem PySem.W PyProof.Rows PySem.Calls PySem.NumText
set_option maxRecDepth 100000
set_option maxHeartbeats 400000
namespace Mine
def alphaB (c : Nat) : Bool := decide (c < 128) && decide (c ≠ 0) && (Unicode.isSpace c == (Str.ofString " \t").cps.contains c)
theorem alpha_of {c : Nat} (h : alphaB c = true) : AlphaC c := by
  unfold alphaB at h
  simp only [Bool.and_eq_true, decide_eq_true_eq, beq_iff_eq] at h
  exact ⟨h.1.1, h.1.2, h.2⟩
theorem pieces_alpha : (pieces.all fun p => p.cps.toList.all alphaB) = true := by decide +kernel
theorem tail_alpha : (tailF.all fun p => p.cps.toList.all alphaB) = true := by decide +kernel
theorem pieceAt_alpha {x : Int} (h : ¬ x.fmod 32 > 29) : ∀ c ∈ (pieceAt x).cps.toList, AlphaC c := by
  intro c hc
  have hm := List.mem_of_getElem? (pieceAt_get h)
  exact alpha_of (List.all_eq_true.mp (List.all_eq_true.mp pieces_alpha _ hm) c hc)
/-- what holds of the row of fields under way -/
structure OkF (st : List Str × Str) (i : Nat) : Prop where
  all : ∀ f ∈ st.1, ∀ c ∈ f.cps.toList, AlphaC c
  last : ∀ c ∈ st.2.cps.toList, AlphaC c
  sum : (st.1.map (·.length)).sum + st.2.length ≤ 7 * i
  count : st.1.length ≤ i
theorem okF_step {st : List Str × Str} {i : Nat} {x : Int} (h : OkF st i) : OkF (stepF st x) (i + 1) := by
  unfold stepF
  split
  · refine ⟨fun f hf => ?_, fun c hc => by simp [show (Str.ofString "").cps.toList = [] from rfl] at hc, ?_, ?_⟩
    · rcases List.mem_append.mp hf with hf | hf
      · exact h.all f hf
      · rw [List.mem_singleton.mp hf]; exact h.last
    · have := h.sum
      simp only [List.map_append, List.map_cons, List.map_nil, List.sum_append, List.sum_cons, List.sum_nil, show (Str.ofString "").length = 0 from rfl]; omega
    · have := h.count
      simp only [List.length_append, List.length_cons, List.length_nil]; omega
  · rename_i hx
    have hp := pieceAt_len hx
    refine ⟨h.all, fun c hc => ?_, ?_, Nat.le_succ_of_le h.count⟩
    · rw [Str.cps_append, Array.toList_append] at hc
      rcases List.mem_append.mp hc with hc | hc
      · exact h.last c hc
      · exact pieceAt_alpha hx c hc
    · have := h.sum
      have e : (st.2 ++ pieceAt x).length = st.2.length + (pieceAt x).length := by
        show (st.2.cps ++ (pieceAt x).cps).size = _
        rw [Array.size_append]; rfl
      show (st.1.map (·.length)).sum + (st.2 ++ pieceAt x).length ≤ 7 * (i + 1)
      omega
theorem okF_fold : ∀ (ns : List Int) (st : List Str × Str) (i : Nat), OkF st i → OkF (ns.foldl stepF st) (i + ns.length)
  | [], _, _, h => h
  | x :: ns, st, i, h => by
    rw [List.foldl_cons, List.length_cons, show i + (ns.length + 1) = i + 1 + ns.length by omega]
    exact okF_fold ns _ _ (okF_step h)
theorem fields_ok (ns : List Int) : (∀ f ∈ fieldsOf ns, ∀ c ∈ f.cps.toList, AlphaC c) ∧ ((fieldsOf ns).map (·.length)).sum ≤ 7 * ns.length + 35 ∧ (fieldsOf ns).length ≤ ns.length + 4 := by
  have h0 : OkF ([], Str.ofString "") 0 := ⟨fun f hf => (by cases hf), fun c hc => by simp [show (Str.ofString "").cps.toList = [] from rfl] at hc, by decide, Nat.le_refl _⟩
  have h := okF_fold ns _ _ h0
  rw [Nat.zero_add] at h
  unfold fieldsOf
  refine ⟨fun f hf => ?_, ?_, ?_⟩
  · rcases List.mem_append.mp hf with hf | hf
    · rcases List.mem_append.mp hf with hf | hf
      · exact h.all f hf
      · rw [List.mem_singleton.mp hf]; exact h.last
    · intro c hc
      exact alpha_of (List.all_eq_true.mp (List.all_eq_true.mp tail_alpha _ hf) c hc)
  · have := h.sum
    have e : (tailF.map (·.length)).sum = 35 := by decide +kernel
    simp only [List.map_append, List.map_cons, List.map_nil, List.sum_append, List.sum_cons, List.sum_nil]
    omega
  · have := h.count
    have e : tailF.length = 3 := rfl
    simp only [List.length_append, List.length_cons, List.length_nil]; omega
theorem coll_len {l r : List Nat} (h : Coll l r) : r.length ≤ l.length := by
  induction h with
  | refl => exact Nat.le_refl _
  | step _ h ih => exact Nat.le_trans (rep_len (by decide) h) ih
theorem joinL_len : ∀ gs : List (List Nat), (joinL gs).length ≤ (gs.map List.length).sum + gs.length
  | [] => Nat.le_refl _
  | [x] => by simp [joinL]
  | x :: y :: r => by
    have := joinL_len (y :: r)
    simp only [joinL, List.length_append, List.length_cons, List.map_cons, List.sum_cons] at this ⊢
    omega
theorem strip_sum : ∀ fs : List Str, (((fs.filter neB).map fun f => (Txt.strip f).cps.toList).map List.length).sum ≤ (fs.map (·.length)).sum
  | [] => Nat.le_refl _
  | f :: fs => by
    have ih := strip_sum fs
    have hl : (Txt.strip f).cps.toList.length ≤ f.length := by
      rw [Array.length_toList]; exact len_strip f
    cases hb : neB f with
    | true => rw [List.filter_cons_of_pos hb]; simp only [List.map_cons, List.sum_cons]; omega
    | false => rw [List.filter_cons_of_neg (by rw [hb]; decide)]; simp only [List.map_cons, List.sum_cons]; omega
theorem plat_len {fs : List Str} {z : List Nat} (h : PlatR fs z) : z.length ≤ (fs.map (·.length)).sum + fs.length := by
  obtain ⟨r0, r9, k, hrep, hcoll, rfl⟩ := h
  have h1 := rep_len (by decide) hrep
  have h2 := coll_len hcoll
  simp only [List.length_map, List.length_append, join_eq] at h1 h2
  have h3 := joinL_len (((fs.filter neB).map Txt.strip).map (·.cps.toList))
  have h4 := strip_sum fs
  have h5 := List.length_filter_le neB fs
  simp only [List.map_map, List.length_map] at h3 h4
  have e : (List.map (List.length ∘ (fun x => x.cps.toList) ∘ Txt.strip) (fs.filter neB)) = List.map (List.length ∘ fun f => (Txt.strip f).cps.toList) (fs.filter neB) := rfl
  rw [e] at h3
  simp only [List.map_map] at h1
  omega
theorem sum_take (fs : List Str) (k : Nat) : ((fs.take k).map (·.length)).sum ≤ (fs.map (·.length)).sum := by
  have := congrArg (fun l => (List.map (fun x : Str => x.length) l).sum) (List.take_append_drop k fs)
  simp only [List.map_append, List.sum_append] at this
  omega
theorem sum_drop (fs : List Str) (k : Nat) : ((fs.drop k).map (·.length)).sum ≤ (fs.map (·.length)).sum := by
  have := congrArg (fun l => (List.map (fun x : Str => x.length) l).sum) (List.take_append_drop k fs)
  simp only [List.map_append, List.sum_append] at this
  omega
theorem len_le_sum : ∀ {fs : List Str} {f : Str}, f ∈ fs → f.length ≤ (fs.map (·.length)).sum
  | g :: fs, f, h => by
    rw [List.map_cons, List.sum_cons]
    rcases List.mem_cons.mp h with rfl | h
    · omega
    · have := len_le_sum h; omega
end Mine

end PartPlainF

section PartLaw1
open PySem PySem.W PyProof.Rows PySem.Calls
set_option maxRecDepth 100000
set_option pp.maxSteps 3000
set_option maxHeartbeats 0
namespace Mine
theorem in_gone {p : Params} {h : Heap} (X : (hd.heap_39 p).In h) : (hd.heap_39 p).In (TI.gone h [46]) := by
  intro a o e
  have hne : a ≠ 46 := by
    intro z
    rw [z] at e
    have : List.lookup 46 (hd.heap_39 p) = none := by kernel_rfl
    rw [this] at e; cases e
  rw [TI.gone_get (fun hm => hne (List.mem_singleton.mp hm))]
  exact X a o e
theorem ns_gone {h : Heap} {a b : Addr} {m : Str → Option Value} (n : h.Ns a m) (hne : a ≠ b) : (TI.gone h [b]).Ns a m :=
  n.at' fun _ e => (TI.gone_get (fun hm => hne (List.mem_singleton.mp hm))).trans e
theorem top_gone {p : Program} {loose : List Str} {mg mb : Str → Option Value} {h : Heap} {b : Addr} (T : TopRead p loose mg mb h) (h1 : mainGlobals ≠ b) (h2 : builtinsNs ≠ b) (h3 : cStatics ≠ b) : TopRead p loose mg mb (TI.gone h [b]) := by
  obtain ⟨mc, n1, n2⟩ := T.nolimit
  exact ⟨ns_gone T.g h1, ns_gone T.b h2, ⟨mc, ns_gone n1 h3, n2⟩, T.builtins, T.free⟩
theorem gone_keep {h : Heap} {a : Addr} : ∀ b o, (TI.gone h [a]).get? b = some o → h.get? b = some o := fun _ _ e => (TI.gone_some e).2
theorem gone_full {h : Heap} {a : Addr} : ∀ b o, b ≠ a → h.get? b = some o → (TI.gone h [a]).get? b = some o := fun b o hne e => (TI.gone_get (fun hm => hne (List.mem_singleton.mp hm))).trans e
theorem gone_at {h : Heap} {a : Addr} : (TI.gone h [a]).get? a = none := TI.gone_none (List.mem_singleton.mpr rfl)
theorem gone_size {h : Heap} {a : Addr} : (TI.gone h [a]).objs.size = h.objs.size := by
  show (h.update a _).objs.size = _
  exact Heap.size_after_update ..
end Mine

end PartLaw1

section PartLaw2
open PySem PySem.W PyProof.Rows PySem.Calls
set_option maxRecDepth 100000
set_option maxHeartbeats 400000
namespace Mine
def datR : Run → PyData
  | .num n => .int n
  | .txt l => .str ⟨l.toArray⟩
theorem runs_read {h : Heap} : ∀ {rs : List Run} {vs : List Value}, RunsAre rs vs → ReadsAll h vs (rs.map datR) []
  | [], [], _ => .nil
  | r :: rs, v :: vs, x => by
    have q := runs_read (h := h) x.2
    have r1 : Reads h v (datR r) [] := by
      cases r with
      | num n => obtain ⟨t, e⟩ := x.1; rw [e]; exact .int _ _
      | txt l => obtain ⟨t, e⟩ := x.1; rw [e]; exact .str _ _
    exact readsAll_cons_val r1 q
  | [], _ :: _, x => x.elim
  | _ :: _, [], x => x.elim
def RunOk : Run → Prop
  | .num _ => True
  | .txt l => ∀ c ∈ l, c < 128
theorem runs_lay : ∀ rs : List Run, (∀ r ∈ rs, RunOk r) → PyData.canLayAll0 (rs.map datR) = true
  | [], _ => rfl
  | r :: rs, h => by
    have ih := runs_lay rs fun q hq => h q (.tail _ hq)
    cases r with
    | num n => simp [PyData.canLayAll0, PyData.canLay0, datR, ih]
    | txt l =>
      have hl : PyData.strOk ⟨l.toArray⟩ = true := by
        unfold PyData.strOk
        rw [Array.all_eq_true']
        intro c hc
        have h1 : ∀ c ∈ l, c < 128 := h _ (.head _)
        have h2 := h1 c (by simpa using hc)
        simp only [decide_eq_true_eq]; omega
      simp [PyData.canLayAll0, PyData.canLay0, datR, ih, hl]
theorem step_ok {st : List Run × Nat} {c : Nat} (hc : c < 128) (h : ∀ r ∈ st.1, RunOk r) : ∀ r ∈ (stepR st c).1, RunOk r := by
  unfold stepR
  split
  · exact h
  split
  · show ∀ r ∈ (if st.2 = 1 then bump st.1 c else st.1 ++ [.num (c - 48)]), RunOk r
    split
    · unfold bump
      split
      · intro r hr
        rcases List.mem_append.mp hr with hr | hr
        · exact h r (List.dropLast_subset _ hr)
        · rw [List.mem_singleton.mp hr]; trivial
      · exact h
    · intro r hr
      rcases List.mem_append.mp hr with hr | hr
      · exact h r hr
      · rw [List.mem_singleton.mp hr]; trivial
  · show ∀ r ∈ (if st.2 = 2 then grow st.1 c else st.1 ++ [.txt [c]]), RunOk r
    split
    · unfold grow
      split
      · rename_i l hl
        intro r hr
        rcases List.mem_append.mp hr with hr | hr
        · exact h r (List.dropLast_subset _ hr)
        · rw [List.mem_singleton.mp hr]
          intro d hd
          rcases List.mem_append.mp hd with hd | hd
          · exact (h (.txt l) (List.mem_of_getLast? hl) : ∀ c ∈ l, c < 128) d hd
          · rw [List.mem_singleton.mp hd]; exact hc
      · exact h
    · intro r hr
      rcases List.mem_append.mp hr with hr | hr
      · exact h r hr
      · rw [List.mem_singleton.mp hr]
        intro d hd
        rw [List.mem_singleton.mp hd]; exact hc
theorem fold_ok : ∀ (t : List Nat) (st : List Run × Nat), (∀ c ∈ t, c < 128) → (∀ r ∈ st.1, RunOk r) → ∀ r ∈ (t.foldl stepR st).1, RunOk r
  | [], _, _, h => h
  | c :: t, _, hc, h => by
    rw [List.foldl_cons]
    exact fold_ok t _ (fun d hd => hc d (.tail _ hd)) (step_ok (hc c (.head _)) h)
theorem told_ok {fs : List Str} (hA : ∀ f ∈ fs, ∀ c ∈ f.cps.toList, AlphaC c) : ∀ r ∈ toldOf fs, RunOk r := by
  intro r hr
  unfold toldOf emits at hr
  obtain ⟨f, hf, hr⟩ := List.mem_flatMap.mp hr
  obtain ⟨q, hq, hr⟩ := List.mem_flatMap.mp hr
  have h1 : RunOk q := by
    refine fold_ok (cleanF f) ([], 0) (fun c hc => ?_) (fun _ h => by cases h) q hq
    rcases rep_mem (clean_rep (hA f hf)) hc with h | h
    · exact (hA f hf c (strip_mem h)).1
    · cases h
  cases q with
  | num n =>
    simp only [emitR, List.mem_cons, List.not_mem_nil, or_false] at hr
    rcases hr with rfl | rfl <;> trivial
  | txt l =>
    simp only [emitR, List.mem_cons, List.not_mem_nil, or_false] at hr
    rcases hr with rfl | rfl
    · trivial
    · exact h1
theorem runs_depth : ∀ rs : List Run, PyData.depthAll (rs.map datR) = 0
  | [] => rfl
  | r :: rs => by cases r <;> simp [PyData.depthAll, PyData.depth, datR, runs_depth rs]
theorem runs_shaped (rs : List Run) (h : ∀ r ∈ rs, RunOk r) : SeqAt.shaped (.list (rs.map datR)) = true := by
  simp [SeqAt.shaped, PyData.canLay0, PyData.depth, runs_lay rs h, runs_depth]
theorem runs_eqv : ∀ rs : List Run, PyData.eqvAll (rs.map datR) (rs.map datR) = true
  | [] => by simp [PyData.eqvAll]
  | r :: rs => by cases r <;> simp [PyData.eqvAll, PyData.eqv, datR, runs_eqv rs]
section
variable {prog : Program} {w : World} {A : Around} {E : Value → Shared → Prop} {s : Shared}
theorem ne_runs {a b : Addr} {vs ws : List Value} {rs : List Run} {Q : Value → Shared → Prop} (ha : s.heap.IsList a vs.toArray) (hb : s.heap.IsList b ws.toArray) (hi : RunsAre rs vs) (hj : RunsAre rs ws) (hok : ∀ r ∈ rs, RunOk r) (hu : A.units + 64 < cLine) (h : Q (.bool false) s) :
    wpAny (model prog w) A (compareOp .NotEq (.ref a) (.ref b)) Q E s := by
  obtain ⟨oa, a1, a2, n, a3⟩ := ha
  obtain ⟨ob, b1, b2, n', b3⟩ := hb
  refine ne_dataH (reads_list_at a1 a2 a3 (by simpa using runs_read hi)) (reads_list_at b1 b2 b3 (by simpa using runs_read hj)) (runs_shaped rs hok) (runs_shaped rs hok) hu ?_
  have e : PyData.eqv (.list (rs.map datR)) (.list (rs.map datR)) = true := by simp only [PyData.eqv, runs_eqv]
  rw [e]
  exact h
end
/-- the caller's frame has changed its slots alone -/
theorem fr_slots {hb h h' : Heap} {L : Addr} {m : Str → Option Value} {oL : Obj} {sl : Array (Option Value)} (F : Fr hb L h m) (ho : h.get? L = some oL) (hk : ∀ b o, b ≠ L → h.get? b = some o → h'.get? b = some o) (hL : h'.get? L = some { oL with slots := sl }) : Fr hb L h' m := by
  obtain ⟨o, es, ep, q, hd, r⟩ := F.ns
  rw [ho] at q; cases q
  exact ⟨⟨_, es, ep, hL, hd, r⟩, fun b o e => hk b o (Nat.ne_of_lt (Nat.lt_of_lt_of_le (Heap.lt_size e) F.above)) (F.keep b o e), F.above⟩
theorem news_slots {hb h h' : Heap} {L : Addr} {news : List (Addr × Obj)} (N : News hb L h news) (hk : ∀ b o, b ≠ L → h.get? b = some o → h'.get? b = some o) : News hb L h' news :=
  fun p hp => ⟨hk _ _ (N p hp).2.1 (N p hp).1, (N p hp).2⟩
end Mine
namespace Mine
theorem callC_fn {M : Model} {A : Around} {E : Value → Shared → Prop} {s : Shared} {pos : Pos} {a : Addr} {first : List Value} {args : List (Bool × Sem Value)} {Q : Value → Shared → Prop}
    (h : wpAny M A (evalArgs (.ref a) true args []) (fun x s₁ => (∃ o fd, s₁.heap.get? a = some o ∧ o.data = .func fd) ∧ wpC M A (call (.ref a) (first ++ x.pos) x.kw) Q E s₁) E s) :
    wpC M A (callWith pos (.ref a) first args []) Q E s := by
  unfold callWith
  refine wpC_step (wpAny_holding (wpAny_mono h (fun x s₁ h₁ => wpC_step (wpAny_standAt ?_)) fun _ _ x => x))
  obtain ⟨⟨o, fd, ha, hd⟩, h₂⟩ := h₁
  have tail : ∀ {t : Sem Value}, wpC M A t Q E s₁ → wpC M A (t >>= fun r => holding [r] point >>= fun _ => pure r) Q E s₁ :=
    fun ht => wpC_bind (wpC_mono ht (fun r s₂ hr => wpC_step (wpAny_holding (wpAny_point (wpC_pure hr)))) fun _ _ x => x)
  have kp : wpAny M A (keeperOf (.ref a)) (fun k s₂ => k = .frame ∧ s₂ = s₁) E s₁ := by
    unfold keeperOf
    refine wpAny_bind (wpAny_load ha ?_)
    rw [hd]; exact wpAny_pure ⟨rfl, rfl⟩
  refine wpC_step (wpAny_mono kp (fun k s₂ z => ?_) fun _ _ z => z)
  obtain ⟨rfl, rfl⟩ := z
  cases hs : args.any (·.1) <;> simp only [List.any_nil, Bool.or_false]
  · split
    · exact tail h₂
    · exact tail (by unfold callMarked; exact wpC_keep h₂)
  · exact tail (by unfold callMarked; exact wpC_keep h₂)
theorem evalArgs1 {M : Model} {A : Around} {E : Value → Shared → Prop} {s : Shared} {env : Env} {Q : Args → Shared → Prop} {f : Value} {pos : Pos} {e₁ : PySem.Expr} (h : wpAny M A (eval e₁ env) (fun v s₁ => Q ⟨[v], []⟩ s₁) E s)
    (ha : backTo pos (starEach [e₁] env) = [(false, eval e₁ env)] := by rfl) : wpAny M A (evalArgs f true (backTo pos (starEach [e₁] env)) []) Q E s := by
  rw [ha]
  exact Calls.evalArgs_plain (Calls.spliced_cons (wpAny_mono h (fun _ _ q => Calls.spliced_nil q) fun _ _ z => z))
end Mine

end PartLaw2

section PartLaw3
open PySem PySem.W PyProof.Rows PySem.Calls
set_option maxRecDepth 100000
set_option pp.maxSteps 3000
set_option maxHeartbeats 0
namespace Mine
abbrev tabOf (more : Array Value) : Obj := { cls := .none, data := .fields more }
/-- _comparable_version(_platform(*fields)) -/
theorem pair_call {w : World} {A : Around} {s : Shared} {mg mb : Str → Option Value} {hb : Heap} {bm : Addr} {ob : Obj} {L : Addr} {m : Str → Option Value} {rest : List (Addr × Obj)} {ps : Array Value} {fs : List Str} {vals : List Value}
    {Q : Value → Shared → Prop} {E : Value → Shared → Prop} {env : Env}
    (X : (hd.heap_39 w.params).In hb) (T : TopRead hd.view_39 Loose mg mb hb) (BM : BMod hb mainGlobals mg bm ob)
    (h46 : hb.get? 46 = none) (F : Fr hb L s.heap m) (N : News hb L s.heap rest) (hr : ∀ p ∈ rest, p.1 ≠ 46) (hL46 : L ≠ 46)
    (hcode : s.heap.IsCode 50 46 ps) (htab : s.heap.TableAt 50 46 ps) (hG : AllBare s.gens)
    (hi : StrsAre fs vals) (hA : ∀ f ∈ fs, ∀ c ∈ f.cps.toList, AlphaC c) (hsum : (fs.map (·.length)).sum ≤ 200) (hfn : fs.length ≤ 100)
    (hfr : A.frames = some [env]) (hek : env.scope.kind ≠ .module) (hef : env.frame = some L) (hroom : A.depth < 800) (hh : A.handled = none)
    (h : ∀ h' g k a oa n (vs : List Value) more, Fr hb L h' m → News hb L h' ((a, oa) :: (46, tabOf more) :: rest) → a ≠ 46 → oa.cls = .type "list" → oa.data = .seq vs.toArray n → RunsAre (toldOf fs) vs →
      h'.IsCode 50 46 more → h'.TableAt 50 46 more → AllBare g → Q (.ref a) { s with heap := h', gens := g, toks := k }) :
    wpAny (model PySem.Challenge.rw_ny0464_01.row.prog w) A (call (.ref 51) vals)
      (fun v s₁ => (∃ o fd, s₁.heap.get? 44 = some o ∧ o.data = .func fd) ∧ wpC (model PySem.Challenge.rw_ny0464_01.row.prog w) A (call (.ref 44) [v]) Q E s₁) E s := by
  have X0 := X
  revert X; k_fill; intro X
  have h44 : ∃ o fd, hb.get? 44 = some o ∧ o.data = .func fd := ⟨_, _, X 44 _ (by k_is), rfl⟩
  obtain ⟨o44, fd44, e44, d44⟩ := h44
  have n46 : ∀ b o, hb.get? b = some o → b ≠ 46 := fun b o e z => by rw [z, h46] at e; cases e
  have hbk : ∀ b o, hb.get? b = some o → (TI.gone s.heap [46]).get? b = some o := fun b o e => gone_full b o (n46 b o e) (F.keep b o e)
  refine wpAny_call (plat_call (hb := TI.gone s.heap [46]) gone_keep (by rw [gone_size]; exact Nat.le_refl _) gone_at gone_full (X0.keeps hbk) (T.keeps hbk) (BM.keeps hbk) hcode htab hi (fun f hf => by have := len_le_sum hf; omega) hfn hroom hh hG ?_)
  intro h₁ k₁ g t z more hP hz hk₁ hcode₁ htab₁ hG₁
  dsimp only
  have F₁ : Fr hb L h₁ m := ⟨F.ns.at' fun o e => hk₁ L o hL46 e, fun b o e => hk₁ b o (n46 b o e) (F.keep b o e), F.above⟩
  have N₁ : News hb L h₁ ((46, tabOf (ps ++ more)) :: rest) := by
    intro p hp
    rcases List.mem_cons.mp hp with rfl | hp
    · exact ⟨htab₁.2, fun e => hL46 e.symm, h46⟩
    · exact ⟨hk₁ _ _ (hr p hp) (N p hp).1, (N p hp).2⟩
  have hLn : hb.get? L = none := by
    cases q : hb.get? L with
    | none => rfl
    | some o => exact absurd (Heap.lt_size q) (Nat.not_lt.mpr F.above)
  have nL : ∀ b o, hb.get? b = some o → b ≠ L := fun b o e z => by rw [z, hLn] at e; cases e
  have hbk₁ : ∀ b o, hb.get? b = some o → (TI.gone h₁ [L]).get? b = some o := fun b o e => gone_full b o (nL b o e) (F₁.keep b o e)
  have hzl : z.length ≤ 600 := by
    have := plat_len hP
    rw [Array.length_toList] at this
    show z.cps.size ≤ 600
    omega
  obtain ⟨oL, es, ep, hoL, hdL, _⟩ := F₁.ns
  refine ⟨⟨o44, fd44, F₁.keep _ _ e44, d44⟩, wpC_call (cmp_call (hb := TI.gone h₁ [L]) (Lw := L) (oL := oL) gone_keep (by rw [gone_size]; exact Nat.le_refl _) gone_at (X0.keeps hbk₁) (T.keeps hbk₁) hoL ⟨es, ep, hdL⟩ hfr hek hef hroom hzl (fun full hs => (plain_law hA hP (by omega) hs).1) hh ?_)⟩
  intro h₂ k₂ a vs sl full es' hk₂ hL₂ han haL hal hsp hpc hrs
  dsimp only
  have hk₂' : ∀ b o, b ≠ L → h₁.get? b = some o → h₂.get? b = some o := fun b o hne e => hk₂ b o (gone_full b o hne e)
  have F₂ : Fr hb L h₂ m := fr_slots F₁ hoL hk₂' hL₂
  have N₂ := news_slots N₁ hk₂'
  obtain ⟨oa, ha1, ha2, n, ha3⟩ := hal
  have ha46 : a ≠ 46 := fun e => by
    have := gone_full _ _ (fun z => hL46 z.symm) htab₁.2 (a := L)
    rw [← e, han] at this; cases this
  have hab : hb.get? a = none := by
    cases q : hb.get? a with
    | none => rfl
    | some o => have := hbk₁ _ _ q; rw [han] at this; cases this
  have hL50 : (50 : Addr) ≠ L := fun z => by
    obtain ⟨o, vs, file, tf, flags, tg, inF, text, tt, op, b1, r1, _⟩ := hcode₁
    rw [z, hoL] at b1
    cases b1
    rw [hdL] at r1; cases r1
  refine h h₂ g k₂ a oa n vs (ps ++ more) F₂ ?_ ha46 ha2 ha3 ?_ ?_ ?_ hG₁
  · intro p hp
    rcases List.mem_cons.mp hp with rfl | hp
    · exact ⟨ha1, haL, hab⟩
    · exact N₂ p hp
  · rw [(plain_law hA hP (by omega) hsp).2 es' hpc] at hrs
    exact hrs
  · obtain ⟨o, vs, file, tf, flags, tg, inF, text, tt, op, b1, r1, r2, r3, r4, r5, r6, b2, r⟩ := hcode₁
    exact ⟨o, vs, file, tf, flags, tg, inF, text, tt, op, hk₂' 50 o hL50 b1, r1, r2, r3, r4, r5, r6, hk₂' _ _ (fun z => hL46 z.symm) b2, r⟩
  · obtain ⟨⟨o, vs, e1, e2, e3, e4⟩, e5⟩ := htab₁
    exact ⟨⟨o, vs, hk₂' 50 o hL50 e1, e2, e3, e4⟩, hk₂' _ _ (fun z => hL46 z.symm) e5⟩
end Mine

end PartLaw3

section PartFlaw
open PySem PySem.W PyProof.Rows PySem.Calls
set_option maxRecDepth 100000
set_option pp.maxSteps 3000
set_option maxHeartbeats 0
namespace Mine
section
local macro_rules | `(tactic| walk_at "GO") => `(tactic| (repeat' (first | (k_unfold; (try dsimp only)) | (walk1; try dsimp only) | (dsimp only; walk1))))
local macro_rules | `(tactic| walk_at "eval Name") => `(tactic| (refine ld (by assumption) (by first | with_reducible rfl | rfl | assumption) ?_))
theorem isCode_move {h h' : Heap} {ps ps' : Array Value} (x : h.IsCode 50 46 ps) (h50 : ∀ o, h.get? 50 = some o → h'.get? 50 = some o) (h46 : h'.get? 46 = some { cls := .none, data := .fields ps' }) (ht : TriplesOk ps'.toList) : h'.IsCode 50 46 ps' := by
  obtain ⟨o, vs, file, tf, flags, tg, inF, text, tt, op, b1, r1, r2, r3, r4, r5, r6, _, _, _, r⟩ := x
  exact ⟨o, vs, file, tf, flags, tg, inF, text, tt, _, h50 o b1, r1, r2, r3, r4, r5, r6, h46, rfl, ht, r⟩
theorem tableAt_move {h h' : Heap} {ps ps' : Array Value} (x : h.TableAt 50 46 ps) (h50 : ∀ o, h.get? 50 = some o → h'.get? 50 = some o) (h46 : h'.get? 46 = some { cls := .none, data := .fields ps' }) : h'.TableAt 50 46 ps' := by
  obtain ⟨⟨o, vs, e1, e2, e3, e4⟩, _⟩ := x
  exact ⟨⟨o, vs, h50 o e1, e2, e3, e4⟩, h46⟩
theorem code_at {h₀ hb h : Heap} {L : Addr} {m : Str → Option Value} {ps more : Array Value} (hup : ∀ b o, b ≠ 46 → h₀.get? b = some o → hb.get? b = some o) (x : h₀.IsCode 50 46 ps) (F : Fr hb L h m) (h46 : h.get? 46 = some (tabOf more)) (ht : TriplesOk more.toList) : h.IsCode 50 46 more :=
  isCode_move x (fun o e => F.keep _ _ (hup 50 o (by decide) e)) h46 ht
theorem table_at {h₀ hb h : Heap} {L : Addr} {m : Str → Option Value} {ps more : Array Value} (hup : ∀ b o, b ≠ 46 → h₀.get? b = some o → hb.get? b = some o) (x : h₀.TableAt 50 46 ps) (F : Fr hb L h m) (h46 : h.get? 46 = some (tabOf more)) : h.TableAt 50 46 more :=
  tableAt_move x (fun o e => F.keep _ _ (hup 50 o (by decide) e)) h46
theorem triples_of {h : Heap} {ps : Array Value} (x : h.IsCode 50 46 ps) : TriplesOk ps.toList := by
  obtain ⟨o, vs, file, tf, flags, tg, inF, text, tt, op, b1, r1, r2, r3, r4, r5, r6, _, _, r, _⟩ := x
  exact r
theorem ne46 {h : Heap} {a : Addr} {o : Obj} {T : String} {more : Array Value} (h46 : h.get? 46 = some (tabOf more)) (ho : h.get? a = some o) (hc : o.cls = .type T) : a ≠ 46 := fun e => by
  rw [e, h46] at ho; cases ho; cases hc
abbrev itO (i n : Nat) : Obj := { cls := .type "range_iterator", dict := none, data := .fields #[rawInt (0 + (i : Nat) * 1), rawInt ((n : Int) - (i : Nat)), rawInt 1], slots := #[] }
/-- what holds before a turn of law's loop -/
def LawJ (s : Shared) (hb : Heap) (L du fl I : Addr) (odu ofl : Obj) (n : Nat) (i : Nat) (s' : Shared) : Prop :=
  ∃ h g tk m more, s' = { s with heap := h, gens := g, toks := tk } ∧ Fr hb L h m ∧ News hb L h [(du, odu), (fl, ofl), (I, { cls := .type "range_iterator", dict := none, data := .fields #[rawInt (0 + (i : Nat) * 1), rawInt ((n : Int) - (i : Nat)), rawInt 1], slots := #[] }), (46, { cls := .none, data := .fields more })] ∧
    m (Str.ofString "fields") = some (.ref fl) ∧ m (Str.ofString "due") = some (.ref du) ∧ AllBare g ∧ TriplesOk more.toList
theorem law_walk {w : World} {s : Shared} {mg mb : Str → Option Value} {bm : Addr} {ob : Obj} {l : Addr} {vs : List Value} {ns : List Int} {Q : Value → Shared → Prop}
    (X : (hd.heap_39 w.params).In s.heap) (T : TopRead hd.view_39 Loose mg mb s.heap) (BM : BMod s.heap mainGlobals mg bm ob) (htab : s.heap.TableAt 50 46 #[]) (hcode : s.heap.IsCode 50 46 #[])
    (hl : s.heap.IsList l vs.toArray) (hi : IntsAre vs ns) (hn : ns.length ≤ 63) (hg : AllBare s.gens)
    (h : ∀ h' g k more, (∀ b o, b ≠ 46 → s.heap.get? b = some o → h'.get? b = some o) → h'.TableAt 50 46 more → AllBare g → Q (.bool true) { s with heap := h', gens := g, toks := k }) :
    wpC (model PySem.Challenge.rw_ny0464_01.row.prog w) callerA (call (.ref 79) [.ref l]) Q (fun _ _ => False) s := by
  have h46 := htab.2
  have n1 : mainGlobals ≠ 46 := by decide
  have n2 : builtinsNs ≠ 46 := by decide
  have n3 : cStatics ≠ 46 := by decide
  have X₀ := in_gone X
  have T₀ := top_gone T n1 n2 n3
  revert X X₀; k_fill; intro X X₀
  refine wpC_call (callC_plain (a := 79) (binds := [(Str.ofString "script", .ref l)]) (by decide) (X 79 _ (by k_is)) rfl T.nolimit (codeRec_of X (by k_is)) (by rfl) (locs (by rfl)) ?_)
  intro h₁ F₁
  have F : Fr (TI.gone s.heap [46]) s.heap.objs.size h₁ _ := ⟨F₁.ns, fun b o e => F₁.keep b o (gone_keep b o e), by rw [gone_size]; exact Nat.le_refl _⟩
  have N : News (TI.gone s.heap [46]) s.heap.objs.size h₁ [(46, { cls := .none, data := .fields #[] })] := by
    intro p hp
    rw [List.mem_singleton.mp hp]
    exact ⟨F₁.keep _ _ h46, Nat.ne_of_lt (Heap.lt_size h46), gone_at⟩
  have hlne : l ≠ 46 := fun e => by
    obtain ⟨ol, ho, hc, _⟩ := hl
    rw [e, h46] at ho; cases ho; cases hc
  have hl₀ : (TI.gone s.heap [46]).IsList l vs.toArray := hl.at fun o e => gone_full _ _ hlne e
  clear F₁
  have BM₀ : BMod (TI.gone s.heap [46]) mainGlobals mg bm ob := ⟨T₀.g, BM.name, BM.ne, gone_full _ _ (BM.apart htab).2 BM.obj, BM.cls, BM.dict, BM.data⟩
  have hn46 : (TI.gone s.heap [46]).get? 46 = none := gone_at
  have hL46 : s.heap.objs.size ≠ 46 := Nat.ne_of_gt (Heap.lt_size h46)
  generalize hLe : s.heap.objs.size = L at *
  generalize hbe : TI.gone s.heap [46] = hb at *
  w_on
  refine wpC_execs_any ?_
  walk_at "GO"
  have hvl := hi.length
  refine' kmk_slice_lit (s := ⟨_, _, _, _, _⟩) (zs := vs.take 14) ?F ?N ?l ?p ?q ?e ?_ ?s ?t ?z
  case F => exact F
  case N => exact N
  case l => exact hl₀.at fun o e => F.keep _ _ e
  case p => exact IsPart.none
  case q => exact IsPart.int _ _
  case e => rw [show (14 : Int) = ((14 : Nat) : Int) from rfl, slicePick_upto']
  case s => with_unfolding_all rfl
  case t => intro _; with_unfolding_all rfl
  case z => rw [sizeLine_eq]; simp only [List.size_toArray]; omega
  intro D h₂ F₂ N₂ hlt
  clear F N
  walk_at "GO"
  refine wpAny_call (fields_call (ns := ns.take 14) (X₀.keeps F₂.keep) (T₀.keeps F₂.keep) (show callerA.depth + 1 < 900 by decide) (News.list N₂ (.head _)) (hi.take 14) (by simp; omega) rfl ?_)
  intro h₃ k₃ fl ws hst hfn hfl hws
  dsimp only
  have F₃ := F₂.grownK hst
  have N₃ := N₂.grown hst
  obtain ⟨ofl, hofl, hofc, nfl, hofd⟩ := id hfl
  have hnew : ∀ {h h' : Heap} {m : Str → Option Value} {a : Addr}, Fr hb L h m → h.get? a = none → a ≠ L ∧ hb.get? a = none := by
    intro h h' m a F e
    refine ⟨fun z => ?_, ?_⟩
    · obtain ⟨_, _, _, q, _⟩ := F.ns
      rw [z] at e; rw [e] at q; cases q
    · cases q : hb.get? a with
      | none => rfl
      | some o => have := F.keep _ _ q; rw [e] at this; cases this
  have N₃' : News hb L h₃ ((fl, ofl) :: [(D, W.listOf (vs.take 14).toArray 0), (46, { cls := .none, data := .fields #[] })]) := by
    intro p hp
    rcases List.mem_cons.mp hp with rfl | hp
    · exact ⟨hofl, hnew (h' := h₃) F₂ hfn⟩
    · exact N₃ p hp
  clear N₃ F₂ N₂
  walk_at "GO"
  rename Fr _ _ _ _ => F₄
  rename News _ _ _ _ => N₄
  refine wpC_execs_any ?_
  walk_at "GO"
  have hfo := fields_ok (ns.take 14)
  have hnl : (ns.take 14).length ≤ 14 := by simp; omega
  refine wpAny_call (told_call (fs := fieldsOf (ns.take 14)) (vs := ws) (X₀.keeps F₄.keep) (T₀.keeps F₄.keep) (show callerA.depth + 1 < 800 by decide) ⟨ofl, (N₄ _ (.head _)).1, hofc, nfl, hofd⟩ hws (fun f hf => by have := len_le_sum hf; omega) (by omega) rfl ?_)
  intro h₅ k₅ du dv hst₅ hdn hdu hdv
  dsimp only
  obtain ⟨odu, hodu, hodc, ndu, hodd⟩ := id hdu
  have N₅ : News hb L h₅ [(du, odu), (fl, ofl), (D, W.listOf (vs.take 14).toArray 0), (46, { cls := .none, data := .fields #[] })] := by
    intro p hp
    rcases List.mem_cons.mp hp with rfl | hp
    · exact ⟨hodu, hnew (h' := h₅) F₄ hdn⟩
    · exact N₄.grown hst₅ p hp
  have F₅ := F₄.grownK hst₅
  clear N₄
  walk_at "GO"
  rename Fr _ _ _ _ => F₆
  rename News _ _ _ _ => N₆
  refine wpC_execs_cons (wpC_For ?_)
  walk_at "GO"
  have hwl := hws.length
  refine call_len_list (items := ws.toArray) ⟨ofl, (N₆ _ (.tail _ (.head _))).1, hofc, nfl, hofd⟩ (by simp only [List.size_toArray]; omega) ?_
  walk_at "GO"
  rename IsRange _ _ _ _ _ _ _ _ => hr
  rename Fr _ _ _ _ => F₇
  rename News _ _ _ _ => N₇
  rename_i h₇ tk₇ _ _ _ hk₇
  refine wpAny_pyIter_range hr (small_one (by decide) (by decide) (by omega) (by omega)) ?_
  have hszr : Builtin.Range.rangeSize 0 ((ws.length : Int) + 1) 1 = ((ws.length + 1 : Nat) : Int) := by rw [rangeSize_one]; split <;> omega
  have hL7 := F₇.ns.lt
  have hup : ∀ b o, b ≠ 46 → s.heap.get? b = some o → hb.get? b = some o := fun b o hne e => by rw [← hbe]; exact gone_full b o hne e
  have hduI : du ≠ h₇.objs.size := Nat.ne_of_lt (Heap.lt_size (N₇ _ (.head _)).1)
  have hflI : fl ≠ h₇.objs.size := Nat.ne_of_lt (Heap.lt_size (N₇ _ (.tail _ (.head _))).1)
  have h46I : (46 : Addr) ≠ h₇.objs.size := Nat.ne_of_lt (Heap.lt_size (N₇ _ (.tail _ (.tail _ (.tail _ (.head _))))).1)
  refine codeC_for (Walks.range rfl h₇.objs.size 0 1 (ws.length + 1)) (LawJ s hb L du fl h₇.objs.size odu ofl (ws.length + 1)) ?_ ?_ ?_
  · intro i s' hi' hJ
    obtain ⟨h₈, g, tk, m, more, rfl, F₈, N₈, hm1, hm2, hgb, htr⟩ := hJ
    have hI := N₈ _ (.tail _ (.tail _ (.head _)))
    refine ⟨hI.1, ?_⟩
    intro v h₉ tk₉ hv hst₉ hk₉
    obtain ⟨tv, rfl⟩ := hv
    have hkk : ∀ b o, b ≠ h₇.objs.size → h₈.get? b = some o → h₉.get? b = some o := fun b o hne e => hk₉ b o (fun hm => hne (List.mem_singleton.mp hm)) e
    have hbI : ∀ b o, hb.get? b = some o → b ≠ h₇.objs.size := fun b o e z => by
      have := hI.2.2
      rw [z, this] at e; cases e
    have F₉ : Fr hb L h₉ m := ⟨F₈.ns.at' fun o e => hkk _ o (fun z => hI.2.1 z.symm) e, fun b o e => hkk b o (hbI b o e) (F₈.keep b o e), F₈.above⟩
    clear F₇ N₇
    have N₉ : News hb L h₉ [(du, odu), (fl, ofl), (h₇.objs.size, { cls := .type "range_iterator", dict := none, data := .fields #[rawInt (0 + ((i + 1 : Nat) : Int) * 1), rawInt (((ws.length + 1 : Nat) : Int) - ((i + 1 : Nat) : Int)), rawInt 1], slots := #[] }), (46, { cls := .none, data := .fields more })] := by
      intro p hp
      rcases List.mem_cons.mp hp with rfl | hp
      · exact ⟨hkk _ _ hduI (N₈ _ (.head _)).1, (N₈ _ (.head _)).2⟩
      rcases List.mem_cons.mp hp with rfl | hp
      · exact ⟨hkk _ _ hflI (N₈ _ (.tail _ (.head _))).1, (N₈ _ (.tail _ (.head _))).2⟩
      rcases List.mem_cons.mp hp with rfl | hp
      · exact ⟨hst₉, hI.2⟩
      rw [List.mem_singleton.mp hp]
      exact ⟨hkk _ _ h46I (N₈ _ (.tail _ (.tail _ (.tail _ (.head _))))).1, (N₈ _ (.tail _ (.tail _ (.tail _ (.head _))))).2⟩
    clear F₈ N₈
    dsimp only
    refine wpAny_assign_Name ?_
    walk_at "GO"
    refine wpC_execs_cons (wpC_Assign_Name (wpC_Call_Name ?_))
    walk_at "GO"
    refine callC_fn ?_
    refine evalArgs1 ?_
    walk_at "GO"
    rename Fr _ _ _ _ => F₁₀
    rename News _ _ _ _ => N₁₀
    refine' kmk_slice_lit (s := ⟨_, _, _, _, _⟩) (zs := ws.take i) ?cF1 ?cN1 ?cl1 ?cp1 ?cq1 ?ce1 ?_ ?cs1 ?ct1 ?cz1
    case cF1 => exact F₁₀
    case cN1 => exact N₁₀
    case cl1 => exact ⟨ofl, (N₁₀ _ (.tail _ (.head _))).1, hofc, nfl, hofd⟩
    case cp1 => exact IsPart.none
    case cq1 => exact IsPart.int _ _
    case ce1 => rw [show ((0 : Int) + (i : Int) * 1) = ((i : Nat) : Int) by omega, slicePick_upto']
    case cs1 => with_unfolding_all rfl
    case ct1 => intro _; with_unfolding_all rfl
    case cz1 => rw [sizeLine_eq]; simp only [List.size_toArray]; omega
    intro D₁ h₁₁ F₁₁ N₁₁ hlt₁
    clear F₁₀ N₁₀
    dsimp only
    refine star_seq F₁₁ N₁₁ (.head _) rfl rfl (.inl rfl) rfl (by rw [sizeLine_eq]; simp only [List.size_toArray, List.length_take]; omega) ?_
    intro h₁₂ F₁₂ N₁₂
    refine ⟨X₀.keeps F₁₂.keep, ?_⟩
    have h46' := (N₁₂ _ (.tail _ (.tail _ (.tail _ (.tail _ (.head _)))))).1
    refine pair_call X₀ T₀ BM₀ hn46 F₁₂ (rest := [(du, odu), (fl, ofl), (h₇.objs.size, itO (i + 1) (ws.length + 1))]) (fun p hp => ?_) (fun p hp => ?_) hL46 (code_at hup hcode F₁₂ h46' htr) (table_at hup htab F₁₂ h46') hgb (hws.take i) (fun f hf => hfo.1 f (List.mem_of_mem_take hf)) (by have := sum_take (fieldsOf (ns.take 14)) i; omega) (by simp only [List.length_take]; omega) rfl (by intro z; cases z) rfl (show callerA.depth + 1 < 800 by decide) rfl ?_
    · exact N₁₂ p (.tail _ (List.mem_append_left [_] hp))
    · rcases List.mem_cons.mp hp with rfl | hp
      · exact ne46 h46' (N₁₂ _ (.tail _ (.head _))).1 hodc
      rcases List.mem_cons.mp hp with rfl | hp
      · exact ne46 h46' (N₁₂ _ (.tail _ (.tail _ (.head _)))).1 hofc
      rw [List.mem_singleton.mp hp]
      exact ne46 (T := "range_iterator") h46' (N₁₂ _ (.tail _ (.tail _ (.tail _ (.head _))))).1 rfl
    intro h₁₃ g₁₃ k₁₃ a₁ oa₁ n₁ vs₁ more₁ F₁₃ N₁₃ ha₁ hac₁ had₁ hrs₁ hc₁ ht₁ hgb₁
    have htr₁ := triples_of hc₁
    dsimp only
    clear F₁₁ N₁₁ F₁₂ N₁₂
    walk_at "GO"
    refine wpC_execs_cons (wpC_Assign_Name (wpC_Call_Name ?_))
    walk_at "GO"
    refine callC_fn ?_
    refine evalArgs1 ?_
    walk_at "GO"
    rename Fr _ _ _ _ => F₂₀
    rename News _ _ _ _ => N₂₀
    refine' kmk_slice_lit (s := ⟨_, _, _, _, _⟩) (zs := ws.drop i) ?cF2 ?cN2 ?cl2 ?cp2 ?cq2 ?ce2 ?_ ?cs2 ?ct2 ?cz2
    case cF2 => exact F₂₀
    case cN2 => exact N₂₀
    case cl2 => exact ⟨ofl, (N₂₀ _ (.tail _ (.tail _ (.tail _ (.head _))))).1, hofc, nfl, hofd⟩
    case cp2 => exact IsPart.int _ _
    case cq2 => exact IsPart.none
    case ce2 => rw [show ((0 : Int) + (i : Int) * 1) = ((i : Nat) : Int) by omega, slicePick_from']
    case cs2 => with_unfolding_all rfl
    case ct2 => intro _; with_unfolding_all rfl
    case cz2 => rw [sizeLine_eq]; simp only [List.size_toArray]; omega
    intro D₂ h₂₁ F₂₁ N₂₁ hlt₂
    clear F₂₀ N₂₀
    dsimp only
    refine star_seq F₂₁ N₂₁ (.head _) rfl rfl (.inl rfl) rfl (by rw [sizeLine_eq]; simp only [List.size_toArray, List.length_drop]; omega) ?_
    intro h₂₂ F₂₂ N₂₂
    refine ⟨X₀.keeps F₂₂.keep, ?_⟩
    have h46'' := (N₂₂ _ (.tail _ (.tail _ (.head _)))).1
    refine pair_call X₀ T₀ BM₀ hn46 F₂₂ (rest := [(a₁, oa₁), (du, odu), (fl, ofl), (h₇.objs.size, itO (i + 1) (ws.length + 1))]) (fun p hp => ?_) (fun p hp => ?_) hL46 (code_at hup hcode F₂₂ h46'' htr₁) (table_at hup htab F₂₂ h46'') hgb₁ (hws.drop i) (fun f hf => hfo.1 f (List.mem_of_mem_drop hf)) (by have := sum_drop (fieldsOf (ns.take 14)) i; omega) (by simp only [List.length_drop]; omega) rfl (by intro z; cases z) rfl (show callerA.depth + 1 < 800 by decide) rfl ?_
    · rcases List.mem_cons.mp hp with rfl | hp
      · exact N₂₂ _ (.tail _ (.head _))
      · exact N₂₂ p (.tail _ (.tail _ (.tail _ hp)))
    · rcases List.mem_cons.mp hp with rfl | hp
      · exact ha₁
      rcases List.mem_cons.mp hp with rfl | hp
      · exact ne46 h46'' (N₂₂ _ (.tail _ (.tail _ (.tail _ (.head _))))).1 hodc
      rcases List.mem_cons.mp hp with rfl | hp
      · exact ne46 h46'' (N₂₂ _ (.tail _ (.tail _ (.tail _ (.tail _ (.head _)))))).1 hofc
      rw [List.mem_singleton.mp hp]
      exact ne46 (T := "range_iterator") h46'' (N₂₂ _ (.tail _ (.tail _ (.tail _ (.tail _ (.tail _ (.head _))))))).1 rfl
    intro h₂₃ g₂₃ k₂₃ a₂ oa₂ n₂ vs₂ more₂ F₂₃ N₂₃ ha₂ hac₂ had₂ hrs₂ hc₂ ht₂ hgb₂
    have htr₂ := triples_of hc₂
    dsimp only
    clear F₂₁ N₂₁ F₂₂ N₂₂
    walk_at "GO"
    rename Fr _ _ _ _ => F₃₀
    rename News _ _ _ _ => N₃₀
    refine wpC_execs_cons (wpC_If ?_)
    walk_at "GO"
    have hrs : RunsAre (toldOf (fieldsOf (ns.take 14))) (vs₁ ++ vs₂) := by
      have := hrs₁.append hrs₂
      rwa [← toldOf_append, List.take_append_drop] at this
    have hrl : vs₁.length + vs₂.length ≤ sizeLine := by
      have h1 := hrs.length
      have h2 := toldOf_len (fieldsOf (ns.take 14)) fun f hf => by have := len_le_sum hf; omega
      rw [List.length_append] at h1
      rw [sizeLine_eq]; omega
    refine add_lists F₃₀ N₃₀ ⟨oa₁, (N₃₀ _ (.tail _ (.tail _ (.head _)))).1, hac₁, n₁, had₁⟩ ⟨oa₂, (N₃₀ _ (.head _)).1, hac₂, n₂, had₂⟩ ?_ hrl
    intro h₃₁ F₃₁ N₃₁
    clear F₃₀ N₃₀
    refine ld F₃₁ hm2 ?_
    try dsimp only
    refine ne_runs (rs := toldOf (fieldsOf (ns.take 14))) (vs := vs₁ ++ vs₂) (ws := dv) ⟨_, (N₃₁ _ (.head _)).1, rfl, _, rfl⟩ ⟨odu, (N₃₁ _ (.tail _ (.tail _ (.tail _ (.tail _ (.head _)))))).1, hodc, ndu, hodd⟩ hrs hdv (told_ok hfo.1) (by ke_room) ?_
    walk1
    rw [if_neg (by decide)]
    refine wpC_any (wpAny_execs_nil (wpC_any (wpAny_execs_nil ?_)))
    dsimp only
    refine ⟨_, _, _, _, more₂, rfl, F₃₁, ?_, hm1, hm2, hgb₂, htr₂⟩
    intro p hp
    rcases List.mem_cons.mp hp with rfl | hp
    · exact N₃₁ _ (.tail _ (.tail _ (.tail _ (.tail _ (.head _)))))
    rcases List.mem_cons.mp hp with rfl | hp
    · exact N₃₁ _ (.tail _ (.tail _ (.tail _ (.tail _ (.tail _ (.head _))))))
    rcases List.mem_cons.mp hp with rfl | hp
    · exact N₃₁ _ (.tail _ (.tail _ (.tail _ (.tail _ (.tail _ (.tail _ (.head _)))))))
    rw [List.mem_singleton.mp hp]
    exact N₃₁ _ (.tail _ (.tail _ (.head _)))
  · rintro s' ⟨h₈, g, tk, m, more, rfl, F₈, N₈, hm1, hm2, hgb, htr⟩
    refine ⟨(N₈ _ (.tail _ (.tail _ (.head _)))).1, ?_⟩
    intro h₉ tk₉ hk₉
    have hkk : ∀ b o, b ≠ h₇.objs.size → h₈.get? b = some o → h₉.get? b = some o := fun b o hne e => hk₉ b o (fun hm => hne (List.mem_singleton.mp hm)) e
    have hI := N₈ _ (.tail _ (.tail _ (.head _)))
    have h46n : (46 : Addr) ≠ h₇.objs.size := fun z => by
      have e1 := (N₈ _ (.tail _ (.tail _ (.tail _ (.head _))))).1
      have e2 := hI.1
      dsimp only at e1 e2
      rw [← z, e1] at e2; cases e2
    have hbI : ∀ b o, hb.get? b = some o → b ≠ h₇.objs.size := fun b o e z => by
      have := hI.2.2
      rw [z, this] at e; cases e
    show wpC _ _ _ _ _ _
    refine wpC_any ?_
    have F₉ : Fr hb L h₉ m := ⟨F₈.ns.at' fun o e => hkk _ o (fun z => hI.2.1 z.symm) e, fun b o e => hkk b o (hbI b o e) (F₈.keep b o e), F₈.above⟩
    clear F₇ N₇
    walk_at "GO"
    exact h h₉ g _ more (fun b o hne e => F₉.keep b o (hup b o hne e)) (table_at hup htab F₉ (hkk _ _ h46n (N₈ _ (.tail _ (.tail _ (.tail _ (.head _))))).1)) hgb
  · have hpo : ∀ b o, h₇.get? b = some o → (h₇.push { cls := .type "range_iterator", data := .fields #[rawInt 0, rawInt (Builtin.Range.rangeSize 0 ((ws.length : Int) + 1) 1), rawInt 1] }).get? b = some o := fun b o e => Heap.get?_push_of_some _ e
    have h46' := hpo _ _ (N₇ _ (.tail _ (.tail _ (.tail _ (.head _))))).1
    refine ⟨_, _, _, _, #[], rfl, F₇.push _, ?_, rfl, rfl, hg, trivial⟩
    intro p hp
    rcases List.mem_cons.mp hp with rfl | hp
    · exact ⟨hpo _ _ (N₇ _ (.head _)).1, (N₇ _ (.head _)).2⟩
    rcases List.mem_cons.mp hp with rfl | hp
    · exact ⟨hpo _ _ (N₇ _ (.tail _ (.head _))).1, (N₇ _ (.tail _ (.head _))).2⟩
    rcases List.mem_cons.mp hp with rfl | hp
    · refine ⟨?_, Nat.ne_of_gt hL7, ?_⟩
      · show (h₇.push _).get? h₇.objs.size = _
        rw [Heap.get?_push_size _ rfl, hszr]
        simp
      · cases q : hb.get? h₇.objs.size with
        | none => rfl
        | some o => exact absurd (Heap.lt_size (F₇.keep _ _ q)) (Nat.lt_irrefl _)
    rw [List.mem_singleton.mp hp]
    exact ⟨h46', (N₇ _ (.tail _ (.tail _ (.tail _ (.head _))))).2⟩
end
end Mine

end PartFlaw

section PartFin
open PySem PySem.W PyProof.Rows PySem.Calls
set_option maxRecDepth 100000
set_option pp.maxSteps 3000
set_option maxHeartbeats 0
namespace Mine
theorem fin : PySem.Challenge.rw_ny0464_01.Holds := by
  w_on
  o_law
  refine holds_pin (q := hd.view_39) (loose := Loose0) (Xt := fun s => xlAt hd.view_39 [] s && recOk (RowW.records ROW.toRowW) s) (XP := XL hd.view_39 []) (Yf := Hook.obs HK) (Ya := Hook.val HK) (YP := Hook.says HK) (N := 1696) left (Hook.of HK) (Hook.keeps HK) (fun s e => xl_of s (Bool.and_eq_true_iff.mp e).1) XL.keeps (by rfl) (by rfl) (by rfl) (fun s e => recFacts_of (Bool.and_eq_true_iff.mp e).2) (by rfl) (by first | assumption | decide +kernel) (by decide +kernel) ⟨rfl, rfl, rfl, rfl, rfl, by decide +kernel⟩ ?hw ?hc
  case hw => w_witness2
  intro w s₀ s₁ mg mb G Y fa o pm cd doc dV kV ho hd hcd hD hmg hg args vals as hpre hlay hrd hwl hlo
  have X := kIn_of Y
  refine Ground.open G ?_
  intro T B D TE TW
  obtain ⟨bm, ob, BM⟩ := bmod_of_top T
  wrow_args hpre hlay hrd hwl hlo
  have X0 := X
  revert X; k_fill; intro X
  have hm79 : mg (Str.ofString "law") = some (.ref 79) := mg_of X T.g (by k_is)
  have hm51 : mg (Str.ofString "_platform") = some (.ref 51) := mg_of X T.g (by k_is)
  have hfa : fa = 79 := by
    have e : some (Value.ref fa) = some (.ref 79) := hmg.symm.trans hm79
    cases e; rfl
  subst hfa
  obtain ⟨c, P, hc, hB⟩ := based_of_top T (name := Str.ofString "_platform") (by rfl) hm51 (X 51 _ (by k_is)) rfl
  have hc50 : c = 50 := by cases hc; rfl
  subst hc50
  have hP : P = 46 := by
    obtain ⟨⟨o', vs', e1, _, e3, e4⟩, _⟩ := hB.tab
    rw [X 50 _ (by k_is)] at e1
    cases e1
    cases e3
    cases e4
    rfl
  subst hP
  rename Heap.IsList _ _ _ => hl
  rename IntsAre _ _ => hi
  refine wpC_mono (law_walk X0 (topRead_of T) BM hB.tab hB.code hl hi (by omega) (.of_eq hg) ?_) (fun _ _ q => q) fun _ _ q => q.elim
  intro h' g k more hk ht hb
  refine ⟨.inl ⟨.bool true, .bool true, [], rfl, fun _ => rfl, .bool true, by wrow_post, fun _ => ⟨List.nodup_nil, fun _ h => by cases h⟩⟩, ?_, rfl, hb⟩
  refine (OldK.refl _).step_table (more := more) hB.tab hB.tab (by simpa using ht) (fun b o hne e => hk b o hne e) hB.notStatics
end Mine

end PartFin

theorem PySem.Challenge.cw_ny0464_01_holds : PySem.Challenge.rw_ny0464_01.Holds :=
  Mine.fin
