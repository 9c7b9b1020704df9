import PyProof.Rows.All
import Wide.All
import OpenK.AllK
import Wide.FinOn
import Lean
import PySem.Challenge.RW_nq0068_01
set_option Elab.async false
set_option linter.unusedVariables false
set_option linter.unusedSimpArgs false
set_option rowWalk.seconds 0

section
open PySem PySem.W PyProof.Rows
namespace Mine
set_option maxRecDepth 100000
set_option maxHeartbeats 8000000
open_top hd for PySem.Challenge.rw_nq0068_01
end Mine

end
open PySem PySem.W PyProof.Rows
namespace Mine
theorem walkOff : True := by
  w_top off
  exact True.intro
end Mine
local macro_rules | `(tactic| walk_at $s:str) => `(tactic| k_extra $s)
section
namespace Mine
/-! small steps in omega's place: what a step of the walk asks of addresses, of room and of units, by a fact at hand -/
theorem nj0 {a b : Nat} (h : @Ne Nat b a) : @Ne Nat a b := fun e => h e.symm
theorem nj1 {a b : Nat} (h : @LT.lt Nat instLTNat a b) : @Ne Nat a b := Nat.ne_of_lt h
theorem nj2 {a b : Nat} (h : @LT.lt Nat instLTNat b a) : @Ne Nat a b := Nat.ne_of_gt h
theorem nj3 {a b : Nat} {c : Prop} (h : @LT.lt Nat instLTNat a b ∧ c) : @Ne Nat a b := Nat.ne_of_lt h.1
theorem nj4 {a b : Nat} {c : Prop} (h : @LT.lt Nat instLTNat b a ∧ c) : @Ne Nat a b := Nat.ne_of_gt h.1
theorem nj5 {a b : Nat} {c d : Prop} (h : (@Ne Nat a b ∧ c) ∧ d) : @Ne Nat a b := h.1.1
theorem nj6 {a b : Nat} {c d e : Prop} (h : (c ∧ @Ne Nat a b ∧ d) ∧ e) : @Ne Nat a b := h.1.2.1
theorem nj7 {a b : Nat} {c d e : Prop} (h : (c ∧ d ∧ @Ne Nat a b) ∧ e) : @Ne Nat a b := h.1.2.2
theorem nj8 {a b : Nat} {c d : Prop} (h : (@Ne Nat a b ∧ c) ∧ d) : @Ne Nat b a := fun e => h.1.1 e.symm
theorem nj9 {a b : Nat} {c d e : Prop} (h : (c ∧ @Ne Nat a b ∧ d) ∧ e) : @Ne Nat b a := fun x => h.1.2.1 x.symm
theorem njA {a b : Nat} {c d e : Prop} (h : (c ∧ d ∧ @Ne Nat a b) ∧ e) : @Ne Nat b a := fun x => h.1.2.2 x.symm
theorem njB {a b : Nat} {c : Prop} (h : @Ne Nat a b ∧ c) : @Ne Nat a b := h.1
theorem njC {a b : Nat} {c : Prop} (h : @Ne Nat b a ∧ c) : @Ne Nat a b := fun e => h.1 e.symm
theorem njD {a : Nat} : @Ne Nat a (a + 1) := Nat.ne_of_lt (Nat.lt_succ_self a)
theorem njE {a : Nat} : @Ne Nat (a + 1) a := Nat.ne_of_gt (Nat.lt_succ_self a)
theorem um0 {u b c X : Nat} (h : u + c < X) (e : Nat.ble b c = true) : u + b < X := Nat.lt_of_le_of_lt (Nat.add_le_add_left (Nat.le_of_ble_eq_true e) u) h
theorem um1 {u k b c X : Nat} (h : u + c < X) (e : Nat.ble (k + b) c = true) : u + k + b < X := by rw [Nat.add_assoc]; exact um0 h e
theorem um2 {u c X : Nat} (h : u + c < X) : u < X := Nat.lt_of_le_of_lt (Nat.le_add_right u c) h
theorem ltL {a b : Nat} {c : Prop} (h : @LT.lt Nat instLTNat a b ∧ c) : @LT.lt Nat instLTNat a b := h.1
theorem len3 {a b c : Str} (ha : a.length ≤ 1) (hb : b.length ≤ 1) (hc : c.length ≤ 1) : (a ++ b ++ c).length ≤ 100 := by
  rw [Str.length_append, Str.length_append]
  exact Nat.le_trans (Nat.add_le_add (Nat.add_le_add ha hb) hc) (by decide)
theorem natOf {z : Int} {n : Nat} (h0 : 0 ≤ z) (h1 : z < (n : Int)) : ∃ k : Nat, z = (k : Int) ∧ k < n := by
  obtain ⟨k, rfl⟩ := Int.eq_ofNat_of_zero_le h0
  exact ⟨k, rfl, Int.ofNat_lt.mp h1⟩
theorem nat_lt {z : Int} {n : Nat} (h0 : 0 ≤ z) (h1 : z < (n : Int)) : z.toNat < n := by
  obtain ⟨k, rfl, h⟩ := natOf h0 h1
  exact h
theorem threeN {i : Nat} (h : i < 3) : i = 0 ∨ i = 1 ∨ i = 2 := (by decide : ∀ i < 3, i = 0 ∨ i = 1 ∨ i = 2) i h
theorem fourN {i : Nat} (h : i < 4) : i = 0 ∨ i = 1 ∨ i = 2 ∨ i = 3 := (by decide : ∀ i < 4, i = 0 ∨ i = 1 ∨ i = 2 ∨ i = 3) i h
theorem sevenN {i : Nat} (h : i < 7) : i = 0 ∨ i = 1 ∨ i = 2 ∨ i = 3 ∨ i = 4 ∨ i = 5 ∨ i = 6 := (by decide : ∀ i < 7, i = 0 ∨ i = 1 ∨ i = 2 ∨ i = 3 ∨ i = 4 ∨ i = 5 ∨ i = 6) i h
theorem eightN {i : Nat} (h : i < 8) : i = 0 ∨ i = 1 ∨ i = 2 ∨ i = 3 ∨ i = 4 ∨ i = 5 ∨ i = 6 ∨ i = 7 := (by decide : ∀ i < 8, i = 0 ∨ i = 1 ∨ i = 2 ∨ i = 3 ∨ i = 4 ∨ i = 5 ∨ i = 6 ∨ i = 7) i h
theorem three {k : Int} (h0 : 0 ≤ k) (h1 : k < 3) : k = 0 ∨ k = 1 ∨ k = 2 := by
  obtain ⟨n, rfl, h⟩ := natOf (n := 3) h0 h1
  rcases threeN h with rfl | rfl | rfl
  · exact .inl rfl
  · exact .inr (.inl rfl)
  · exact .inr (.inr rfl)
theorem four {k : Int} (h0 : 0 ≤ k) (h1 : k < 4) : k = 0 ∨ k = 1 ∨ k = 2 ∨ k = 3 := by
  obtain ⟨n, rfl, h⟩ := natOf (n := 4) h0 h1
  rcases fourN h with rfl | rfl | rfl | rfl
  · exact .inl rfl
  · exact .inr (.inl rfl)
  · exact .inr (.inr (.inl rfl))
  · exact .inr (.inr (.inr rfl))
theorem way3 {y : Nat} {z : Int} (h : y < 8) : y = 7 ∨ (y = 0 ∧ z = 0) ∨ (y < 7 ∧ ¬ (y = 0 ∧ z = 0)) := by
  by_cases h7 : y = 7
  · exact .inl h7
  · by_cases h0 : y = 0 ∧ z = 0
    · exact .inr (.inl h0)
    · exact .inr (.inr ⟨Nat.lt_of_le_of_ne (Nat.le_of_lt_succ h) h7, h0⟩)
end Mine

end
set_option compiler.extract_closed false
local macro_rules | `(tactic| kba_ints) => `(tactic| focus ((iterate 13 (first | done | with_reducible assumption | with_reducible apply And.right)); done))
local macro_rules | `(tactic| kct_strs) => `(tactic| first | kba_ints | (with_reducible apply Mine.nj1; kba_ints) | (with_reducible apply Mine.nj3; kba_ints) | (with_reducible apply Mine.nj5; kba_ints) | (with_reducible apply Mine.nj6; kba_ints) | (with_reducible apply Mine.nj7; kba_ints) | (with_reducible apply Mine.njB; kba_ints))
local macro_rules | `(tactic| k_ne) => `(tactic| ((refine neN ?_; (try dsimp only)); first | kct_strs | (with_reducible apply Mine.nj0; kct_strs) | exact Mine.njD | exact Mine.njE))
local macro_rules | `(tactic| ktr_units) => `(tactic| first | exact Mine.um0 (by assumption) rfl | exact Mine.um1 (by assumption) rfl)
local macro_rules | `(tactic| ktr_room) => `(tactic| first | exact Mine.um0 (by assumption) rfl | exact Mine.um1 (by assumption) rfl | exact Mine.um2 (by assumption))
local macro_rules | `(tactic| k_room) => `(tactic| ktr_room)
local macro_rules | `(tactic| k_units) => `(tactic| ktr_units)
section
namespace Mine
set_option maxRecDepth 100000

/-- a turn's end: the iterator stands, the rest by J -/
noncomputable def TEnd (h₀ : Heap) (L : Addr) (J : (Str → Option Value) → List (Addr × Obj) → Prop) (I : Addr) (oI : Obj) (s₁ : Shared) (Q : Flow → Shared → Prop) (f : Flow) (s₂ : Shared) : Prop :=
  match f with
  | .ret v => Q (.ret v) s₂
  | .brk => Q .next s₂
  | _ => ∃ h' tk m' nx, s₂ = { s₁ with heap := h', toks := tk } ∧ Fr h₀ L h' m' ∧ News h₀ L h' ((I, oI) :: nx) ∧ (∀ p ∈ nx, p.1 ≠ I) ∧ J m' nx

theorem TEnd.go {h₀ : Heap} {L : Addr} {J : (Str → Option Value) → List (Addr × Obj) → Prop} {I : Addr} {oI : Obj} {s₁ : Shared} {Q : Flow → Shared → Prop} {f : Flow} {h' : Heap} {tk : Nat} {m' : Str → Option Value} {all nx : List (Addr × Obj)}
    (hf : f = .next ∨ f = .cont) (F : Fr h₀ L h' m') (N : News h₀ L h' all) (hs : ∀ p ∈ (I, oI) :: nx, p ∈ all) (ho : ∀ p ∈ nx, p.1 ≠ I) (hj : J m' nx) : TEnd h₀ L J I oI s₁ Q f { s₁ with heap := h', toks := tk } := by
  rcases hf with rfl | rfl <;> exact ⟨h', tk, m', nx, rfl, F, fun p hp => N p (hs p hp), ho, hj⟩

theorem iter_vals {prog : Program} {w : World} {A : Around} {E : Value → Shared → Prop} {s : Shared} {env : Env} {h₀ : Heap} {x : Str} {body : List Stmt} {Q : Flow → Shared → Prop} {l : Addr} {vs : List Value} {ol : Obj} {m₀ : Str → Option Value} {news : List (Addr × Obj)}
    (J : Nat → (Str → Option Value) → List (Addr × Obj) → Prop) (F : Fr h₀ env.locals s.heap m₀) (N : News h₀ env.locals s.heap news) (hl : (l, ol) ∈ news) (hj : J 0 m₀ news)
    (hJ : ∀ i m nx, J i m nx → (l, ol) ∈ nx)
    (turn : ∀ i v m₁ nx h tk I oI, vs[i]? = some v → J i m₁ nx → (∀ p ∈ nx, p.1 ≠ I) → Fr h₀ env.locals h (fun y => if y = x then some v else m₁ y) → News h₀ env.locals h ((I, oI) :: nx) →
      wpAny (model prog w) A (execs body env) (TEnd h₀ env.locals (J (i + 1)) I oI { s with heap := h, toks := tk } Q) E { s with heap := h, toks := tk })
    (done : ∀ m₁ nx h tk, J vs.length m₁ nx → Fr h₀ env.locals h m₁ → News h₀ env.locals h nx → Q .next { s with heap := h, toks := tk })
    (hc : ol.cls = .type "list" := by rfl) (hd : ∃ nn, ol.data = .seq vs.toArray nn := by exact ⟨_, rfl⟩) (hh : A.handled = none := by rfl) :
    wpAny (model prog w) A (pyIter (.ref l)) (fun it s₂ => LoopAtV prog w A h₀ env x body Q E it s₂) E s := by
  have hol : s.heap.get? l = some ol := (N _ hl).1
  obtain ⟨nn, hd⟩ := hd
  have hls : s.heap.IsList l vs.toArray := ⟨_, hol, hc, nn, hd⟩
  have hne : l ≠ s.heap.objs.size := Nat.ne_of_lt (Heap.lt_size hol)
  refine wpAny_pyIter_list hls ?_
  have W := Walks.list (prog := prog) (w := w) hh s.heap.objs.size l hne vs.toArray
  have hlen : vs.toArray.size = vs.length := by simp
  rw [hlen] at W
  refine ⟨_, _, _, vs.length, _, _, m₀, news, J, rfl, W, ?_, ?_, ?_, ⟨⟨_, Heap.get?_push_size _ rfl, rfl, rfl⟩, hls.at fun o e => Heap.get?_push_of_some _ e⟩, F.push _, (fun p hp => ⟨Heap.get?_push_of_some _ (N p hp).1, (N p hp).2⟩), hj, ?_, ?_⟩
  · intro hm
    rcases List.mem_cons.mp hm with e | hm
    · exact absurd F.ns.lt (e ▸ Nat.lt_irrefl _)
    · exact (N _ hl).2.1 ((List.mem_singleton.mp hm).symm)
  · intro b hb
    rw [List.mem_singleton.mp hb]
    exact next_is_new F
  · intro p hp hI
    exact absurd (Heap.lt_size (N p hp).1) ((List.mem_singleton.mp hI) ▸ Nat.lt_irrefl _)
  · rintro i v m₁ news₁ s₁ own ⟨hh', tk', rfl⟩ hin hP hJ₁ hoff hown hget hfp hst F₁ N₁
    obtain ⟨oI, heI, hrI⟩ := hst.1
    have hIown : (s.heap.objs.size, oI) ∈ own := hfp _ (by simp) (next_is_new F) oI heI
    have hP' : vs[i]? = some v := by simpa using hP
    have hoff' : ∀ p ∈ news₁, p.1 ≠ s.heap.objs.size := fun p hp e => hoff p hp (by rw [e]; exact List.mem_singleton.mpr rfl)
    have N₂ : News h₀ env.locals hh' ((s.heap.objs.size, oI) :: news₁) := fun p hp => by
      rcases List.mem_cons.mp hp with rfl | hp
      · exact N₁ _ (List.mem_append_left _ hIown)
      · exact N₁ _ (List.mem_append_right _ hp)
    have hlo : hh'.get? l = some ol := (N₁ _ (List.mem_append_right _ (hJ _ _ _ hJ₁))).1
    refine wpAny_mono (turn i v m₁ news₁ hh' tk' s.heap.objs.size oI hP' hJ₁ hoff' F₁ N₂) (fun f s₂ p => ?_) fun _ _ e => e
    have fin : (∃ h' tk m' nx, s₂ = { ({ s with heap := hh', toks := tk' } : Shared) with heap := h', toks := tk } ∧ Fr h₀ env.locals h' m' ∧ News h₀ env.locals h' ((s.heap.objs.size, oI) :: nx) ∧ (∀ p ∈ nx, p.1 ≠ s.heap.objs.size) ∧ J (i + 1) m' nx) →
        LoopStepU h₀ env.locals [s.heap.objs.size] own (J (i + 1)) { s with heap := hh', toks := tk' } .next s₂ := by
      rintro ⟨h', tk, m', nx, e, F', N', ho, hm⟩
      refine ⟨rfl, h', tk, m', nx, e, F', fun p hp => ?_, fun p hp hI => ho p hp (List.mem_singleton.mp hI), hm⟩
      rcases List.mem_append.mp hp with h | h
      · have h2 : hh'.get? p.1 = some p.2 := hget p h
        rcases List.mem_cons.mp (hown p h) with h1 | h1
        · rw [h1, heI] at h2
          have h3 : p = (s.heap.objs.size, oI) := Prod.ext h1 (Option.some.inj h2).symm
          rw [h3]
          exact N' _ (.head _)
        · have h1' := List.mem_singleton.mp h1
          rw [h1', hlo] at h2
          have h3 : p = (l, ol) := Prod.ext h1' (Option.some.inj h2).symm
          rw [h3]
          exact N' _ (.tail _ (hJ _ _ _ hm))
      · exact N' p (.tail _ h)
    cases f with
    | ret v => exact .ret p
    | brk => exact .brk p
    | next => exact .next (fin p)
    | cont => exact .cont (fin p)
  · rintro h' tk m' news' F' N' _ hJ'
    exact done m' news' h' tk hJ' F' N'
end Mine

end
section
namespace Mine
set_option maxRecDepth 100000
set_option maxHeartbeats 8000000

structure HS where
  res : List Str
  part : Str
  esc : Bool
  quo : Bool
noncomputable def one (n : Int) : Str := ⟨#[n.toNat]⟩
noncomputable def hstep (s : HS) (n : Int) : HS :=
  if s.esc then ⟨s.res, s.part ++ one n, false, s.quo⟩
  else if s.quo then
    if n = 92 then ⟨s.res, s.part, true, s.quo⟩
    else if n = 34 then ⟨s.res, s.part ++ one n, s.esc, false⟩
    else ⟨s.res, s.part ++ one n, s.esc, s.quo⟩
  else if n = 44 then ⟨s.res ++ [s.part], Str.ofString "", s.esc, s.quo⟩
  else if n = 34 then ⟨s.res, s.part ++ one n, s.esc, true⟩
  else ⟨s.res, s.part ++ one n, s.esc, s.quo⟩
noncomputable def hrun (l : List Int) : HS := l.foldl hstep ⟨[], Str.ofString "", false, false⟩

noncomputable def HInv (pre : List Int) (res : List Str) (part : Str) (esc quo : Bool) : Prop :=
  hrun pre = ⟨res, part, esc, quo⟩ ∧ res.length ≤ pre.length ∧ part.length ≤ pre.length ∧ ∀ y ∈ res, y.length ≤ pre.length

theorem hstep_bd (st : HS) (n : Int) : (hstep st n).res.length ≤ st.res.length + 1 ∧ (hstep st n).part.length ≤ st.part.length + 1 ∧ ∀ y ∈ (hstep st n).res, y ∈ st.res ∨ y = st.part := by
  have h1 : (st.part ++ one n).length = st.part.length + 1 := by rw [Str.length_append]; rfl
  have h2 : (Str.ofString "").length ≤ st.part.length + 1 := Nat.zero_le _
  unfold hstep
  repeat' split
  all_goals refine ⟨?_, ?_, ?_⟩
  all_goals first
    | exact Nat.le_succ _
    | exact Nat.le_of_eq h1
    | exact h2
    | exact fun y hy => .inl hy
    | (rw [List.length_append]; exact Nat.le_refl _)
    | (intro y hy
       rcases List.mem_append.mp hy with hy | hy
       · exact .inl hy
       · exact .inr (List.mem_singleton.mp hy))

theorem HInv.snoc {pre : List Int} {res res' : List Str} {part part' : Str} {esc quo esc' quo' : Bool} {n : Int} (h : HInv pre res part esc quo) (e : hstep ⟨res, part, esc, quo⟩ n = ⟨res', part', esc', quo'⟩) : HInv (pre ++ [n]) res' part' esc' quo' := by
  obtain ⟨a, b, c, d⟩ := h
  have z := hstep_bd ⟨res, part, esc, quo⟩ n
  rw [e] at z
  obtain ⟨z1, z2, z3⟩ := z
  have hl : (pre ++ [n]).length = pre.length + 1 := by rw [List.length_append]; rfl
  refine ⟨?_, ?_, ?_, ?_⟩
  · unfold hrun at a ⊢
    rw [List.foldl_append, a]
    exact e
  · rw [hl]; exact Nat.le_trans z1 (Nat.succ_le_succ b)
  · rw [hl]; exact Nat.le_trans z2 (Nat.succ_le_succ c)
  · intro y hy
    rw [hl]
    rcases z3 y hy with q | q
    · exact Nat.le_succ_of_le (d y q)
    · rw [q]; exact Nat.le_succ_of_le c

/-- what a call gives back: a value, the objects that it leaves beside the caller's -/
abbrev RetL (h₀ : Heap) (L : Addr) (m : Str → Option Value) (news : List (Addr × Obj)) (s : Shared) (Q : Value → Shared → Prop) (R : Value → List (Addr × Obj) → Prop) : Prop :=
  ∀ (v : Value) (new : List (Addr × Obj)) (h' : Heap) (tk' : Nat), R v new → Fr h₀ L h' m → News h₀ L h' (new ++ news) → (∀ p ∈ new, ∀ q ∈ news, q.1 ≠ p.1) → Q v { s with heap := h', toks := tk' }

noncomputable def HTurn (h₀ : Heap) (L l : Addr) (m₀ : Str → Option Value) (keep : List (Addr × Obj)) (pre : List Int) (s : Shared) (fl : Flow) (s₂ : Shared) : Prop :=
  (fl = .next ∨ fl = .cont) ∧ ∃ h' tk' m' us' n' res' part' tp' esc' quo' led, s₂ = { s with heap := h', toks := tk' } ∧ Fr h₀ L h' m' ∧ News h₀ L h' led ∧ (∀ p ∈ (l, listOf us'.toArray n') :: keep, p ∈ led) ∧ StrsAre us' res' ∧ HInv pre res' part' esc' quo' ∧
         m' (Str.ofString "res") = some (.ref l) ∧ m' (Str.ofString "part") = some (.str part' tp') ∧ m' (Str.ofString "escape") = some (.bool esc') ∧ m' (Str.ofString "quote") = some (.bool quo') ∧ (∀ z, z ≠ Str.ofString "cur" → z ≠ Str.ofString "res" → z ≠ Str.ofString "part" → z ≠ Str.ofString "escape" → z ≠ Str.ofString "quote" → m' z = m₀ z)

structure HC where
  us : List Value
  n : Nat
  part : Str
  tp : Tok
  esc : Bool
  quo : Bool
  res : List Str

theorem http_for {prog : Program} {w : World} {A : Around} {E : Value → Shared → Prop} {s : Shared} {env : Env} {h₀ : Heap} {body : List Stmt} {Q : Flow → Shared → Prop} {S : Str} {tx : Tok} {m₀ : Str → Option Value} {l : Addr} {tp : Tok} {news : List (Addr × Obj)}
    (F : Fr h₀ env.locals s.heap m₀) (N : News h₀ env.locals s.heap ((l, listOf #[] 0) :: news)) (h1 : m₀ (Str.ofString "res") = some (.ref l)) (h2 : m₀ (Str.ofString "part") = some (.str (Str.ofString "") tp)) (h3 : m₀ (Str.ofString "escape") = some (.bool false)) (h4 : m₀ (Str.ofString "quote") = some (.bool false))
    (turn : ∀ (us : List Value) (n : Nat) (part : Str) (tp : Tok) (esc quo : Bool) (res : List Str) (pre post : List Int) (k : Nat) (t : Tok) h tk own, KStt.codes S = pre ++ (k : Int) :: post → (∀ p ∈ own, p.1 ≠ l) → StrsAre us res → HInv pre res part esc quo →
      Fr h₀ env.locals h (fun y => if y = Str.ofString "cur" then some (.str ⟨#[k]⟩ t) else if y = Str.ofString "res" then some (.ref l) else if y = Str.ofString "part" then some (.str part tp) else if y = Str.ofString "escape" then some (.bool esc) else if y = Str.ofString "quote" then some (.bool quo) else m₀ y) →
      News h₀ env.locals h ((l, listOf us.toArray n) :: (news ++ own)) →
      wpAny (model prog w) A (execs body env) (HTurn h₀ env.locals l m₀ (news ++ own) (pre ++ [(k : Int)]) s) E { s with heap := h, toks := tk })
    (done : ∀ (us : List Value) (n : Nat) (part : Str) (tp : Tok) (esc quo : Bool) (res : List Str) (v : Option Value) h tk, StrsAre us res → HInv (KStt.codes S) res part esc quo →
      Fr h₀ env.locals h (fun y => if y = Str.ofString "cur" then v else if y = Str.ofString "res" then some (.ref l) else if y = Str.ofString "part" then some (.str part tp) else if y = Str.ofString "escape" then some (.bool esc) else if y = Str.ofString "quote" then some (.bool quo) else m₀ y) →
      News h₀ env.locals h ((l, listOf us.toArray n) :: news) → Q .next { s with heap := h, toks := tk })
    (hh : A.handled = none := by rfl) :
    wpAny (model prog w) A (pyIter (.str S tx)) (fun it s₂ => LoopAtV prog w A h₀ env (Str.ofString "cur") body Q E it s₂) E s := by
  refine KStt.kst_text (σ := HC) (fun c => (l, listOf c.us.toArray c.n) :: news) (fun c => [(Str.ofString "res", .ref l), (Str.ofString "part", .str c.part c.tp), (Str.ofString "escape", .bool c.esc), (Str.ofString "quote", .bool c.quo)])
    (fun c => StrsAre c.us c.res) [] (fun pre c => HInv pre c.res c.part c.esc c.quo) ⟨[], 0, Str.ofString "", tp, false, false, []⟩ hh F N .nil ?_ ?_ ?_ ?_
  · intro p hp
    simp only [List.mem_cons, List.not_mem_nil, or_false] at hp
    rcases hp with rfl | rfl | rfl | rfl <;> assumption
  · exact ⟨rfl, Nat.le_refl _, Nat.zero_le _, fun _ h => nomatch h⟩
  · intro c pre post k t u h tk own hc off hf hp F₁ N₁
    refine wpAny_mono (turn c.us c.n c.part c.tp c.esc c.quo c.res pre post k t h tk own hc (fun p hp => off p hp l (by simp)) hf hp ?_ (by simpa using N₁)) (fun fl s₂ hT => ?_) fun _ _ e => e
    · exact F₁
    · obtain ⟨hfl, h', tk', m', us', n', res', part', tp', esc', quo', led, rfl, F', N', hs, hus, hI, e1, e2, e3, e4, e5⟩ := hT
      have fin : InvEndN h₀ env.locals (KstS (σ := HC) (fun c => (l, listOf c.us.toArray c.n) :: news) (fun c => [(Str.ofString "res", .ref l), (Str.ofString "part", .str c.part c.tp), (Str.ofString "escape", .bool c.esc), (Str.ofString "quote", .bool c.quo)])
          (fun c => StrsAre c.us c.res) (Str.ofString "cur") [] m₀ (fun pre c => HInv pre c.res c.part c.esc c.quo) (pre ++ [(k : Int)])) own (l :: news.map (·.1)) { s with heap := h, toks := tk } { s with heap := h', toks := tk' } := by
        refine ⟨h', tk', m', led, (l, listOf us'.toArray n') :: news, rfl, F', N', fun p hp => hs p ?_, fun p hp => hs p ?_, rfl, ⟨us', n', part', tp', esc', quo', res'⟩, rfl, hus, ?_, ?_, hI⟩
        · rcases List.mem_cons.mp hp with rfl | hp
          · exact .head _
          · exact .tail _ (List.mem_append_left _ hp)
        · exact .tail _ (List.mem_append_right _ hp)
        · intro p hp
          simp only [List.mem_cons, List.not_mem_nil, or_false] at hp
          rcases hp with rfl | rfl | rfl | rfl <;> assumption
        · intro z hz hn _
          exact e5 z hz (hn _ (.head _)) (hn _ (.tail _ (.head _))) (hn _ (.tail _ (.tail _ (.head _)))) (hn _ (.tail _ (.tail _ (.tail _ (.head _)))))
      rcases hfl with rfl | rfl
      · exact fin
      · exact fin
  · intro c u h tk hf hp F₁ N₁
    exact done c.us c.n c.part c.tp c.esc c.quo c.res (u (Str.ofString "cur")) h tk hf hp (by
      have e : (fun y => if y = Str.ofString "cur" then u (Str.ofString "cur") else if y = Str.ofString "res" then some (.ref l) else if y = Str.ofString "part" then some (.str c.part c.tp) else if y = Str.ofString "escape" then some (.bool c.esc) else if y = Str.ofString "quote" then some (.bool c.quo) else m₀ y)
        = (fun y => if y = Str.ofString "cur" then u y else kstB (fun z => if ([] : List Str).contains z then u z else m₀ z) [(Str.ofString "res", .ref l), (Str.ofString "part", .str c.part c.tp), (Str.ofString "escape", .bool c.esc), (Str.ofString "quote", .bool c.quo)] y) := by
        funext y
        by_cases hy : y = Str.ofString "cur"
        · rw [if_pos hy, if_pos hy, hy]
        · rw [if_neg hy, if_neg hy]
          rfl
      rw [e]
      exact F₁) N₁

theorem HTurn.fin {h₀ : Heap} {L l : Addr} {m₀ m' : Str → Option Value} {keep : List (Addr × Obj)} {pre : List Int} {s : Shared} {fl : Flow} {h' : Heap} {tk' n' : Nat} {us' : List Value} {res' : List Str} {part' : Str} {tp' : Tok} {esc' quo' : Bool}
    (hfl : fl = .next ∨ fl = .cont) (F : Fr h₀ L h' m') (N : News h₀ L h' ((l, listOf us'.toArray n') :: keep)) (hus : StrsAre us' res') (hI : HInv pre res' part' esc' quo')
    (e1 : m' (Str.ofString "res") = some (.ref l)) (e2 : m' (Str.ofString "part") = some (.str part' tp')) (e3 : m' (Str.ofString "escape") = some (.bool esc')) (e4 : m' (Str.ofString "quote") = some (.bool quo'))
    (e5 : ∀ z, z ≠ Str.ofString "cur" → z ≠ Str.ofString "res" → z ≠ Str.ofString "part" → z ≠ Str.ofString "escape" → z ≠ Str.ofString "quote" → m' z = m₀ z) :
    HTurn h₀ L l m₀ keep pre s fl { s with heap := h', toks := tk' } :=
  ⟨hfl, h', tk', m', us', n', res', part', tp', esc', quo', _, rfl, F, N, fun _ h => h, hus, hI, e1, e2, e3, e4, e5⟩
theorem HTurn.finP {h₀ : Heap} {L l : Addr} {m₀ m' : Str → Option Value} {keep : List (Addr × Obj)} {pre : List Int} {s : Shared} {fl : Flow} {h' : Heap} {tk' n' : Nat} {us' : List Value} {x : Value} {res' : List Str} {part' : Str} {tp' : Tok} {esc' quo' : Bool}
    (hfl : fl = .next ∨ fl = .cont) (F : Fr h₀ L h' m') (N : News h₀ L h' ((l, listOf (us'.toArray.push x) n') :: keep)) (hus : StrsAre (us' ++ [x]) res') (hI : HInv pre res' part' esc' quo')
    (e1 : m' (Str.ofString "res") = some (.ref l)) (e2 : m' (Str.ofString "part") = some (.str part' tp')) (e3 : m' (Str.ofString "escape") = some (.bool esc')) (e4 : m' (Str.ofString "quote") = some (.bool quo'))
    (e5 : ∀ z, z ≠ Str.ofString "cur" → z ≠ Str.ofString "res" → z ≠ Str.ofString "part" → z ≠ Str.ofString "escape" → z ≠ Str.ofString "quote" → m' z = m₀ z) :
    HTurn h₀ L l m₀ keep pre s fl { s with heap := h', toks := tk' } :=
  HTurn.fin hfl F (by rw [List.push_toArray] at N; exact N) hus hI e1 e2 e3 e4 e5
theorem chr_eq (k : Nat) (c : Nat) : ((⟨#[k]⟩ : Str) == ⟨#[c]⟩) = decide ((k : Int) = (c : Int)) := by
  by_cases h : k = c
  · subst h; simp
  · have h' : ¬ ((k : Int) = (c : Int)) := by omega
    rw [decide_eq_false h']
    simp
    intro e
    exact h e
theorem lit_bs : Str.ofString "\\" = ⟨#[92]⟩ := by decide +kernel
theorem lit_dq : Str.ofString "\"" = ⟨#[34]⟩ := by decide +kernel
theorem lit_cm : Str.ofString "," = ⟨#[44]⟩ := by decide +kernel
theorem one_nat (k : Nat) : one (k : Int) = ⟨#[k]⟩ := rfl
theorem one_len (k : Nat) : (⟨#[k]⟩ : Str).length = 1 := rfl

section
variable {res : List Str} {part : Str} {k : Nat}
theorem ht_bs (h : ((⟨#[k]⟩ : Str) == Str.ofString "\\") = true) : (k : Int) = 92 := by rw [lit_bs, chr_eq] at h; simpa using h
theorem hf_bs (h : ((⟨#[k]⟩ : Str) == Str.ofString "\\") = false) : ¬ (k : Int) = 92 := by rw [lit_bs, chr_eq] at h; simpa using h
theorem ht_dq (h : ((⟨#[k]⟩ : Str) == Str.ofString "\"") = true) : (k : Int) = 34 := by rw [lit_dq, chr_eq] at h; simpa using h
theorem hf_dq (h : ((⟨#[k]⟩ : Str) == Str.ofString "\"") = false) : ¬ (k : Int) = 34 := by rw [lit_dq, chr_eq] at h; simpa using h
theorem ht_cm (h : ((⟨#[k]⟩ : Str) == Str.ofString ",") = true) : (k : Int) = 44 := by rw [lit_cm, chr_eq] at h; simpa using h
theorem hf_cm (h : ((⟨#[k]⟩ : Str) == Str.ofString ",") = false) : ¬ (k : Int) = 44 := by rw [lit_cm, chr_eq] at h; simpa using h
theorem hs1 (quo : Bool) : hstep ⟨res, part, true, quo⟩ (k : Int) = ⟨res, part ++ ⟨#[k]⟩, false, quo⟩ := rfl
theorem hs2 (h : ((⟨#[k]⟩ : Str) == Str.ofString "\\") = true) : hstep ⟨res, part, false, true⟩ (k : Int) = ⟨res, part, true, true⟩ := by
  have := ht_bs h
  simp [hstep, this]
theorem hs3 (h : ((⟨#[k]⟩ : Str) == Str.ofString "\\") = false) (h' : ((⟨#[k]⟩ : Str) == Str.ofString "\"") = true) : hstep ⟨res, part, false, true⟩ (k : Int) = ⟨res, part ++ ⟨#[k]⟩, false, false⟩ := by
  have a := hf_bs h
  have b := ht_dq h'
  rw [← one_nat]
  simp only [hstep, if_neg a, if_pos b]
  rfl
theorem hs4 (h : ((⟨#[k]⟩ : Str) == Str.ofString "\\") = false) (h' : ((⟨#[k]⟩ : Str) == Str.ofString "\"") = false) : hstep ⟨res, part, false, true⟩ (k : Int) = ⟨res, part ++ ⟨#[k]⟩, false, true⟩ := by
  have a := hf_bs h
  have b := hf_dq h'
  rw [← one_nat]
  simp only [hstep, if_neg a, if_neg b]
  rfl
theorem hs5 (h : ((⟨#[k]⟩ : Str) == Str.ofString ",") = true) : hstep ⟨res, part, false, false⟩ (k : Int) = ⟨res ++ [part], Str.ofString "", false, false⟩ := by
  have a := ht_cm h
  simp only [hstep, if_pos a]
  rfl
theorem hs6 (h : ((⟨#[k]⟩ : Str) == Str.ofString ",") = false) (h' : ((⟨#[k]⟩ : Str) == Str.ofString "\"") = true) : hstep ⟨res, part, false, false⟩ (k : Int) = ⟨res, part ++ ⟨#[k]⟩, false, true⟩ := by
  have a := hf_cm h
  have b := ht_dq h'
  rw [← one_nat]
  simp only [hstep, if_neg a, if_pos b]
  rfl
theorem hs7 (h : ((⟨#[k]⟩ : Str) == Str.ofString ",") = false) (h' : ((⟨#[k]⟩ : Str) == Str.ofString "\"") = false) : hstep ⟨res, part, false, false⟩ (k : Int) = ⟨res, part ++ ⟨#[k]⟩, false, false⟩ := by
  have a := hf_cm h
  have b := hf_dq h'
  rw [← one_nat]
  simp only [hstep, if_neg a, if_neg b]
  rfl
theorem len_snoc : (part ++ (⟨#[k]⟩ : Str)).length ≤ part.length + 1 := by rw [Str.length_append]; exact Nat.le_refl _
end

theorem kcs_rest {prog : Program} {w : World} {A : Around} {h₀ : Heap} {L : Addr} {m : Str → Option Value} {env : Env} {elt : Expr} {x : Str} {scope : Scope} {cl : List (Str × Addr)} {s : Shared} {S : List (Addr × Obj) → Prop} {Fin : List Value → List (Addr × Obj) → Prop} {news : List (Addr × Obj)}
    {its : Array Value} {ws : List Str} (g : Str → Str) (hus : StrsAre its.toList ws)
    (turn : ∀ y t I oI C oC D m₂ ys h tk (E' : Value → Shared → Prop), y ∈ ws → LCg.NsObj oC m₂ → m₂ x = some (.str y t) → Fr h₀ L h m → News h₀ L h ((I, oI) :: (C, oC) :: (D, LCg.lst ys) :: news) → LCg.Off3 I C D news → S news →
      wpAny (model prog w) A (eval elt (compEnvC scope cl C env)) (fun v s₂ => ∃ t' tk', v = .str (g y) t' ∧ s₂ = { s with heap := h, toks := tk' }) E' { s with heap := h, toks := tk })
    (hS : S news) (fin : ∀ ys, StrsAre ys (ws.map g) → Fin ys news) : LCg.CompRest prog w A h₀ L m env elt x scope cl s S (fun i v => its[i]? = some v) Fin its.size 0 [] news := by
  have hat : ∀ {us : List Value} {ws : List Str}, StrsAre us ws → ∀ (i : Nat) (v : Value), us[i]? = some v → ∃ y t, ws[i]? = some y ∧ v = .str y t := by
    intro us ws h
    induction h with
    | nil => intro i v e; simp at e
    | cons y t _ ih =>
      intro i v e
      cases i with
      | zero => simp at e; exact ⟨y, t, rfl, e.symm⟩
      | succ i => simp at e; simpa using ih i v e
  have hlen : its.size = ws.length := by
    rw [← Array.length_toList]
    exact hus.length
  have key : ∀ (j i : Nat) (ys : List Value), i + j = ws.length → StrsAre ys ((ws.take i).map g) → LCg.CompRest prog w A h₀ L m env elt x scope cl s S (fun i v => its[i]? = some v) Fin j i ys news := by
    intro j
    induction j with
    | zero =>
      intro i ys hi hy
      have e : i = ws.length := by omega
      subst e
      rw [List.take_length] at hy
      exact LCg.CompRest.zero (fin ys hy)
    | succ j ih =>
      intro i ys hi hy
      refine LCg.CompRest.succ ?_
      intro v I oI C oC D m₂ h tk E' hv hC hx F N off ne
      obtain ⟨y, t, hk, hv'⟩ := hat hus i v (by rw [Array.getElem?_toList]; exact hv)
      rw [hv'] at hx
      refine wpAny_mono (turn y t I oI C oC D m₂ ys h tk E' (List.mem_of_getElem? hk) hC hx F N off hS) (fun v' s₂ hq => ?_) fun _ _ e => e
      obtain ⟨t', tk', rfl, rfl⟩ := hq
      refine ⟨h, tk', news, rfl, F, N, off, hS, ?_⟩
      refine ih (i + 1) _ (by omega) ?_
      rw [List.take_add_one, hk]
      simpa using kct_snoc hy
  rw [hlen]
  exact key ws.length 0 [] (by omega) .nil

/-- the list that parse_http_list gives back -/
noncomputable def httpL (S : Str) : List Str :=
  let r := hrun (KStt.codes S)
  (if r.part.length = 0 then r.res else r.res ++ [r.part]).map Txt.strip

theorem off1_mem {D : Addr} : ∀ {l : List (Addr × Obj)}, LCg.Off1 D l → ∀ p ∈ l, p.1 ≠ D
  | [], _, _, h => nomatch h
  | _ :: _, x, p, h => by
    rcases List.mem_cons.mp h with rfl | h
    · exact x.1
    · exact off1_mem x.2 p h
theorem httpL_some {S : Str} {res : List Str} {part : Str} {esc quo : Bool} (h : HInv (KStt.codes S) res part esc quo) (hp : (part.length : Int) ≠ 0) : httpL S = (res ++ [part]).map Txt.strip := by
  unfold httpL
  rw [h.1]
  have : ¬ part.length = 0 := by omega
  simp only [if_neg this]
theorem httpL_none {S : Str} {res : List Str} {part : Str} {esc quo : Bool} (h : HInv (KStt.codes S) res part esc quo) (hp : (part.length : Int) = 0) : httpL S = res.map Txt.strip := by
  unfold httpL
  rw [h.1]
  have : part.length = 0 := by omega
  simp only [if_pos this]
section
theorem http_claim (w : World) (S : Str) (t1 : Tok) (hS : S.length ≤ 1000) (p : Program) (loose : List Str) (mean : ExcName → Option Value) (mg mb : Str → Option Value) (news : List (Addr × Obj))
    (dp un : Nat) (gd : Option (List Code)) (cn : Str) (cs : Scope) (a : Addr) (ccd : Value) (cl : List (Str × Addr)) (outer : List Env) (A₀ : Around) (base h₀ : Heap) (L : Addr) (m : Str → Option Value) (s : Shared) (Q E : Value → Shared → Prop)
    (hB : Below A₀ base outer h₀) (hF : Fr h₀ L s.heap m) (hK : (hd.heap_39 w.params).In h₀) (hN : News h₀ L s.heap news) (hT : Top p loose mean mg mb h₀) (hk : cs.kind = .function)
    (hdp : dp + 1 < recursionLimit) (hun : un + 8 < cLine)
    (hret : RetL h₀ L m news s Q (fun v new => ∃ D ys, v = .ref D ∧ new = [(D, LCg.lst ys)] ∧ StrsAre ys (httpL S))) :
      wpAny (model Challenge.rw_nq0068_01.row.prog w) (ktrTop dp un gd cn cs L a ccd cl outer) (call (.ref 26) [.str S t1]) Q E s := by
  k_with_none
  (k_with "eval ListComp" => (k_here; k_dflt (refine LCg.ListComp_U (F₀ := by k_asm) (by with_unfolding_all rfl) (by decide) (by rfl) (by decide) (by rfl) ?_)))
  (k_with "CompSrc" => (k_here; k_dflt (refine LCg.CompSrc.ledger (by rfl) (by k_asm) (by k_asm) (by k_mem) ?sz ?_); (case sz => (simp only [List.size_toArray, Array.size_push, sizeLine_eq]; omega)); intro g'))
  revert hK; k_fill; intro hK
  refine wpAny_call ?_
  k_dflt cell_enter
  iterate 20 (first | (k_unfold; (try dsimp only)) | (k_end; kc_close) | walk1 | (dsimp only; walk1) | (leave1; walk_say "STEP leave1"; (try dsimp only)))
  (rename Fr _ _ _ _ => lF')
  (rename News _ _ _ _ => lN')
  (with_unfolding_all refine' For_invVF lF' ?k1 ?k2 ?_; (case k1 => exact rfl); (case k2 => exact rfl); k_whole)
  (first | (k_unfold; (try dsimp only)) | (k_end; kc_close) | walk1 | (dsimp only; walk1) | (leave1; walk_say "STEP leave1"; (try dsimp only)))
  (with_reducible rename ∀ p ∈ news, p.1 < _ => l1)
  have l1' := l1
  rename_i l' _ _ _ _ _ 
  k_dflt refine' http_for lF' lN' rfl rfl rfl rfl ?_ ?_
  · clear lF' lN'
    intro us n part tp esc quo res pre post k t h9 tk9 own hcodes hoff hus hinv F9 N9
    have hl := KStt.codes_length S
    rw [hcodes] at hl
    simp only [List.length_append, List.length_cons] at hl
    have hb1 := hinv.2.1
    have hb2 := hinv.2.2.1
    have hul : us.length = res.length := hus.length
    have hal : ∀ p ∈ news ++ own, p.1 ≠ l' := fun p hp => (List.mem_append.mp hp).elim (fun h => Nat.ne_of_lt (l1 p h)) (hoff p)
    have hone := one_len k
    cases esc
    · cases quo
      · k_steps
        · dsimp only
          exact HTurn.finP (.inr rfl) (by assumption) (by assumption) (KStt.strs_snoc hus) (HInv.snoc hinv (hs5 (by assumption))) rfl rfl rfl rfl (fun z h1 h2 h3 h4 h5 => by simp only [if_neg h1, if_neg h2, if_neg h3, if_neg h4, if_neg h5])
        · dsimp only
          exact HTurn.fin (.inl rfl) (by assumption) (by assumption) hus (HInv.snoc hinv (hs6 (by assumption) (by assumption))) rfl rfl rfl rfl (fun z h1 h2 h3 h4 h5 => by simp only [if_neg h1, if_neg h2, if_neg h3, if_neg h4, if_neg h5])
        · dsimp only
          exact HTurn.fin (.inl rfl) (by assumption) (by assumption) hus (HInv.snoc hinv (hs7 (by assumption) (by assumption))) rfl rfl rfl rfl (fun z h1 h2 h3 h4 h5 => by simp only [if_neg h1, if_neg h2, if_neg h3, if_neg h4, if_neg h5])
      · k_steps
        all_goals dsimp only
        · refine HTurn.fin (.inr rfl) (by assumption) (by assumption) hus (HInv.snoc hinv (hs2 (by assumption))) rfl rfl rfl rfl ?_
          exact fun z h1 h2 h3 h4 h5 => by simp only [if_neg h1, if_neg h2, if_neg h3, if_neg h4, if_neg h5]
        · exact HTurn.fin (.inr rfl) (by assumption) (by assumption) hus (HInv.snoc hinv (hs3 (by assumption) (by assumption))) rfl rfl rfl rfl (fun z h1 h2 h3 h4 h5 => by simp only [if_neg h1, if_neg h2, if_neg h3, if_neg h4, if_neg h5])
        · exact HTurn.fin (.inr rfl) (by assumption) (by assumption) hus (HInv.snoc hinv (hs4 (by assumption) (by assumption))) rfl rfl rfl rfl (fun z h1 h2 h3 h4 h5 => by simp only [if_neg h1, if_neg h2, if_neg h3, if_neg h4, if_neg h5])
    · k_steps
      all_goals dsimp only
      exact HTurn.fin (.inr rfl) (by assumption) (by assumption) hus (HInv.snoc hinv (hs1 _)) rfl rfl rfl rfl (fun z h1 h2 h3 h4 h5 => by simp only [if_neg h1, if_neg h2, if_neg h3, if_neg h4, if_neg h5])
  · clear lF' lN'
    intro us n part tp esc quo res v h9 tk9 hus hinv F9 N9
    have hl := KStt.codes_length S
    have hb1 := hinv.2.1
    have hb2 := hinv.2.2.1
    have hul : us.length = res.length := hus.length
    have hal : ∀ p ∈ news, p.1 ≠ l' := fun p hp => Nat.ne_of_lt (l1 p hp)
    iterate 30 (all_goals try (first | (k_unfold; (try dsimp only)) | (k_end; kc_close) | walk1 | (dsimp only; walk1) | (leave1; walk_say "STEP leave1"; (try dsimp only))))
    · refine kcs_rest (ws := res ++ [part]) Txt.strip (by rw [Array.toList_push]; exact KStt.strs_snoc hus) ?_ ?_ ?_
      · intro y t I oI C oC D m₂ ys h tk E' hy hC hx F N off hS2
        have hyl : y.length ≤ 1000 := by
          rcases List.mem_append.mp hy with q | q
          · have := hinv.2.2.2 y q; omega
          · rw [List.mem_singleton.mp q]; omega
        iterate 5 (first | (k_unfold; (try dsimp only)) | (k_end; kc_close) | walk1 | (dsimp only; walk1) | (leave1; walk_say "STEP leave1"; (try dsimp only)))
        refine SCL.strip (hsz := by rw [sizeLine_eq]; omega) ?_
        intro t' k' _
        exact ⟨t', k', rfl, rfl⟩
      · exact .inr ⟨_, .head _, rfl, _, rfl⟩
      · intro ys hys
        intro D' h' tk' F' N' o1'
        k_steps
        refine hret _ [(D', LCg.lst ys)] _ _ ⟨D', ys, rfl, rfl, ?_⟩ (by assumption) ?_ ?_
        · rw [httpL_some hinv (by assumption)]
          exact hys
        · exact cb_drop (by assumption) fun p hp => by
            rcases List.mem_cons.mp hp with rfl | hp
            · exact .head _
            · exact .tail _ (.tail _ hp)
        · intro p hp q hq
          rw [List.mem_singleton.mp hp]
          exact off1_mem o1' q (.tail _ hq)
    · refine kcs_rest (ws := res) Txt.strip (hus) ?_ ?_ ?_
      · intro y t I oI C oC D m₂ ys h tk E' hy hC hx F N off hS2
        have hyl : y.length ≤ 1000 := by
          have := hinv.2.2.2 y hy; omega
        iterate 5 (first | (k_unfold; (try dsimp only)) | (k_end; kc_close) | walk1 | (dsimp only; walk1) | (leave1; walk_say "STEP leave1"; (try dsimp only)))
        refine SCL.strip (hsz := by rw [sizeLine_eq]; omega) ?_
        intro t' k' _
        exact ⟨t', k', rfl, rfl⟩
      · exact .inr ⟨_, .head _, rfl, _, rfl⟩
      · intro ys hys
        intro D' h' tk' F' N' o1'
        k_steps
        refine hret _ [(D', LCg.lst ys)] _ _ ⟨D', ys, rfl, rfl, ?_⟩ (by assumption) ?_ ?_
        · rw [httpL_none hinv (by assumption)]
          exact hys
        · exact cb_drop (by assumption) fun p hp => by
            rcases List.mem_cons.mp hp with rfl | hp
            · exact .head _
            · exact .tail _ (.tail _ hp)
        · intro p hp q hq
          rw [List.mem_singleton.mp hp]
          exact off1_mem o1' q (.tail _ hq)
end
end Mine

end
section
namespace Mine
set_option maxRecDepth 100000
/-- a call of a def that catches, from a frame that stands on the module's own: the caller may have cells -/
theorem code_S {prog : Program} {w : World} {A₀ A : Around} {s : Shared} {base h₀ : Heap} {L : Addr} {m : Str → Option Value} {env : Env} {news : List (Addr × Obj)} {K : Frag} {p : Program} {loose : List Str} {mean : ExcName → Option Value} {mg mb : Str → Option Value}
    {R : Result → Shared → Prop} {name qual : Str} {params : Arguments} {body : List Stmt} {scope : Scope} {dV kV doc pm cdv ct oc : Value} {an od : Option Addr} {osl : Array (Option Value)} {f : Addr} {args : Args} {binds : List (Str × Value)}
    (B : Below A₀ base [] h₀) (F : Fr h₀ L s.heap m) (X₀ : K.In h₀) (N : News h₀ L s.heap news) (T : Top p loose mean mg mb h₀) (hA : A.frames = some [env]) (hf : env.frame = some L) (hke : env.scope.kind = .function)
    (ho : K.lookup f = some ⟨oc, od, .func (fnOf name qual params body scope dV kV doc pm an cdv ct), osl⟩) (hcd : codeIn K cdv qual = true) (hroom : A.depth < recursionLimit)
    (hbind : BindsTo s (fnOf name qual params body scope dV kV doc pm an cdv ct) args binds) (hloc : ∀ y ∈ binds, scope.names.lookup y.1 = some .local)
    (h : ∀ g L' h₁, Fr h₀ L g m → Fr g L' h₁ (fun y => binds.reverse.lookup y) → News g L' h₁ news → Below A base [env] g → K.In g → Top p loose mean mg mb g → KtsDicts ([env].filterMap (·.frame)) g →
      wpAny (model prog w) (A.deeper (envOf qual scope L' f cdv)) (execs body (envOf qual scope L' f cdv))
        (fun fl s' => LeaveS0 ([env].filterMap (·.frame)) h₀ L m g R (match fl with | .ret v => v | _ => .none) s')
        (fun e s' => wpAny (model prog w) (A.deeper (envOf qual scope L' f cdv)) (leaving (envOf qual scope L' f cdv) e) (fun _ s'' => R (.error e) s'') (fun e' s'' => R (.error e') s'') s')
        { s with heap := h₁, toks := s.toks + binds.length })
    (hco : scope.isCoroutine = false) (hgen : scope.isGenerator = false) (hk : scope.kind = .function)
    (hcell : ∀ x ∈ scope.names, x.2 ≠ .cell) : codeAny (model prog w) A (.call (.ref f) args) R s := by
  have X := X₀.keeps F.keep
  obtain ⟨FG, BG, st, _⟩ := groundX (R := R) B F N hA hf hke
  have hfs : [env].filterMap (·.frame) = [L] := by simp [hf]
  refine codeAny_call_def (fd := fnOf name qual params body scope dV kV doc pm an cdv ct) (body := body) (binds := binds) hroom (X _ _ ho) rfl (T.nolimit.keeps F.keep) (codeRec_of X hcd) rfl hbind hcell hloc (fun h₁ hns hk₁ => ?_) hco hgen hk
  obtain ⟨oL, es, ep, hLg, hLd, hLk, hLf⟩ := id FG.ns
  refine wpAny_mono (h _ s.heap.objs.size h₁ FG ⟨hns, fun b o e => hk₁ b o (of_hideAll _ e), Nat.le_of_eq (hideAll_size _ _)⟩
    (fun p hp => ⟨hk₁ _ _ (N p hp).1, Nat.ne_of_lt (Heap.lt_size (N p hp).1), hideAll_none _ (List.mem_map_of_mem hp)⟩) BG (X₀.keeps st) (T.keeps st) (fun b hb => by
      rw [hfs] at hb
      rw [List.mem_singleton.mp hb]
      exact ⟨oL, es, ep, hLg, hLd⟩)) (fun fl s' hl => ?_) fun _ _ y => y
  obtain ⟨g', L', m', news', T', F', N', k⟩ := hl
  rw [hfs] at T'
  have nL₀ : h₀.get? L = none := kts_self F
  obtain ⟨sl, hs⟩ := T'.up hLg
  refine k ⟨⟨_, es, ep, F'.keep _ _ hs, hLd, hLk, hLf⟩, fun b o e => F'.keep b o (T'.other b o (st b o e) fun q => ?_), F.above⟩ fun p hp => ⟨(N' p hp).1, fun q => ?_, ?_⟩
  · rw [List.mem_singleton.mp q, nL₀] at e
    cases e
  · have := (N' p hp).2.2
    rw [q, hs] at this
    cases this
  · cases q : h₀.get? p.1 with
    | none => rfl
    | some o =>
      obtain ⟨sl', hs'⟩ := T'.up (st _ _ q)
      have := (N' p hp).2.2
      rw [hs'] at this
      cases this
end Mine

end
section
open PySem.Calls
namespace Mine
set_option maxRecDepth 100000
theorem newExc_on {h h₁ h' : Heap} {e : Addr} {X : String} (k : ∀ b o, h.get? b = some o → h₁.get? b = some o) (x : Heap.NewExc h₁ h' e X) : Heap.NewExc h h' e X :=
  ⟨fun b o q => x.keeps b o (k b o q), kts_none k x.new, x.there⟩
/-- two targets, a list of one item -/
theorem unpack_one {prog : Program} {w : World} {A : Around} {E : Value → Shared → Prop} {s : Shared} {env : Env} {l : Addr} {x : Value} {elts : List Expr} {k : Nat} {pos : Pos} {Q : Unit → Shared → Prop}
    (hl : s.heap.IsList l #[x]) (hh : A.handled = none) (hn : (assignEach elts env).length = 2) (hstar : (assignEach elts env).findIdx? (·.1) = none)
    (h : ∀ h' tk e, Heap.NewExc s.heap h' e "ValueError" → E (.ref e) { s with heap := h', toks := tk }) :
    wpAny (model prog w) A (assign (.Tuple elts k pos) env (.ref l)) Q E s := by
  have hlt : l ≠ s.heap.objs.size := by obtain ⟨o, ho, _⟩ := hl; exact Nat.ne_of_lt (Heap.lt_size ho)
  rw [assign_Tuple]
  refine wpAny_bind (wpAny_standAt ?_)
  unfold unpack
  rw [hn, hstar]
  refine wpAny_bind (wpAny_holding ?_)
  unfold unpackItems
  refine wpAny_bind ?_
  unfold notIterableAtAll
  refine wpAny_bind (wpAny_specialOf hl.typeIs slot_list_iter.lookup ?_)
  refine wpAny_pure ?_
  simp only [Bool.false_eq_true, if_false]
  refine wpAny_bind (wpAny_holding (wpAny_pyIter_list hl ?_))
  refine wpAny_bind (wpAny_holding ?_)
  show wpAny _ _ (pyNext (.ref s.heap.objs.size) >>= _) _ _ _
  refine wpAny_bind (wpAny_pyNext_list_item (l := l) (items := #[x]) (i := 0) (x := x) ⟨_, Heap.get?_push_size _ rfl, rfl, rfl⟩ (hl.push _) rfl fun h₁ hit₁ hs₁ => ?_)
  have hl₁ : h₁.IsList l #[x] := (hl.push _).extBut hs₁.extBut hlt
  refine wpAny_bind (wpAny_holding ?_)
  show wpAny _ _ (pyNext (.ref s.heap.objs.size) >>= _) _ _ _
  refine wpAny_bind (wpAny_pyNext_list_end hh hit₁ hl₁ rfl fun h₂ he₂ => ?_)
  refine wpAny_pure (wpAny_pure ?_)
  simp only [List.length_singleton]
  rw [if_pos (by decide)]
  refine wpAny_bind (wpAny_rule ?_)
  refine wpAny_bind ?_
  refine raiseError_exc excClass_ValueError hh (fun h' tk e hx => ?_) ?_
  · refine h h' tk e (newExc_on (fun b o q => ?_) hx)
    have hb : b ≠ s.heap.objs.size := Nat.ne_of_lt (Heap.lt_size q)
    exact he₂ b o hb (hs₁.extBut b o hb (Heap.get?_push_of_some _ q))
  · rw [sizeLine_eq]
    decide +kernel
end Mine

end
section
namespace Mine
set_option maxRecDepth 100000
set_option maxHeartbeats 8000000

noncomputable def qt : Str := Str.ofString "\""
noncomputable def eqs : Str := Str.ofString "="
noncomputable def unq (r : Str) : Str := if ((Txt.item r 0 == Str.ofString "\"") && (Txt.item r (-1) == Str.ofString "\"")) = true then Txt.slice r (some 1) (some (-1)) else r
noncomputable def KGood (x : Str) (p : Str × Str) : Prop := ∃ r, Txt.splitMax x (Str.ofString "=") 1 = [p.1, r] ∧ 0 < r.length ∧ p.2 = unq r
noncomputable def KVal (x : Str) : Prop := ∃ k, Txt.splitMax x (Str.ofString "=") 1 = [k]
noncomputable def KInd (x : Str) : Prop := ∃ k, Txt.splitMax x (Str.ofString "=") 1 = [k, Str.ofString ""]
/-- the dict's pairs, as plain data -/
noncomputable def putA (al : List (Str × Str)) (p : Str × Str) : List (Str × Str) :=
  if al.any (fun q => q.1 = p.1) then al.map (fun q => if q.1 = p.1 then (q.1, p.2) else q) else al ++ [p]
inductive Mt : List (Str × Value) → List (Str × Str) → Prop
  | nil : Mt [] []
  | cons {k v : Str} {t : Tok} {r r'} : Mt r r' → Mt ((k, .str v t) :: r) ((k, v) :: r')
theorem Mt.length {a : List (Str × Value)} {b : List (Str × Str)} (h : Mt a b) : a.length = b.length := by
  induction h with
  | nil => rfl
  | cons _ ih => simp [ih]
theorem Mt.any {a : List (Str × Value)} {b : List (Str × Str)} (h : Mt a b) (k : Str) : a.any (fun q => q.1 = k) = b.any (fun q => q.1 = k) := by
  induction h with
  | nil => rfl
  | cons _ ih => simp only [List.any_cons, ih]
theorem Mt.snoc {a : List (Str × Value)} {b : List (Str × Str)} (h : Mt a b) (k v : Str) (t : Tok) : Mt (a ++ [(k, .str v t)]) (b ++ [(k, v)]) := by
  induction h with
  | nil => exact .cons .nil
  | cons _ ih => exact .cons ih
theorem Mt.upd {a : List (Str × Value)} {b : List (Str × Str)} (h : Mt a b) (k v : Str) (t : Tok) : Mt (a.map fun q => if q.1 = k then (q.1, .str v t) else q) (b.map fun q => if q.1 = k then (q.1, v) else q) := by
  induction h with
  | nil => exact .nil
  | @cons k' v' t' _ _ _ ih =>
    simp only [List.map_cons]
    by_cases e : k' = k
    · simp only [if_pos e]; exact .cons ih
    · simp only [if_neg e]; exact .cons ih
theorem Mt.put {a : List (Str × Value)} {b : List (Str × Str)} (h : Mt a b) (k v : Str) (t : Tok) : Mt (stored a k (.str v t)) (putA b (k, v)) := by
  unfold stored putA
  rw [h.any k]
  split
  · exact h.upd k v t
  · exact h.snoc k v t
theorem unq_yes {r : Str} (h : (Txt.item r 0 == Str.ofString "\"") = true) (h' : (Txt.item r (-1) == Str.ofString "\"") = true) : unq r = Txt.slice r (some 1) (some (-1)) := by
  unfold unq; rw [h, h']; rfl
theorem unq_no1 {r : Str} (h : (Txt.item r 0 == Str.ofString "\"") = false) : unq r = r := by
  unfold unq; rw [h]; rfl
theorem unq_no2 {r : Str} (h : (Txt.item r 0 == Str.ofString "\"") = true) (h' : (Txt.item r (-1) == Str.ofString "\"") = false) : unq r = r := by
  unfold unq; rw [h, h']; rfl


theorem split_two {prog : Program} {w : World} {A : Around} {E : Value → Shared → Prop} {s : Shared} {h₀ : Heap} {L : Addr} {m : Str → Option Value} {news : List (Addr × Obj)} {x y k v : Str} {t u t3 : Tok} {Q : Value → Shared → Prop}
    (hx : Txt.splitMax x y 1 = [k, v]) (hl : x.length ≤ 1000) (hF : Fr h₀ L s.heap m) (hN : News h₀ L s.heap news) (hy : (y.length == 0) = false)
    (h : ∀ D t u h' tk, Fr h₀ L h' m → News h₀ L h' ((D, listOf #[.str k t, .str v u] 0) :: news) → (∀ p ∈ news, p.1 < D) → v.length ≤ 1000 → Q (.ref D) { s with heap := h', toks := tk }) :
    wpAny (model prog w) A (call (.builtin "str.split") [.str x t, .str y u, .int 1 t3]) Q E s := by
  refine splitN2A hF hN hy (by decide) (fun l h' tk e _ hs _ F N => ?_) (by rw [sizeLine_eq]; omega)
  rw [hx] at e
  obtain ⟨t, l', rfl, e1⟩ := KSpl.cons_of e
  obtain ⟨u, l'', rfl, e2⟩ := KSpl.cons_of e1
  have := KSpl.nil_of e2
  subst this
  have hv : v.length ≤ x.length := hs v (by simp)
  exact h _ t u h' tk F N (fun p hp => Heap.lt_size (hN p hp).1) (by omega)
theorem split_one {prog : Program} {w : World} {A : Around} {E : Value → Shared → Prop} {s : Shared} {h₀ : Heap} {L : Addr} {m : Str → Option Value} {news : List (Addr × Obj)} {x y k : Str} {t u t3 : Tok} {Q : Value → Shared → Prop}
    (hx : Txt.splitMax x y 1 = [k]) (hl : x.length ≤ 1000) (hF : Fr h₀ L s.heap m) (hN : News h₀ L s.heap news) (hy : (y.length == 0) = false)
    (h : ∀ D t h' tk, Fr h₀ L h' m → News h₀ L h' ((D, listOf #[.str k t] 0) :: news) → (∀ p ∈ news, p.1 < D) → Q (.ref D) { s with heap := h', toks := tk }) :
    wpAny (model prog w) A (call (.builtin "str.split") [.str x t, .str y u, .int 1 t3]) Q E s := by
  refine splitN2A hF hN hy (by decide) (fun l h' tk e _ hs _ F N => ?_) (by rw [sizeLine_eq]; omega)
  rw [hx] at e
  obtain ⟨t, l', rfl, e1⟩ := KSpl.cons_of e
  have := KSpl.nil_of e1
  subst this
  exact h _ t h' tk F N (fun p hp => Heap.lt_size (hN p hp).1)
noncomputable def KTurn (prog : Program) (w : World) (h₀ : Heap) (L : Addr) (J : List (Str × Value) → Prop) (dD : Addr) (keep : List (Addr × Obj)) (s : Shared) (fl : Flow) (s₂ : Shared) : Prop :=
  (fl = .next ∨ fl = .cont) ∧ ∃ h' tk' m' led o kvs, s₂ = { s with heap := h', toks := tk' } ∧ Fr h₀ L h' m' ∧ News h₀ L h' led ∧ (∀ p ∈ (dD, o) :: keep, p ∈ led) ∧ m' (Str.ofString "parsed") = some (.ref dD) ∧ o.IsDictOf (PySem.strKind prog w) kvs ∧ J kvs
theorem keqv_for {prog : Program} {w : World} {A : Around} {E : Value → Shared → Prop} {s : Shared} {env : Env} {h₀ : Heap} {body : List Stmt} {Q : Flow → Shared → Prop} {m₀ : Str → Option Value} {dD D9 : Addr} {o₀ : Obj} {ys : List Value} {news : List (Addr × Obj)}
    (J : Nat → List (Str × Value) → Prop) (F : Fr h₀ env.locals s.heap m₀) (N : News h₀ env.locals s.heap ((dD, o₀) :: (D9, LCg.lst ys) :: news)) (hd₀ : o₀.IsDictOf (PySem.strKind prog w) []) (hm : m₀ (Str.ofString "parsed") = some (.ref dD)) (h0 : J 0 [])
    (turn : ∀ i v (m₁ : Str → Option Value) o kvs h tk I oI, ys[i]? = some v → J i kvs → o.IsDictOf (PySem.strKind prog w) kvs → dD ≠ I → D9 ≠ I → (∀ p ∈ news, p.1 ≠ I) →
      Fr h₀ env.locals h (fun y => if y = Str.ofString "elt" then some v else if y = Str.ofString "parsed" then some (.ref dD) else m₁ y) → News h₀ env.locals h ((I, oI) :: (dD, o) :: (D9, LCg.lst ys) :: news) →
      wpAny (model prog w) A (execs body env) (KTurn prog w h₀ env.locals (J (i + 1)) dD ((I, oI) :: (D9, LCg.lst ys) :: news) s) E { s with heap := h, toks := tk })
    (done : ∀ o kvs (m₁ : Str → Option Value) h tk, J ys.length kvs → o.IsDictOf (PySem.strKind prog w) kvs → Fr h₀ env.locals h (fun y => if y = Str.ofString "parsed" then some (.ref dD) else m₁ y) → News h₀ env.locals h ((dD, o) :: (D9, LCg.lst ys) :: news) → Q .next { s with heap := h, toks := tk })
    (hh : A.handled = none := by rfl) :
    wpAny (model prog w) A (pyIter (.ref D9)) (fun it s₂ => LoopAtV prog w A h₀ env (Str.ofString "elt") body Q E it s₂) E s := by
  have fix : ∀ (m₁ : Str → Option Value), m₁ (Str.ofString "parsed") = some (.ref dD) → (fun y => if y = Str.ofString "parsed" then some (Value.ref dD) else m₁ y) = m₁ := fun m₁ e => by
    funext y
    by_cases hy : y = Str.ofString "parsed"
    · rw [if_pos hy, hy, e]
    · rw [if_neg hy]
  refine iter_vals (vs := ys) (fun i m nx => ∃ o kvs, nx = (dD, o) :: (D9, LCg.lst ys) :: news ∧ m (Str.ofString "parsed") = some (.ref dD) ∧ o.IsDictOf (PySem.strKind prog w) kvs ∧ J i kvs) F N (.tail _ (.head _)) ⟨o₀, [], rfl, hm, hd₀, h0⟩ ?_ ?_ ?_ rfl ⟨_, rfl⟩ hh
  · rintro i m nx ⟨o, kvs, rfl, _⟩
    exact .tail _ (.head _)
  · rintro i v m₁ nx h tk I oI hv ⟨o, kvs, rfl, hm₁, hd, hJ⟩ ho F1 N1
    refine wpAny_mono (turn i v m₁ o kvs h tk I oI hv hJ hd (ho _ (.head _)) (ho _ (.tail _ (.head _))) (fun p hp => ho p (.tail _ (.tail _ hp))) ?_ N1) (fun fl s₂ hT => ?_) fun _ _ e => e
    · have e := fix m₁ hm₁
      have e' : (fun y => if y = Str.ofString "elt" then some v else if y = Str.ofString "parsed" then some (Value.ref dD) else m₁ y) = fun y => if y = Str.ofString "elt" then some v else m₁ y := by
        funext y
        by_cases hy : y = Str.ofString "elt"
        · rw [if_pos hy, if_pos hy]
        · rw [if_neg hy, if_neg hy]
          exact congrFun e y
      rw [e']
      exact F1
    · obtain ⟨hfl, h', tk', m', led, o', kvs', rfl, F', N', hs, hp, hd', hJ'⟩ := hT
      refine TEnd.go (nx := (dD, o') :: (D9, LCg.lst ys) :: news) hfl F' N' ?_ ?_ ⟨o', kvs', rfl, hp, hd', hJ'⟩
      · intro p hp
        rcases List.mem_cons.mp hp with rfl | hp
        · exact hs _ (.tail _ (.head _))
        · rcases List.mem_cons.mp hp with rfl | hp
          · exact hs _ (.head _)
          · exact hs _ (.tail _ (.tail _ hp))
      · intro p hp
        rcases List.mem_cons.mp hp with rfl | hp
        · exact ho (dD, o) (.head _)
        · exact ho p (.tail _ hp)
  · rintro m₁ nx h tk ⟨o, kvs, rfl, hm₁, hd, hJ⟩ F1 N1
    exact done o kvs m₁ h tk hJ hd (by rw [fix m₁ hm₁]; exact F1) N1
theorem KTurn.fin {prog : Program} {w : World} {h₀ : Heap} {L : Addr} {J : List (Str × Value) → Prop} {dD : Addr} {keep led : List (Addr × Obj)} {s : Shared} {fl : Flow} {h' : Heap} {tk' : Nat} {m' : Str → Option Value} {o : Obj} {kvs : List (Str × Value)}
    (hfl : fl = .next ∨ fl = .cont) (F : Fr h₀ L h' m') (N : News h₀ L h' led) (hs : ∀ p ∈ (dD, o) :: keep, p ∈ led) (hm : m' (Str.ofString "parsed") = some (.ref dD)) (hd : o.IsDictOf (PySem.strKind prog w) kvs) (hJ : J kvs) : KTurn prog w h₀ L J dD keep s fl { s with heap := h', toks := tk' } :=
  ⟨hfl, h', tk', m', led, o, kvs, rfl, F, N, hs, hm, hd, hJ⟩
noncomputable abbrev tupO (k v : Str) (s t : Tok) : Obj := { cls := .type "tuple", data := .seq #[.str k s, .str v t] }
theorem sub3 {a b c d : Addr × Obj} {r : List (Addr × Obj)} : ∀ p ∈ c :: b :: d :: r, p ∈ a :: b :: c :: d :: r := by
  intro p hp
  rcases List.mem_cons.mp hp with rfl | hp
  · exact .tail _ (.tail _ (.head _))
  · rcases List.mem_cons.mp hp with rfl | hp
    · exact .tail _ (.head _)
    · exact .tail _ (.tail _ (.tail _ hp))
theorem strs_at : ∀ {us : List Value} {ws : List Str}, StrsAre us ws → ∀ (i : Nat) (v : Value), us[i]? = some v → ∃ y t, ws[i]? = some y ∧ v = .str y t := by
  intro us ws h
  induction h with
  | nil => intro i v e; simp at e
  | cons y t _ ih =>
    intro i v e
    cases i with
    | zero => simp at e; exact ⟨y, t, rfl, e.symm⟩
    | succ i => simp at e; simpa using ih i v e
section

theorem read_claim (w : World) (S : Str) (t1 : Tok) (hS : S.length ≤ 1000) (gs tl : List Str) (ks : List (Str × Str)) (hx : httpL S = gs ++ tl) (hg : gs.length = ks.length ∧ ∀ (i : Nat) x p, gs[i]? = some x → ks[i]? = some p → KGood x p) (hl : ∀ x ∈ gs ++ tl, x.length ≤ 1000)
    (hk3 : ∀ i, ((ks.take i).foldl putA []).length ≤ 3) (out : Nat) (v0 v1 v2 : Str) (hal3 : out = 0 → ks.foldl putA [] = [(Str.ofString "u", v0), (Str.ofString "G", v1), (Str.ofString "o", v2)]) (htl : (out = 0 ∧ tl = []) ∨ (out = 1 ∧ ∃ x, tl = [x] ∧ KVal x) ∨ (out = 2 ∧ ∃ x, tl = [x] ∧ KInd x))
    (p : Program) (loose : List Str) (mean : ExcName → Option Value) (mg mb : Str → Option Value) (news : List (Addr × Obj))
    (dp un : Nat) (gd : Option (List Code)) (cn : Str) (cs : Scope) (a : Addr) (ccd : Value) (cl : List (Str × Addr)) (A₀ : Around) (base h₀ : Heap) (L : Addr) (m : Str → Option Value) (s : Shared) (Q E : Value → Shared → Prop)
    (hKb : (hd.heap_39 w.params).In base) (hTb : Top p loose mean mg mb base) (hB : Below A₀ base [] h₀) (hF : Fr h₀ L s.heap m) (hK : (hd.heap_39 w.params).In h₀) (hN : News h₀ L s.heap news) (hT : Top p loose mean mg mb h₀) (hk : cs.kind = .function)
    (hdp : dp + 4 < recursionLimit) (hun : un + 32 < cLine)
    (hret : RetL h₀ L m news s Q (fun v new => (out = 0 ∧ ∃ (B a0 a1 a2 : Addr) (c : Nat) (s0 t0 s1 t1 s2 t2 : Tok), v = .ref B ∧ new = [(a2, tupO (Str.ofString "o") v2 s2 t2), (a1, tupO (Str.ofString "G") v1 s1 t1), (a0, tupO (Str.ofString "u") v0 s0 t0), (B, listOf #[.ref a0, .ref a1, .ref a2] c)] ∧ B < a0 ∧ a0 < a1 ∧ a1 < a2) ∨ (out = 1 ∧ new = [] ∧ ∃ t, v = .str (Str.ofString "ValueError") t) ∨ (out = 2 ∧ new = [] ∧ ∃ t, v = .str (Str.ofString "IndexError") t))) :
      wpAny (model Challenge.rw_nq0068_01.row.prog w) (ktrTop dp un gd cn cs L a ccd cl []) (call (.ref 136) [.str S t1]) Q E s := by
  k_with_none
  (k_with "setItem ref str" => (k_here; k_dflt (refine' kda_set (knd := PySem.strKind _ _) ?F ?N ?U ?d (strKind_is _ _ _ _) ?z ?_; (case F => k_asm); (case N => k_asm); (case U => exact UpdF.tail (by k_ne) (UpdF.tail (by assumption) (UpdF.head (by assumption)))); (case d => assumption); (case z => (rw [sizeLine_eq]; omega))); intro h' o' F' N' hd'; (try dsimp only at N')))
  (k_with "call builtin:str.split" => (k_here; (with_reducible show wpAny _ _ (call (Value.builtin "str.split") [_, _, _]) _ _ _); k_dflt (refine' split_two ?kx ?kl ?k1 ?k2 ?ky ?_; (case kx => assumption); (case kl => assumption); (case k1 => k_asm); (case k2 => k_asm); (case ky => decide)); intro D' t' u' h' tk' F' N' l1 hv'; (try k_lt l1)))
  (k_with "call builtin:str.split" => (k_here; (with_reducible show wpAny _ _ (call (Value.builtin "str.split") [_, _, _]) _ _ _); k_dflt (refine' split_one ?kx ?kl ?k1 ?k2 ?ky ?_; (case kx => assumption); (case kl => assumption); (case k1 => k_asm); (case k2 => k_asm); (case ky => decide)); intro D' t' h' tk' F' N' l1; (try k_lt l1)))
  (k_with "call ref" => (k_here; (with_reducible show wpAny _ _ (call (Value.ref 26) [Value.str _ _]) _ _ _); k_dflt (refine' http_claim _ _ _ ?kS _ _ _ _ _ _ _ _ _ _ _ _ _ _ _ _ _ _ _ _ _ _ _ ?k1 ?k2 ?k3 ?k4 ?k5 ?k6 ?kd ?ku ?_; (case kS => assumption); (case k1 => k_asm); (case k2 => k_asm); (case k3 => k_asm); (case k4 => k_asm); (case k5 => k_asm); (case k6 => exact rfl); (case kd => ktr_room); (case ku => ktr_units)); intro v9 new9 h9 tk9 hv9 F9 N9 ne9; obtain ⟨D9, ys9, hvE9, hnE9, hys9⟩ := hv9; subst hvE9; subst hnE9))
  revert hK; k_fill; intro hK
  refine wpAny_call ?_
  k_dflt (refine' code_S ?k1 ?k2 ?k3 ?k4 ?k5 ?kA ?kF ?kK ?k6 ?k7 ?k8 ?k9 ?kB ?_ ?c2 ?c3 ?c4 ?c5; (case kA => exact rfl); (case kF => exact rfl); (case kK => assumption); (case k1 => exact hB); (case k2 => exact hF); (case k3 => exact hK); (case k4 => exact hN); (case k5 => exact hT); (case k6 => k_is); (case k7 => k_is); (case k8 => ktr_room); (case k9 => exact BindsTo.of_eq rfl); (case c5 => decide); (case kB => exact locs rfl); (case c2 => exact rfl); (case c3 => exact rfl); (case c4 => exact rfl); k_whole; intro g' L' h' FG' F' N' B' X' T' D'; (try dsimp only); (try k_lift B'); (try k_fold))
  iterate 24 (first | (k_unfold; (try dsimp only)) | (k_end; kc_close) | walk1 | (dsimp only; walk1) | (leave1; walk_say "STEP leave1"; (try dsimp only)))
  iterate 7 (first | (k_unfold; (try dsimp only)) | (k_end; kc_close) | walk1 | (dsimp only; walk1) | (leave1; walk_say "STEP leave1"; (try dsimp only)))
  (rename Fr _ _ _ _ => lF')
  (rename News _ _ _ _ => lN')
  (with_unfolding_all refine' For_invVF lF' ?k1 ?k2 ?_; (case k1 => exact rfl); (case k2 => exact rfl); k_whole)
  (first | (k_unfold; (try dsimp only)) | (k_end; kc_close) | walk1 | (dsimp only; walk1) | (leave1; walk_say "STEP leave1"; (try dsimp only)))
  simp only [List.cons_append, List.nil_append] at lN'
  (rename (_ == sysModules) = false => loD)
  (rename Obj.IsDictOf (PySem.strKind _ _) _ _ => hsD)
  (rename StrsAre _ _ => hys)
  rw [hx] at hys
  (with_reducible rename ∀ p ∈ _ ++ news, p.1 < _ => l1D)
  simp only [List.cons_append, List.nil_append] at l1D
  have hal := fun p hp => Nat.ne_of_lt (l1D p hp)
  k_dflt refine' keqv_for (fun i kvs => i ≤ ks.length ∧ Mt kvs ((ks.take i).foldl putA [])) lF' lN' hsD rfl ⟨Nat.zero_le _, .nil⟩ ?_ ?_
  · rintro i v m₁ o kvs h tk I oI hv ⟨hi, hJ⟩ hd hI1 hI2 hI3 F1 N1
    clear lF' lN'
    have hkl : kvs.length ≤ 3 := by rw [hJ.length]; exact hk3 i
    obtain ⟨x, tx, hxi, rfl⟩ := strs_at hys i v hv
    have hxl : x.length ≤ 1000 := hl x (List.mem_of_getElem? hxi)
    by_cases hlt : i < gs.length
    · rw [List.getElem?_append_left hlt] at hxi
      obtain ⟨⟨k, v⟩, hp⟩ : ∃ p, ks[i]? = some p := ⟨ks[i]'(by omega), by simp⟩
      obtain ⟨r, hsp, hrl, hu⟩ := hg.2 i x _ hxi hp
      dsimp only at hsp hu
      have hnext : ∀ t, Mt (stored kvs k (.str v t)) ((ks.take (i + 1)).foldl putA []) := fun t => by
        rw [List.take_add_one, hp]
        simpa using hJ.put k v t
      have hI1' := Ne.symm hI1
      k_steps
      · refine KTurn.fin (.inl rfl) (by assumption) (by assumption) sub3 rfl (by assumption) ⟨by omega, ?_⟩
        rw [← unq_yes (by assumption) (by assumption), ← hu]
        exact hnext _
      · refine KTurn.fin (.inl rfl) (by assumption) (by assumption) sub3 rfl (by assumption) ⟨by omega, ?_⟩
        have e := hu.trans (unq_no2 (by assumption) (by assumption))
        rw [← e]
        exact hnext _
      · refine KTurn.fin (.inl rfl) (by assumption) (by assumption) sub3 rfl (by assumption) ⟨by omega, ?_⟩
        have e := hu.trans (unq_no1 (by assumption))
        rw [← e]
        exact hnext _
    · have hge : gs.length ≤ i := Nat.le_of_not_lt hlt
      rw [List.getElem?_append_right hge] at hxi
      rcases htl with ⟨_, rfl⟩ | ⟨ho1, y, rfl, k, hsp⟩ | ⟨ho2, y, rfl, k, hsp⟩
      · simp at hxi
      · have hxy : y = x := by
          rcases Nat.eq_zero_or_pos (i - gs.length) with e | e
          · rw [e] at hxi; simpa using hxi
          · rw [List.getElem?_eq_none (by rw [List.length_singleton]; exact e)] at hxi; cases hxi
        subst hxy
        iterate 12 (first | (k_unfold; (try dsimp only)) | (k_end; kc_close) | walk1 | (dsimp only; walk1) | (leave1; walk_say "STEP leave1"; (try dsimp only)))
        (rename News _ _ _ _ => lN')
        k_dflt refine' unpack_one ⟨_, (lN' _ (.head _)).1, rfl, _, rfl⟩ rfl rfl rfl ?_
        intro hX tkX eX xX
        clear hsD
        k_steps
        exact hret _ [] _ _ (.inr (.inl ⟨ho1, rfl, _, rfl⟩)) (by assumption) (cb_drop (by assumption) fun p hp => .tail _ (.tail _ (.tail _ (.tail _ hp)))) (fun _ h => nomatch h)
      · have hxy : y = x := by
          rcases Nat.eq_zero_or_pos (i - gs.length) with e | e
          · rw [e] at hxi; simpa using hxi
          · rw [List.getElem?_eq_none (by rw [List.length_singleton]; exact e)] at hxi; cases hxi
        subst hxy
        iterate 28 (first | (k_unfold; (try dsimp only)) | (k_end; kc_close) | walk1 | (dsimp only; walk1) | (leave1; walk_say "STEP leave1"; (try dsimp only)))
        k_dflt (refine' item_str_or ?ka ?kb ?_ ?kc ?kd ?ke; (case ka => exact rfl); (case kb => decide); (case kd => with_unfolding_all rfl); (case ke => (intro _; with_unfolding_all rfl)); (case kc => (intro _ h0; exact absurd h0 (by decide))))
        intro _ hX tkX eX xX
        clear hsD
        k_steps
        exact hret _ [] _ _ (.inr (.inr ⟨ho2, rfl, _, rfl⟩)) (by assumption) (cb_drop (by assumption) fun p hp => .tail _ (.tail _ (.tail _ (.tail _ hp)))) (fun _ h => nomatch h)
  · rintro o kvs m₁ h tk ⟨hle, hM⟩ hd F1 N1
    clear lF' lN' hsD
    have hlen := hys.length
    rcases htl with ⟨ho0, rfl⟩ | ⟨ho1, y, rfl, k, hsp⟩ | ⟨ho2, y, rfl, k, hsp⟩
    · rw [List.append_nil] at hlen
      rw [hlen, hg.1, List.take_length, hal3 ho0] at hM
      cases hM with
      | cons hM => cases hM with
      | cons hM => cases hM with
      | cons hM =>
        cases hM
        rename_i t0 t1 t2
        k_steps
        (rename Fr _ _ _ _ => lF'); (rename News _ _ _ _ => lN')
        (with_unfolding_all refine' kdx_listN (knd := PySem.strKind _ _) (enc := PyData.str) (ps := [(fun t => Value.str (Str.ofString "u") t, Value.str v0 t0), (fun t => Value.str (Str.ofString "G") t, Value.str v1 t1), (fun t => Value.str (Str.ofString "o") t, Value.str v2 t2)]) ?ka lF' lN' ?kb ?kc ?kd ?ke ?kf ?kg ?_)
        case ka => exact rfl
        case kb => exact .head _
        case kc => exact .tail _ (.head _)
        case kd => exact hd
        case ke => exact Nat.le_of_ble_eq_true rfl
        case kf => exact fun _ _ h => Value.isStrOf_shape h
        case kg => exact rfl
        intro B l0
        refine KdxOpen.cons ?_
        intro a0 s0 b00 b01 b02
        refine KdxOpen.cons ?_
        intro a1 s1 b10 b11 b12
        refine KdxOpen.cons ?_
        intro a2 s2 b20 b21 b22
        refine KdxOpen.nil ?_
        intro c h5 tk5 l9 F5 N5
        clear lF' lN'
        simp only [List.nil_append, List.cons_append] at N5
        k_steps
        refine hret _ [(a2, tupO (Str.ofString "o") v2 s2 t2), (a1, tupO (Str.ofString "G") v1 s1 t1), (a0, tupO (Str.ofString "u") v0 s0 t0), (B, listOf #[.ref a0, .ref a1, .ref a2] c)] _ _ (.inl ⟨ho0, B, a0, a1, a2, c, s0, t0, s1, t1, s2, t2, rfl, rfl, b00, b12 _ (.head _), b22 _ (.head _)⟩) (by assumption) ?_ ?_
        · exact cb_drop (by assumption) fun p hp => by
            simp only [List.cons_append, List.nil_append] at hp
            rcases List.mem_cons.mp hp with rfl | hp
            · exact .head _
            rcases List.mem_cons.mp hp with rfl | hp
            · exact .tail _ (.head _)
            rcases List.mem_cons.mp hp with rfl | hp
            · exact .tail _ (.tail _ (.head _))
            rcases List.mem_cons.mp hp with rfl | hp
            · exact .tail _ (.tail _ (.tail _ (.head _)))
            · exact .tail _ (.tail _ (.tail _ (.tail _ (.tail _ (.tail _ (.tail _ hp))))))
        · intro p hp q hq
          simp only [List.mem_cons, List.not_mem_nil, or_false] at hp
          rcases hp with rfl | rfl | rfl | rfl
          · exact Nat.ne_of_lt (b21 q (.tail _ (.tail _ (.tail _ hq))))
          · exact Nat.ne_of_lt (b11 q (.tail _ (.tail _ (.tail _ hq))))
          · exact Nat.ne_of_lt (b01 q (.tail _ (.tail _ (.tail _ hq))))
          · exact Nat.ne_of_lt (l0 q (.tail _ (.tail _ (.tail _ hq))))
    · exfalso
      rw [List.length_append, List.length_singleton] at hlen
      omega
    · exfalso
      rw [List.length_append, List.length_singleton] at hlen
      omega
end
end Mine

end
section
namespace Mine
set_option maxRecDepth 100000
set_option maxHeartbeats 8000000
theorem join_len {B X : Str} (hX : X.length ≤ 100) (hB : B.length ≤ 100) : (Txt.join B (signs X)).length ≤ 20000 := by
  have h := PySem.StrLaws.join_length_le B (signs X)
  have e : Txt.join B (signs X) = Str.join B (signs X) := StrLaws.glued_eq_join B (signs X)
  rw [e]
  have h1 : ((signs X).map (·.length)).sum = X.length := signs_sumLen X
  have h2 : (signs X).length * B.length ≤ 100 * 100 := Nat.mul_le_mul (by rw [signs_length]; exact hX) hB
  omega
section
theorem join_claim (w : World) (A B C X : Str) (tA tB tC tX : Tok) (P : Addr) (nP : Nat) (hA : A.length ≤ 100) (hB : B.length ≤ 100) (hC : C.length ≤ 100) (hX : X.length ≤ 100) (p : Program) (loose : List Str) (mean : ExcName → Option Value) (mg mb : Str → Option Value) (news : List (Addr × Obj))
    (hP : (P, ({ cls := .type "tuple", data := .seq #[.str A tA, .str B tB, .str C tC] nP } : Obj)) ∈ news)
    (dp un : Nat) (gd : Option (List Code)) (cn : Str) (cs : Scope) (a : Addr) (ccd : Value) (cl : List (Str × Addr)) (outer : List Env) (A₀ : Around) (base h₀ : Heap) (L : Addr) (m : Str → Option Value) (s : Shared) (Q E : Value → Shared → Prop)
    (hBl : Below A₀ base outer h₀) (hF : Fr h₀ L s.heap m) (hK : (hd.heap_39 w.params).In h₀) (hN : News h₀ L s.heap news) (hT : Top p loose mean mg mb h₀) (hk : cs.kind = .function)
    (hdp : dp + 1 < recursionLimit) (hun : un + 8 < cLine)
    (hret : ∀ t h' tk', Fr h₀ L h' m → News h₀ L h' news → Q (.str (A ++ Txt.join B (signs X) ++ C) t) { s with heap := h', toks := tk' }) :
      wpAny (model Challenge.rw_nq0068_01.row.prog w) (ktrTop dp un gd cn cs L a ccd cl outer) (call (.ref 101) [.ref P, .str X tX]) Q E s := by
  k_with_none
  revert hK; k_fill; intro hK
  refine wpAny_call ?_
  k_dflt cell_enter
  k_steps
  k_dflt (refine' join_strF ?ka ?kb ?kc ?kd ?_; (case ka => exact rfl); (case kb => k_asm); (case kc => k_asm); (case kd => exact joinOk_signsN hX hB (by decide)))
  intro h5 k5 t5 F5 N5
  have hj := join_len hX hB
  k_steps
  exact hret _ _ _ (by assumption) (by assumption)
theorem join_claim2 (w : World) (A B C X : Str) (tA tB tC tX : Tok) (P : Addr) (nP : Nat) (hA : A.length ≤ 100) (hB : B.length ≤ 100) (hC : C.length ≤ 100) (hX : X.length ≤ 100) (p : Program) (loose : List Str) (mean : ExcName → Option Value) (mg mb : Str → Option Value) (news : List (Addr × Obj))
    (hP : (P, ({ cls := .type "tuple", data := .seq #[.str A tA, .str B tB, .str C tC] nP } : Obj)) ∈ news)
    (dp un : Nat) (gd : Option (List Code)) (cn : Str) (cs : Scope) (a : Addr) (ccd : Value) (cl : List (Str × Addr)) (outer : List Env) (A₀ : Around) (base h₀ : Heap) (L : Addr) (m : Str → Option Value) (s : Shared) (Q E : Value → Shared → Prop)
    (hBl : Below A₀ base outer h₀) (hF : Fr h₀ L s.heap m) (hK : (hd.heap_39 w.params).In h₀) (hN : News h₀ L s.heap news) (hT : Top p loose mean mg mb h₀) (hk : cs.kind = .function)
    (hdp : dp + 1 < recursionLimit) (hun : un + 8 < cLine)
    (hret : ∀ V t h' tk', V = A ++ Txt.join B (signs X) ++ C → V.length ≤ 20200 → Fr h₀ L h' m → News h₀ L h' news → Q (.str V t) { s with heap := h', toks := tk' }) :
      wpAny (model Challenge.rw_nq0068_01.row.prog w) (ktrTop dp un gd cn cs L a ccd cl outer) (call (.ref 101) [.ref P, .str X tX]) Q E s := 
  join_claim w A B C X tA tB tC tX P nP hA hB hC hX p loose mean mg mb news hP dp un gd cn cs a ccd cl outer A₀ base h₀ L m s Q E hBl hF hK hN hT hk hdp hun fun t h' tk' F N => hret _ t h' tk' rfl (by
    have hj := join_len hX hB
    rw [Str.length_append, Str.length_append]
    omega) F N
end
end Mine

end
section
namespace Mine
set_option maxRecDepth 100000
set_option maxHeartbeats 8000000
noncomputable abbrev tup3 (A B C : Str) (a b c : Tok) : Obj := { cls := .type "tuple", data := .seq #[.str A a, .str B b, .str C c] }
noncomputable def wrN : Nat → Str × Str × Str
  | 0 => (Str.ofString "=", Str.ofString "", Str.ofString "")
  | 1 => (Str.ofString "='", Str.ofString "='", Str.ofString "'")
  | 2 => (Str.ofString "=\"", Str.ofString ",", Str.ofString "\"")
  | 3 => (Str.ofString "=\"\\\"", Str.ofString "\\\\\\\",", Str.ofString "\\\"\"")
  | 4 => (Str.ofString "=\"", Str.ofString "\\", Str.ofString "\"")
  | 5 => (Str.ofString "= .\"", Str.ofString ",", Str.ofString "\"")
  | 6 => (Str.ofString "=\"", Str.ofString "", Str.ofString "\"\\")
  | _ => (Str.ofString "", Str.ofString "", Str.ofString "")
noncomputable def sdN : Nat → Str × Str × Str
  | 0 => (Str.ofString "", Str.ofString "", Str.ofString "")
  | 1 => (Str.ofString "'", Str.ofString "='", Str.ofString "'")
  | 2 => (Str.ofString "", Str.ofString ",", Str.ofString "")
  | 3 => (Str.ofString "\"", Str.ofString "\\\",", Str.ofString "\"")
  | 4 => (Str.ofString "", Str.ofString "", Str.ofString "")
  | 5 => (Str.ofString " .\"", Str.ofString ",", Str.ofString "\"")
  | _ => (Str.ofString "\"", Str.ofString "", Str.ofString "\"\\")
theorem allLt_mem {d : Addr} : ∀ {l : List (Addr × Obj)}, AllLt d l → ∀ p ∈ l, p.1 < d
  | [], _, _, h => nomatch h
  | _ :: _, x, p, h => by
    rcases List.mem_cons.mp h with rfl | h
    · exact x.1
    · exact allLt_mem x.2 p h
theorem mem2 {x : Addr × Obj} {n l : List (Addr × Obj)} (h : x ∈ l) (h' : ∀ p ∈ n, p ∈ l) : ∀ p ∈ x :: n, p ∈ l := fun p hp => by
  rcases List.mem_cons.mp hp with rfl | hp
  · exact h
  · exact h' p hp
theorem tab_item {prog : Program} {w : World} {A : Around} {E : Value → Shared → Prop} {s : Shared} {h₀ : Heap} {L l : Addr} {led news : List (Addr × Obj)} {value slice : PySem.Expr} {vs : Array Value} {n k M : Nat} {u : Tok} {Q : Value → Shared → Prop} (T : Nat → Str × Str × Str)
    (N : News h₀ L s.heap ((l, listOf vs n) :: led)) (hk : k < M) (hM : M < 1000)
    (all : ∀ i < M, ∃ P ta tb tc, vs[i]? = some (.ref P) ∧ (P, tup3 (T i).1 (T i).2.1 (T i).2.2 ta tb tc) ∈ led ∧ ∀ q ∈ news, q.1 < P)
    (h : ∀ P ta tb tc, (P, tup3 (T k).1 (T k).2.1 (T k).2.2 ta tb tc) ∈ led → (∀ q ∈ news, q.1 < P) → Q (.ref P) s)
    (hs : subscripted slice false (.ref l) (.int (k : Int) u) = operate [.ref l, .int (k : Int) u] (getItem (.ref l) (.int (k : Int) u)) := by with_unfolding_all rfl) :
    wpAny (model prog w) A (subscriptTail value slice (.ref l) (.int (k : Int) u)) Q E s := by
  obtain ⟨P, ta, tb, tc, hv, hm, hl⟩ := all k hk
  have hL : s.heap.IsList l vs := ⟨_, (N _ (.head _)).1, rfl, _, rfl⟩
  exact tail_any hL.typeIs slot_list_getitem.lookup (wpAny_getItem_list hL (by omega) (by omega) (by simpa using hv) (h P ta tb tc hm hl)) hs
section
theorem wr_claim (w : World) (wy : Nat) (tw : Tok) (hw : wy < 8) (p : Program) (loose : List Str) (mean : ExcName → Option Value) (mg mb : Str → Option Value) (news : List (Addr × Obj))
    (dp un : Nat) (gd : Option (List Code)) (cn : Str) (cs : Scope) (a : Addr) (ccd : Value) (cl : List (Str × Addr)) (outer : List Env) (A₀ : Around) (base h₀ : Heap) (L : Addr) (m : Str → Option Value) (s : Shared) (Q E : Value → Shared → Prop)
    (hBl : Below A₀ base outer h₀) (hF : Fr h₀ L s.heap m) (hK : (hd.heap_39 w.params).In h₀) (hN : News h₀ L s.heap news) (hT : Top p loose mean mg mb h₀) (hk : cs.kind = .function)
    (hdp : dp + 1 < recursionLimit) (hun : un + 8 < cLine)
    (hret : ∀ P ta tb tc h' tk', Fr h₀ L h' m → News h₀ L h' ((P, tup3 (wrN wy).1 (wrN wy).2.1 (wrN wy).2.2 ta tb tc) :: news) → (∀ q ∈ news, q.1 < P) → Q (.ref P) { s with heap := h', toks := tk' }) :
      wpAny (model Challenge.rw_nq0068_01.row.prog w) (ktrTop dp un gd cn cs L a ccd cl outer) (call (.ref 87) [.int (wy : Int) tw]) Q E s := by
  k_with_none
  revert hK; k_fill; intro hK
  refine wpAny_call ?_
  k_dflt cell_enter
  iterate 88 (first | (k_unfold; (try dsimp only)) | (k_end; kc_close) | walk1 | (dsimp only; walk1) | (leave1; walk_say "STEP leave1"; (try dsimp only)))
  (rename News _ _ _ _ => kN)
  k_dflt (refine' tab_item (news := news) wrN kN hw ?kM ?_ ?_ ?kz; (case kM => decide); (case kz => with_unfolding_all rfl))
  · intro i hi
    have hc := eightN (show i < 8 by assumption)
    rcases hc with rfl | rfl | rfl | rfl | rfl | rfl | rfl | rfl
    all_goals
      refine ⟨_, _, _, _, rfl, by with_unfolding_all k_mem, ?_⟩
      first
        | assumption
        | exact allLt_mem (by assumption : _ ∧ AllLt _ news).2
        | exact allLt_mem (by assumption : _ ∧ _ ∧ AllLt _ news).2.2
        | exact allLt_mem (by assumption : _ ∧ _ ∧ _ ∧ AllLt _ news).2.2.2
        | exact allLt_mem (by assumption : _ ∧ _ ∧ _ ∧ _ ∧ AllLt _ news).2.2.2.2
        | exact allLt_mem (by assumption : _ ∧ _ ∧ _ ∧ _ ∧ _ ∧ AllLt _ news).2.2.2.2.2
        | exact allLt_mem (by assumption : _ ∧ _ ∧ _ ∧ _ ∧ _ ∧ _ ∧ AllLt _ news).2.2.2.2.2.2
        | exact allLt_mem (by assumption : _ ∧ _ ∧ _ ∧ _ ∧ _ ∧ _ ∧ _ ∧ AllLt _ news).2.2.2.2.2.2.2
  · intro P ta tb tc hP hlt
    k_steps
    exact hret _ _ _ _ _ _ (by assumption) (cb_drop (by assumption) (mem2 (.tail _ hP) (fun p hp => .tail _ (.tail _ (.tail _ (.tail _ (.tail _ (.tail _ (.tail _ (.tail _ (.tail _ (hp)))))))))))) hlt
theorem sd_claim (w : World) (wy : Nat) (tw : Tok) (hw : wy < 7) (p : Program) (loose : List Str) (mean : ExcName → Option Value) (mg mb : Str → Option Value) (news : List (Addr × Obj))
    (dp un : Nat) (gd : Option (List Code)) (cn : Str) (cs : Scope) (a : Addr) (ccd : Value) (cl : List (Str × Addr)) (outer : List Env) (A₀ : Around) (base h₀ : Heap) (L : Addr) (m : Str → Option Value) (s : Shared) (Q E : Value → Shared → Prop)
    (hBl : Below A₀ base outer h₀) (hF : Fr h₀ L s.heap m) (hK : (hd.heap_39 w.params).In h₀) (hN : News h₀ L s.heap news) (hT : Top p loose mean mg mb h₀) (hk : cs.kind = .function)
    (hdp : dp + 1 < recursionLimit) (hun : un + 8 < cLine)
    (hret : ∀ P ta tb tc h' tk', Fr h₀ L h' m → News h₀ L h' ((P, tup3 (sdN wy).1 (sdN wy).2.1 (sdN wy).2.2 ta tb tc) :: news) → (∀ q ∈ news, q.1 < P) → Q (.ref P) { s with heap := h', toks := tk' }) :
      wpAny (model Challenge.rw_nq0068_01.row.prog w) (ktrTop dp un gd cn cs L a ccd cl outer) (call (.ref 94) [.int (wy : Int) tw]) Q E s := by
  k_with_none
  revert hK; k_fill; intro hK
  refine wpAny_call ?_
  k_dflt cell_enter
  iterate 78 (first | (k_unfold; (try dsimp only)) | (k_end; kc_close) | walk1 | (dsimp only; walk1) | (leave1; walk_say "STEP leave1"; (try dsimp only)))
  (rename News _ _ _ _ => kN)
  k_dflt (refine' tab_item (news := news) sdN kN hw ?kM ?_ ?_ ?kz; (case kM => decide); (case kz => with_unfolding_all rfl))
  · intro i hi
    have hc := sevenN (show i < 7 by assumption)
    rcases hc with rfl | rfl | rfl | rfl | rfl | rfl | rfl
    all_goals
      refine ⟨_, _, _, _, rfl, by with_unfolding_all k_mem, ?_⟩
      first
        | assumption
        | exact allLt_mem (by assumption : _ ∧ AllLt _ news).2
        | exact allLt_mem (by assumption : _ ∧ _ ∧ AllLt _ news).2.2
        | exact allLt_mem (by assumption : _ ∧ _ ∧ _ ∧ AllLt _ news).2.2.2
        | exact allLt_mem (by assumption : _ ∧ _ ∧ _ ∧ _ ∧ AllLt _ news).2.2.2.2
        | exact allLt_mem (by assumption : _ ∧ _ ∧ _ ∧ _ ∧ _ ∧ AllLt _ news).2.2.2.2.2
        | exact allLt_mem (by assumption : _ ∧ _ ∧ _ ∧ _ ∧ _ ∧ _ ∧ AllLt _ news).2.2.2.2.2.2
  · intro P ta tb tc hP hlt
    k_steps
    exact hret _ _ _ _ _ _ (by assumption) (cb_drop (by assumption) (mem2 (.tail _ hP) (fun p hp => .tail _ (.tail _ (.tail _ (.tail _ (.tail _ (.tail _ (.tail _ (.tail _ (hp))))))))))) hlt
end
end Mine

end
section
open PySem.Calls
namespace Mine
set_option maxRecDepth 100000
section
variable {prog : Program} {w : World} {A : Around} {E : Value → Shared → Prop} {s : Shared}

theorem nextOf_tup_item {it t : Addr} {i : Nat} {items : Array Value} {x : Value} {Q : Value → Shared → Prop} (hit : s.heap.IsTupleIter it t i)
    (ht : s.heap.IsTuple t items) (hx : items[i]? = some x) (hQ : ∀ h', h'.IsTupleIter it t (i + 1) → Heap.SameBut it s.heap h' → Q x { s with heap := h' }) :
    wpAny (model prog w) A (Builtin.SmallTypes.nextOf (.ref it)) Q E s := by
  obtain ⟨o, ho, hc, hd⟩ := id hit
  obtain ⟨ol, hol, _, nl, hdl⟩ := ht
  unfold Builtin.SmallTypes.nextOf
  refine wpAny_bind (wpAny_callSpecial?_slot (name := Str.ofString "__next__") hit.typeIs PySem.F.slot_tuple_iterator_next
    (wpAny_call_entry PySem.F.slot_tuple_iterator_next hit.typeIs PySem.F.entry_tuple_iterator_next ?_ (PySem.F.args_tuple_iterator_next_1 _)))
  show wpAny _ _ (field (.ref it) 0 >>= _) _ _ s
  refine wpAny_bind (wpAny_field ho hd (x := .ref t) rfl ?_)
  show wpAny _ _ (if (Value.ref t == Value.none) = true then _ else _) _ _ s
  rw [if_neg (show ¬ ((Value.ref t == Value.none) = true) from Bool.false_ne_true)]
  show wpAny _ _ (field (.ref it) 1 >>= _) _ _ s
  refine wpAny_bind (wpAny_field ho hd (x := .int i 0) rfl ?_)
  show wpAny _ _ (seqItems? (.ref t) >>= _) _ _ s
  refine wpAny_bind (wpAny_seqItems hol hdl ?_)
  simp only [Int.toNat_natCast, hx]
  refine wpAny_bind (wpAny_setField ho hd (by simp) (wpAny_pure ⟨x, rfl, wpAny_pure (hQ _ ?_ (Heap.SameBut.update ..))⟩))
  exact ⟨_, Heap.get?_update_self _ ho (Obj.isFreed_of_fields (Obj.data_mapFields hd _)), (Obj.cls_mapFields ..).trans hc, by
    rw [Obj.data_mapFields hd]; simp [rawInt]⟩

theorem nextOf_tup_end {it t : Addr} {i : Nat} {items : Array Value} {Q : Value → Shared → Prop} (hh : A.handled = none)
    (hit : s.heap.IsTupleIter it t i) (ht : s.heap.IsTuple t items) (hx : items[i]? = none)
    (hE : ∀ h' e, Heap.ExtBut it s.heap h' → (∃ o, h'.get? e = some o ∧ o.cls = .type "StopIteration") → E (.ref e) { s with heap := h' }) :
    wpAny (model prog w) A (Builtin.SmallTypes.nextOf (.ref it)) Q E s := by
  obtain ⟨o, ho, hc, hd⟩ := id hit
  obtain ⟨ol, hol, _, nl, hdl⟩ := ht
  unfold Builtin.SmallTypes.nextOf
  refine wpAny_bind (wpAny_callSpecial?_slot (name := Str.ofString "__next__") hit.typeIs PySem.F.slot_tuple_iterator_next
    (wpAny_call_entry PySem.F.slot_tuple_iterator_next hit.typeIs PySem.F.entry_tuple_iterator_next ?_ (PySem.F.args_tuple_iterator_next_1 _)))
  show wpAny _ _ (field (.ref it) 0 >>= _) _ _ s
  refine wpAny_bind (wpAny_field ho hd (x := .ref t) rfl ?_)
  show wpAny _ _ (if (Value.ref t == Value.none) = true then _ else _) _ _ s
  rw [if_neg (show ¬ ((Value.ref t == Value.none) = true) from Bool.false_ne_true)]
  show wpAny _ _ (field (.ref it) 1 >>= _) _ _ s
  refine wpAny_bind (wpAny_field ho hd (x := .int i 0) rfl ?_)
  show wpAny _ _ (seqItems? (.ref t) >>= _) _ _ s
  refine wpAny_bind (wpAny_seqItems hol hdl ?_)
  simp only [Int.toNat_natCast, hx]
  refine wpAny_bind (wpAny_rule (wpAny_bind (wpAny_setField ho hd (by simp) ?_)))
  show wpAny _ _ (newExc (.type "StopIteration") [] >>= _) _ _ _
  refine wpAny_bind ?_
  simp only [newExc, newTuple]
  refine wpAny_bind (wpAny_newObj_type ?_ (by size_fits))
  refine wpAny_bind (m := firstArgMember _ _) (wpAny_of_eq (a := Value.none) (by first | rfl | (simp only [firstArgMember]; rfl)) ?_)
  refine wpAny_newObj_type ?_ (by size_fits)
  simp only [raiseNew]
  refine wpAny_bind (wpAny_handled ?_)
  first | rw [show A.in1.handled = none from hh] | rw [hh]
  refine wpAny_bind (wpAny_pure (wpAny_throw ?_))
  exact hE _ _ (((Heap.SameBut.update ..).extBut.push _).push _) ⟨_, Heap.get?_push_size _ rfl, rfl⟩

theorem draws_tup (hh : A.handled = none) (it l : Addr) (hne : l ≠ it) (items : Array Value) :
    Draws prog w A it [it, l] items.size (fun i v => items[i]? = some v) (fun i h => h.IsTupleIter it l i ∧ h.IsTuple l items) where
  live := fun _ _ st => let ⟨o, ho, _⟩ := st.1; ⟨o, ho⟩
  frame := fun _ _ _ st hk => ⟨st.1.at fun o e => hk it (by simp) o e, st.2.at fun o e => hk l (by simp) o e⟩
  item := fun i s Q E hi st hQ => by
    refine nextOf_tup_item st.1 st.2 (x := items[i]) (by simp [hi]) fun h' hit' hs' => ?_
    exact hQ _ h' s.toks (by simp [hi]) ⟨hit', st.2.extBut hs'.extBut hne⟩ hs'
  done := fun s Q E st hE => nextOf_tup_end hh st.1 st.2 (by simp) hE
end

open AutoSeq1 (wpAny_loadPart') in
theorem meets_enum_tup (l : Addr) (items : Array Value) (n : Nat) (dct : Option Addr) (sl : Array (Option Value)) :
    Meets (Builtin.«enumerate.__new__» ⟨[.type "enumerate", .ref l], []⟩) (fun _ R s => s.heap.get? l = some { cls := .type "tuple", dict := dct, data := .seq items n, slots := sl } ∧
      R (.ok (.ret (.ref (s.heap.push { cls := .type "tuple_iterator", data := .fields #[.ref l, .int 0 0] }).objs.size)))
        { s with heap := (s.heap.push { cls := .type "tuple_iterator", data := .fields #[.ref l, .int 0 0] }).push { cls := .type "enumerate", data := .fields #[.none, .bool false, .ref s.heap.objs.size, rawInt 0, .none, .none] } }) :=
  .of_wp fun prog w A R s h => by
    obtain ⟨hp, g, d, tk, os⟩ := s; obtain ⟨hl, h⟩ := h
    have hsub := sub_enumerate
    have hL : Heap.IsTuple (Shared.heap ⟨hp, g, d, tk, os⟩) l items := ⟨_, hl, rfl, n, rfl⟩
    wp_walk using wpAny_loadPart' hl
    refine wpAny_stack_any fun st => wpAny_pure ?_
    split
    · rename_i c _ _ _ _ _
      cases (c == Value.type "enumerate")
      · wp_walk using wpAny_loadPart' hl, wpAny_pyIter_tuple hL
        exact ⟨_, rfl, h⟩
      · wp_walk using wpAny_loadPart' hl, wpAny_pyIter_tuple hL
        exact ⟨_, rfl, h⟩
    · wp_walk using wpAny_loadPart' hl, wpAny_pyIter_tuple hL
      exact ⟨_, rfl, h⟩

theorem call_enum_tup {prog : Program} {w : World} {A : Around} {E : Value → Shared → Prop} {s : Shared} {l : Addr} {items : Array Value} {Q : Value → Shared → Prop} (hL : s.heap.IsTuple l items)
    (h : ∀ h', IsEnum h' (s.heap.objs.size + 1) s.heap.objs.size 0 .none → h'.IsTupleIter s.heap.objs.size l 0 → h'.objs.size = s.heap.objs.size + 2 →
      (∀ b o, s.heap.get? b = some o → h'.get? b = some o) → Q (.ref (s.heap.objs.size + 1)) { s with heap := h' }) :
    wpAny (model prog w) A (call (.type "enumerate") [.ref l]) Q E s := by
  obtain ⟨⟨c, dct, dt, sl⟩, hl, hc, n, hd⟩ := hL
  replace hc : c = .type "tuple" := hc
  replace hd : dt = .seq items n := hd
  subst hc hd
  refine callType_new PySem.F.called_enumerate (by decide) (PySem.F.typeCall_enumerate_1 _) (PySem.F.newCall_enumerate_1 _) (fun obj => PySem.F.args_object_init_2 obj _) PySem.F.entry_enumerate_new
    (meets_enum_tup l items n dct sl) ⟨hl, ?_⟩
  have hz : (s.heap.push { cls := .type "tuple_iterator", data := .fields #[.ref l, .int 0 0] }).objs.size = s.heap.objs.size + 1 := Heap.size_push ..
  show _ ∧ _
  rw [hz]
  have he : IsEnum ((s.heap.push { cls := .type "tuple_iterator", data := .fields #[.ref l, .int 0 0] }).push
      { cls := .type "enumerate", data := .fields #[.none, .bool false, .ref s.heap.objs.size, rawInt 0, .none, .none] }) (s.heap.objs.size + 1) s.heap.objs.size 0 .none := by
    have := Heap.get?_push_size (s.heap.push { cls := .type "tuple_iterator", data := .fields #[.ref l, .int 0 0] })
      (o := { cls := .type "enumerate", data := .fields #[.none, .bool false, .ref s.heap.objs.size, rawInt 0, .none, .none] }) rfl
    rw [hz] at this; exact this
  refine ⟨⟨_, he, rfl⟩, h _ he ⟨_, Heap.get?_push_of_some _ (Heap.get?_push_size _ rfl), rfl, rfl⟩ (by rw [Heap.size_push, hz]) fun b o x => Heap.get?_push_of_some _ (Heap.get?_push_of_some _ x)⟩
end Mine

end
section
open PySem.Calls
namespace Mine
set_option maxRecDepth 100000

/-- a for with an else, over a tuple that stood before the call -/
theorem else_iter {prog : Program} {w : World} {A : Around} {E : Value → Shared → Prop} {s : Shared} {env : Env} {h₀ : Heap} {target : Expr} {body orelse : List Stmt} {Q : Flow → Shared → Prop} {l : Addr} {vs : List Value} {m₀ : Str → Option Value} {news : List (Addr × Obj)}
    (J : Nat → (Str → Option Value) → List (Addr × Obj) → Prop) (hl : h₀.IsTuple l vs.toArray) (F : Fr h₀ env.locals s.heap m₀) (N : News h₀ env.locals s.heap news) (hj : J 0 m₀ news)
    (turn : ∀ i v m₁ nx h tk I oI, vs[i]? = some v → J i m₁ nx → (∀ p ∈ nx, p.1 ≠ I) → Fr h₀ env.locals h m₁ → News h₀ env.locals h ((I, oI) :: nx) →
      wpAny (model prog w) A (assign target env v) (fun _ s₃ => wpAny (model prog w) A (execs body env) (TEnd h₀ env.locals (J (i + 1)) I oI { s with heap := h, toks := tk } Q) E s₃) E { s with heap := h, toks := tk })
    (done : ∀ m₁ nx h tk, J vs.length m₁ nx → Fr h₀ env.locals h m₁ → News h₀ env.locals h nx → wpAny (model prog w) A (execs orelse env) Q E { s with heap := h, toks := tk })
    (hh : A.handled = none := by rfl) (hE : PassesOwn (model prog w) A env E := by passes_own) :
    wpAny (model prog w) A (pyIter (.ref l)) (fun it s₂ => codeAny (model prog w) A (.forLoop target it body orelse env) (fun r s' => match r with | .ok f => Q f s' | .error e => cameBackBy (model prog w) A env E e s') s₂) E s := by
  have hls : s.heap.IsTuple l vs.toArray := hl.at fun o e => F.keep l o e
  obtain ⟨ol, hol, _⟩ := id hl
  have hlt : l < h₀.objs.size := Heap.lt_size hol
  have hne : l ≠ s.heap.objs.size := Nat.ne_of_lt (Nat.lt_trans (Nat.lt_of_lt_of_le hlt F.above) F.ns.lt)
  refine wpAny_pyIter_tuple hls ?_
  have W := Walks.tuple (prog := prog) (w := w) hh s.heap.objs.size l hne vs.toArray
  have hlen : vs.toArray.size = vs.length := by simp
  rw [hlen] at W
  have hnew := next_is_new F
  have hLI : env.locals ≠ s.heap.objs.size := Nat.ne_of_lt F.ns.lt
  refine codeAny_forLoop_any (fun k s' => ∃ h' tk m' nx i, s' = { s with heap := h', toks := tk } ∧ (h'.IsTupleIter s.heap.objs.size l i ∧ h'.IsTuple l vs.toArray) ∧ Fr h₀ env.locals h' m' ∧ News h₀ env.locals h' nx ∧ (∀ p ∈ nx, p.1 ≠ s.heap.objs.size) ∧ J i m' nx ∧ i ≤ vs.length ∧ k = vs.length + 1 - i) ?_ (vs.length + 1)
    ⟨_, s.toks, m₀, news, 0, rfl, ⟨⟨_, Heap.get?_push_size _ rfl, rfl, rfl⟩, hls.at fun o e => Heap.get?_push_of_some _ e⟩, F.push _, fun p hp => ⟨Heap.get?_push_of_some _ (N p hp).1, (N p hp).2⟩, fun p hp => Nat.ne_of_lt (Heap.lt_size (N p hp).1), hj, Nat.zero_le _, rfl⟩
  rintro k s' ⟨h', tk, m', nx, i, rfl, hst, F', N', ho, hJ, hi, rfl⟩
  have next : ∀ h₁ : Heap, (∀ b o, b ∉ [s.heap.objs.size] → h'.get? b = some o → h₁.get? b = some o) → Fr h₀ env.locals h₁ m' ∧ News h₀ env.locals h₁ nx := fun h₁ hk₁ =>
    ⟨⟨F'.ns.at' fun o e => hk₁ _ o (by simpa using hLI) e, fun b o e => hk₁ b o (fun hb => by rw [List.mem_singleton.mp hb, hnew] at e; cases e) (F'.keep b o e), F'.above⟩, fun p hp => ⟨hk₁ _ _ (by simpa using ho p hp) (N' p hp).1, (N' p hp).2⟩⟩
  by_cases hlt' : i < vs.length
  · refine W.item i _ _ _ hlt' hst fun v h₁ tk₁ hP hst₁ hk₁ => ?_
    refine letGo_tupleiter hst₁.1 ?_
    obtain ⟨F₁, N₁⟩ := next h₁ hk₁
    obtain ⟨oI, heI, hrI⟩ := id hst₁.1
    have N₂ : News h₀ env.locals h₁ ((s.heap.objs.size, oI) :: nx) := fun p hp => by
      rcases List.mem_cons.mp hp with rfl | hp
      · exact ⟨heI, Ne.symm hLI, hnew⟩
      · exact N₁ p hp
    refine wpAny_mono (turn i v m' nx h₁ tk₁ s.heap.objs.size oI (by simpa using hP) hJ ho F₁ N₂) (fun _ s₃ h₃ => wpAny_passesOwn hE (wpAny_mono h₃ (fun f s₄ h₄ => ?_) fun _ _ e => e)) hE
    have fin : (∃ h' tk m' nx, s₄ = { ({ s with heap := h₁, toks := tk₁ } : Shared) with heap := h', toks := tk } ∧ Fr h₀ env.locals h' m' ∧ News h₀ env.locals h' ((s.heap.objs.size, oI) :: nx) ∧ (∀ p ∈ nx, p.1 ≠ s.heap.objs.size) ∧ J (i + 1) m' nx) →
        ∃ m, m < vs.length + 1 - i ∧ ∃ h' tk m' nx i, s₄ = { s with heap := h', toks := tk } ∧ (h'.IsTupleIter s.heap.objs.size l i ∧ h'.IsTuple l vs.toArray) ∧ Fr h₀ env.locals h' m' ∧ News h₀ env.locals h' nx ∧ (∀ p ∈ nx, p.1 ≠ s.heap.objs.size) ∧ J i m' nx ∧ i ≤ vs.length ∧ m = vs.length + 1 - i := by
      rintro ⟨h₅, tk₅, m₅, nx₅, rfl, F₅, N₅, ho₅, hJ₅⟩
      exact ⟨vs.length + 1 - (i + 1), by omega, h₅, tk₅, m₅, nx₅, i + 1, rfl, ⟨⟨oI, (N₅ _ (.head _)).1, hrI⟩, hl.at fun o e => F₅.keep l o e⟩, F₅, fun p hp => N₅ p (.tail _ hp), ho₅, hJ₅, hlt', rfl⟩
    cases f with
    | ret v => exact h₄
    | brk => exact h₄
    | next => exact fin h₄
    | cont => exact fin h₄
  · have hin : i = vs.length := by omega
    subst hin
    refine W.done _ _ _ hst fun h₁ tk₁ hk₁ => ?_
    obtain ⟨F₁, N₁⟩ := next h₁ hk₁
    exact wpAny_passesOwn hE (done m' nx h₁ tk₁ hJ F₁ N₁)

noncomputable def TEnd2 (h₀ : Heap) (L : Addr) (J : (Str → Option Value) → List (Addr × Obj) → Prop) (e : Addr) (oe : Obj) (it : Addr) (oi : Obj) (s₁ : Shared) (f : Flow) (s₂ : Shared) : Prop :=
  (f = .next ∨ f = .cont) ∧ ∃ h' tk m' nx, s₂ = { s₁ with heap := h', toks := tk } ∧ Fr h₀ L h' m' ∧ News h₀ L h' ((e, oe) :: (it, oi) :: nx) ∧ (∀ p ∈ nx, p.1 ≠ e ∧ p.1 ≠ it) ∧ J m' nx

/-- for i, x in enumerate(t), t a tuple that stood before the call -/
theorem enum_iter {prog : Program} {w : World} {A : Around} {E : Value → Shared → Prop} {s : Shared} {env : Env} {h₀ : Heap} {elts : List Expr} {kk : Nat} {pos : Pos} {body : List Stmt} {Q : Flow → Shared → Prop} {l : Addr} {vs : List Value} {m₀ : Str → Option Value} {news : List (Addr × Obj)}
    (J : Nat → (Str → Option Value) → List (Addr × Obj) → Prop) (hl : h₀.IsTuple l vs.toArray) (F : Fr h₀ env.locals s.heap m₀) (N : News h₀ env.locals s.heap news) (hj : J 0 m₀ news)
    (turn : ∀ i x t T m₁ nx h tk e oe it oi, vs[i]? = some x → J i m₁ nx → (∀ p ∈ nx, p.1 ≠ e ∧ p.1 ≠ it) → e ≠ it → IsTup h T #[.int (i : Int) t, x] → Fr h₀ env.locals h m₁ → News h₀ env.locals h ((e, oe) :: (it, oi) :: nx) →
      wpAny (model prog w) A (assign (.Tuple elts kk pos) env (.ref T)) (fun _ s₃ => wpAny (model prog w) A (execs body env) (TEnd2 h₀ env.locals (J (i + 1)) e oe it oi { s with heap := h, toks := tk }) E s₃) E { s with heap := h, toks := tk })
    (done : ∀ m₁ nx h tk, J vs.length m₁ nx → Fr h₀ env.locals h m₁ → News h₀ env.locals h nx → Q .next { s with heap := h, toks := tk })
    (hh : A.handled = none := by rfl) :
    wpAny (model prog w) A (call (.type "enumerate") [.ref l]) (fun xv s₁ => wpAny (model prog w) A (pyIter xv) (fun it s₂ => TurnsAt prog w A h₀ env (.Tuple elts kk pos) body Q E it s₂) E s₁) E s := by
  have hls : s.heap.IsTuple l vs.toArray := hl.at fun o e => F.keep l o e
  obtain ⟨ol, hol, _⟩ := id hl
  have hlt : l < s.heap.objs.size := Heap.lt_size (F.keep l ol hol)
  have hLs : env.locals < s.heap.objs.size := F.ns.lt
  refine call_enum_tup hls fun h' hE' hI' hsz hk => ?_
  refine wpAny_pyIter_enum hE' ?_
  have W := (WalksT.enumerateD (prog := prog) (w := w) (A := A) (draws_tup (A := A.in1) hh s.heap.objs.size l (Nat.ne_of_lt hlt) vs.toArray) (s.heap.objs.size + 1) (Nat.succ_ne_self _) (by
    intro hm
    have hb' : s.heap.objs.size + 1 = s.heap.objs.size ∨ s.heap.objs.size + 1 = l := by simpa using hm
    rcases hb' with e | e
    · exact Nat.succ_ne_self _ e
    · exact ktu_ne 1 hlt e.symm) (by simp)).toU
  have hlen : vs.toArray.size = vs.length := by simp
  have n1 : h₀.get? (s.heap.objs.size + 1) = none := ktu_new F (Nat.le_add_right _ _)
  have n0 : h₀.get? s.heap.objs.size = none := ktu_new F (Nat.le_refl _)
  refine ⟨_, _, _, _, _, _, _, m₀, news, J, rfl, KTurns.ofWalksU W, ?_, ?_, ?_, ⟨⟨.none, hE'⟩, hI', hls.at fun o e => hk l o e⟩, F.keeps hk, N.grown hk, hj, ?_, ?_⟩
  · intro hI
    have hb' : env.locals = s.heap.objs.size + 1 ∨ env.locals = s.heap.objs.size ∨ env.locals = l := by simpa using hI
    rcases hb' with e | e | e
    · exact ktu_ne 1 hLs e
    · exact Nat.ne_of_lt hLs e
    · have hself := kts_self F
      rw [e, hol] at hself
      cases hself
  · intro b hb
    have hb' : b = s.heap.objs.size + 1 ∨ b = s.heap.objs.size := by simpa using hb
    rcases hb' with rfl | rfl
    · exact n1
    · exact n0
  · intro p hp hI
    have hb' : p.1 = s.heap.objs.size + 1 ∨ p.1 = s.heap.objs.size := by simpa using hI
    have hlp : p.1 < s.heap.objs.size := Heap.lt_size (N p hp).1
    rcases hb' with e | e
    · exact ktu_ne 1 hlp e
    · exact Nat.ne_of_lt hlp e
  · rintro i v m₁ nx h₁ tk₁ own hi ⟨T, vals, rfl, ⟨t, x, hx, rfl⟩, hT⟩ hJ hoff hown hget hfp hst F₁ N₁
    obtain ⟨⟨old, he⟩, hit, htu⟩ := hst
    obtain ⟨oi, hoi, hri⟩ := id hit
    obtain ⟨oe, hoe⟩ : ∃ oe, h₁.get? (s.heap.objs.size + 1) = some oe := ⟨_, he⟩
    have m1 : (s.heap.objs.size + 1, oe) ∈ own := hfp _ (by simp) n1 oe hoe
    have m0 : (s.heap.objs.size, oi) ∈ own := hfp _ (by simp) n0 oi hoi
    have N₂ : News h₀ env.locals h₁ ((s.heap.objs.size + 1, oe) :: (s.heap.objs.size, oi) :: nx) := fun p hp => by
      rcases List.mem_cons.mp hp with rfl | hp
      · exact N₁ _ (List.mem_append_left _ m1)
      · rcases List.mem_cons.mp hp with rfl | hp
        · exact N₁ _ (List.mem_append_left _ m0)
        · exact N₁ _ (List.mem_append_right _ hp)
    have hoff' : ∀ p ∈ nx, p.1 ≠ s.heap.objs.size + 1 ∧ p.1 ≠ s.heap.objs.size := fun p hp => ⟨fun e => hoff p hp (by simp [e]), fun e => hoff p hp (by simp [e])⟩
    refine wpAny_mono (turn i x t T m₁ nx h₁ tk₁ _ oe _ oi (by simpa using hx) hJ hoff' (Nat.succ_ne_self _) hT F₁ N₂) (fun _ s₃ h₃ => wpAny_mono h₃ (fun f s₄ h₄ => ?_) fun _ _ e => e) fun _ _ e => e
    obtain ⟨hf, h₅, tk₅, m₅, nx₅, rfl, F₅, N₅, ho₅, hJ₅⟩ := h₄
    have fin : LoopStepU h₀ env.locals [s.heap.objs.size + 1, s.heap.objs.size] own (J (i + 1)) { s with heap := h₁, toks := tk₁ } .next { s with heap := h₅, toks := tk₅ } := by
      refine ⟨rfl, h₅, tk₅, m₅, nx₅, rfl, F₅, fun p hp => ?_, fun p hp hI => ?_, hJ₅⟩
      · rcases List.mem_append.mp hp with h | h
        · have h2 : h₁.get? p.1 = some p.2 := hget p h
          have hb' : p.1 = s.heap.objs.size + 1 ∨ p.1 = s.heap.objs.size ∨ p.1 = l := by simpa using hown p h
          rcases hb' with e | e | e
          · rw [e, hoe] at h2
            have h3 : p = (s.heap.objs.size + 1, oe) := Prod.ext e (Option.some.inj h2).symm
            rw [h3]
            exact N₅ _ (.head _)
          · rw [e, hoi] at h2
            have h3 : p = (s.heap.objs.size, oi) := Prod.ext e (Option.some.inj h2).symm
            rw [h3]
            exact N₅ _ (.tail _ (.head _))
          · have h4 := (N₁ p (List.mem_append_left _ h)).2.2
            rw [e, hol] at h4
            cases h4
        · exact N₅ p (.tail _ (.tail _ h))
      · have hb' : p.1 = s.heap.objs.size + 1 ∨ p.1 = s.heap.objs.size := by simpa using hI
        rcases hb' with e | e
        · exact (ho₅ p hp).1 e
        · exact (ho₅ p hp).2 e
    rcases hf with rfl | rfl
    · exact .next fin
    · exact .cont fin
  · intro h₅ tk₅ m₅ nx₅ F₅ N₅ _ hJ₅
    rw [hlen] at hJ₅
    exact done m₅ nx₅ h₅ tk₅ hJ₅ F₅ N₅
end Mine

end
section
namespace Mine
set_option maxRecDepth 100000
set_option maxHeartbeats 8000000

noncomputable def tabs : List (List (Int × Str)) :=
  [[(40960, Str.ofString "l"), (49152, Str.ofString "s"), (32768, Str.ofString "-"), (24576, Str.ofString "b"), (16384, Str.ofString "d"), (8192, Str.ofString "c"), (4096, Str.ofString "p")],
   [(256, Str.ofString "r")], [(128, Str.ofString "w")], [(2112, Str.ofString "s"), (2048, Str.ofString "S"), (64, Str.ofString "x")],
   [(32, Str.ofString "r")], [(16, Str.ofString "w")], [(1032, Str.ofString "s"), (1024, Str.ofString "S"), (8, Str.ofString "x")],
   [(4, Str.ofString "r")], [(2, Str.ofString "w")], [(513, Str.ofString "t"), (512, Str.ofString "T"), (1, Str.ofString "x")]]
noncomputable def tabVs : List Value := [.ref 48, .ref 50, .ref 52, .ref 56, .ref 58, .ref 60, .ref 64, .ref 66, .ref 68, .ref 72]

noncomputable def PairAt (h : Heap) (r : Value) (p : Int × Str) : Prop := ∃ a tb tc, r = .ref a ∧ IsTup h a #[.int p.1 tb, .str p.2 tc]
inductive PairsAt (h : Heap) : List Value → List (Int × Str) → Prop
  | nil : PairsAt h [] []
  | cons {r p rs ps} : PairAt h r p → PairsAt h rs ps → PairsAt h (r :: rs) (p :: ps)
noncomputable def TabAt (h : Heap) (x : Value) (ps : List (Int × Str)) : Prop := ∃ T rs, x = .ref T ∧ IsTup h T rs.toArray ∧ PairsAt h rs ps
inductive TabsAt (h : Heap) : List Value → List (List (Int × Str)) → Prop
  | nil : TabsAt h [] []
  | cons {x ps xs pss} : TabAt h x ps → TabsAt h xs pss → TabsAt h (x :: xs) (ps :: pss)

theorem tup_of {P : Params} {h : Heap} {a n : Nat} {items : Array Value} (X : (hd.heap_39 P).In h) (e : (hd.heap_39 P).lookup a = some { cls := .type "tuple", data := .seq items n }) : IsTup h a items := ⟨_, X _ _ e, rfl, n, rfl⟩

theorem tabs_at {P : Params} {h : Heap} (X : (hd.heap_39 P).In h) : IsTup h 73 tabVs.toArray ∧ TabsAt h tabVs tabs := by
  refine ⟨tup_of X rfl, ?_⟩
  unfold tabVs tabs
  repeat' (first
    | exact TabsAt.nil
    | exact PairsAt.nil
    | refine TabsAt.cons ?_ ?_
    | refine PairsAt.cons ?_ ?_
    | exact ⟨_, _, _, rfl, tup_of X rfl⟩
    | refine ⟨_, _, rfl, tup_of X rfl, ?_⟩)

noncomputable def pick (test : Int → Bool) (d : Str) : List (Int × Str) → Str
  | [] => d
  | p :: r => if test p.1 = true then p.2 else pick test d r
noncomputable def fmc (mode : Int) (i : Nat) : Str :=
  pick (if i = 0 then fun b => decide (Builtin.bitAnd mode 61440 = b) else fun b => decide (Builtin.bitAnd mode b = b)) (if i = 0 then Str.ofString "?" else Str.ofString "-") ((tabs[i]?).getD [])

theorem pick_len {test : Int → Bool} {d : Str} (hd : d.length ≤ 1) : ∀ {ps : List (Int × Str)}, (∀ p ∈ ps, p.2.length ≤ 1) → (pick test d ps).length ≤ 1
  | [], _ => hd
  | p :: r, h => by
    show (if test p.1 = true then p.2 else pick test d r).length ≤ 1
    split
    · exact h p (.head _)
    · exact pick_len hd fun q hq => h q (.tail _ hq)
theorem tabs_len : ∀ ps ∈ tabs, ∀ p ∈ ps, p.2.length ≤ 1 := by decide +kernel
theorem fmc_len (mode : Int) (i : Nat) : (fmc mode i).length ≤ 1 := by
  unfold fmc
  refine pick_len ?_ fun p hp => ?_
  · split <;> exact Nat.le_refl _
  · cases h : tabs[i]? with
    | none => rw [h] at hp; exact absurd hp (by simp)
    | some ps => rw [h] at hp; exact tabs_len ps (List.mem_of_getElem? h) p hp
theorem fm_wt (mode : Int) : (((List.range 10).map (fmc mode)).map (·.length)).sum + ((List.range 10).map (fmc mode)).length ≤ 1048576 := by
  have h := fmc_len mode
  have h0 := h 0
  have h1 := h 1
  have h2 := h 2
  have h3 := h 3
  have h4 := h 4
  have h5 := h 5
  have h6 := h 6
  have h7 := h 7
  have h8 := h 8
  have h9 := h 9
  show (fmc mode 0).length + ((fmc mode 1).length + ((fmc mode 2).length + ((fmc mode 3).length + ((fmc mode 4).length + ((fmc mode 5).length + ((fmc mode 6).length + ((fmc mode 7).length + ((fmc mode 8).length + ((fmc mode 9).length + 0))))))))) + 10 ≤ 1048576
  omega
theorem fm_snoc {us : List Value} {mode : Int} {i : Nat} {c : Str} {tc : Tok} (h : StrsAre us ((List.range i).map (fmc mode))) (e : c = fmc mode i) : StrsAre (us ++ [.str c tc]) ((List.range (i + 1)).map (fmc mode)) := by
  rw [List.range_succ, List.map_append, e]
  exact KStt.strs_snoc h
theorem fmc_zero {mode : Int} {ps : List (Int × Str)} (h : tabs[0]? = some ps) : pick (fun b => decide (Builtin.bitAnd mode 61440 = b)) (Str.ofString "?") ps = fmc mode 0 := by
  unfold fmc
  rw [h]
  rfl
theorem fmc_pos {mode : Int} {i : Nat} {ps : List (Int × Str)} (hi : ¬ i = 0) (h : tabs[i]? = some ps) : pick (fun b => decide (Builtin.bitAnd mode b = b)) (Str.ofString "-") ps = fmc mode i := by
  unfold fmc
  rw [h, if_neg hi, if_neg hi]
  rfl
noncomputable def m2 (pl : Addr) (mode : Int) (tm : Tok) (m : Str → Option Value) : Str → Option Value := fun y => if y = Str.ofString "perm" then some (.ref pl) else if y = Str.ofString "mode" then some (.int mode tm) else m y
theorem m2_eq {pl : Addr} {mode : Int} {tm : Tok} {m : Str → Option Value} (h1 : m (Str.ofString "perm") = some (.ref pl)) (h2 : m (Str.ofString "mode") = some (.int mode tm)) : m2 pl mode tm m = m := by
  funext y
  unfold m2
  by_cases e : y = Str.ofString "perm"
  · rw [if_pos e, e, h1]
  · rw [if_neg e]
    by_cases e' : y = Str.ofString "mode"
    · rw [if_pos e', e', h2]
    · rw [if_neg e']
noncomputable def FmJ (mode : Int) (tm : Tok) (pl : Addr) (news : List (Addr × Obj)) (i : Nat) (m : Str → Option Value) (nx : List (Addr × Obj)) : Prop :=
  ∃ us n, nx = (pl, listOf us.toArray n) :: news ∧ StrsAre us ((List.range i).map (fmc mode)) ∧ m (Str.ofString "perm") = some (.ref pl) ∧ m (Str.ofString "mode") = some (.int mode tm)
theorem fm_for {prog : Program} {w : World} {A : Around} {E : Value → Shared → Prop} {s : Shared} {env : Env} {h₀ : Heap} {elts : List Expr} {kk : Nat} {pos : Pos} {body : List Stmt} {Q : Flow → Shared → Prop} {m₀ : Str → Option Value} {news : List (Addr × Obj)} {pl : Addr} {mode : Int} {tm : Tok} {P : Params}
    (X : (hd.heap_39 P).In h₀) (F : Fr h₀ env.locals s.heap m₀) (N : News h₀ env.locals s.heap ((pl, listOf #[] 0) :: news)) (h1 : m₀ (Str.ofString "perm") = some (.ref pl)) (h2 : m₀ (Str.ofString "mode") = some (.int mode tm))
    (turn : ∀ i x ps t T (m₁ : Str → Option Value) us n h tk e oe it oi, tabs[i]? = some ps → TabAt h₀ x ps → StrsAre us ((List.range i).map (fmc mode)) → i < 10 → (∀ p ∈ news, p.1 ≠ e ∧ p.1 ≠ it) → pl ≠ e → pl ≠ it → e ≠ it → IsTup h T #[.int (i : Int) t, x] →
      Fr h₀ env.locals h (m2 pl mode tm m₁) → News h₀ env.locals h ((e, oe) :: (it, oi) :: (pl, listOf us.toArray n) :: news) →
      wpAny (model prog w) A (assign (.Tuple elts kk pos) env (.ref T)) (fun _ s₃ => wpAny (model prog w) A (execs body env) (TEnd2 h₀ env.locals (FmJ mode tm pl news (i + 1)) e oe it oi { s with heap := h, toks := tk }) E s₃) E { s with heap := h, toks := tk })
    (done : ∀ us n (m₁ : Str → Option Value) h tk, StrsAre us ((List.range 10).map (fmc mode)) → Fr h₀ env.locals h (m2 pl mode tm m₁) → News h₀ env.locals h ((pl, listOf us.toArray n) :: news) → Q .next { s with heap := h, toks := tk })
    (hh : A.handled = none := by rfl) :
    wpAny (model prog w) A (call (.type "enumerate") [.ref 73]) (fun xv s₁ => wpAny (model prog w) A (pyIter xv) (fun it s₂ => TurnsAt prog w A h₀ env (.Tuple elts kk pos) body Q E it s₂) E s₁) E s := by
  obtain ⟨hT, hTs⟩ := tabs_at X
  have look : ∀ {xs : List Value} {pss : List (List (Int × Str))}, TabsAt h₀ xs pss → ∀ (i : Nat) x, xs[i]? = some x → ∃ ps, pss[i]? = some ps ∧ TabAt h₀ x ps := by
    intro xs pss H
    induction H with
    | nil => intro i x e; simp at e
    | @cons x' ps' _ _ hx _ ih =>
      intro i x e
      cases i with
      | zero => simp at e; subst e; exact ⟨ps', rfl, hx⟩
      | succ i => simp at e; simpa using ih i x e
  refine enum_iter (vs := tabVs) (FmJ mode tm pl news) hT F N ⟨[], 0, rfl, .nil, h1, h2⟩ ?_ ?_ hh
  · rintro i x t T m₁ nx h tk e oe it oi hx ⟨us, n, rfl, hus, g1, g2⟩ ho hne hTt F₁ N₁
    obtain ⟨ps, hps, hx'⟩ := look hTs i x hx
    have hi : i < 10 := by
      rcases Nat.lt_or_ge i 10 with h | h
      · exact h
      · rw [List.getElem?_eq_none h] at hx; cases hx
    exact turn i x ps t T m₁ us n h tk e oe it oi hps hx' hus hi (fun p hp => ho p (.tail _ hp)) (ho _ (.head _)).1 (ho _ (.head _)).2 hne hTt (by rw [m2_eq g1 g2]; exact F₁) N₁
  · rintro m₁ nx h tk ⟨us, n, rfl, hus, g1, g2⟩ F₁ N₁
    exact done us n m₁ h tk hus (by rw [m2_eq g1 g2]; exact F₁) N₁
theorem permL {a b c : Addr × Obj} {r : List (Addr × Obj)} : ∀ p ∈ c :: a :: b :: r, p ∈ a :: b :: c :: r := by
  intro p hp
  rcases List.mem_cons.mp hp with rfl | hp
  · exact .tail _ (.tail _ (.head _))
  · rcases List.mem_cons.mp hp with rfl | hp
    · exact .head _
    · rcases List.mem_cons.mp hp with rfl | hp
      · exact .tail _ (.head _)
      · exact .tail _ (.tail _ (.tail _ hp))
theorem permR {a b c : Addr × Obj} {r : List (Addr × Obj)} : ∀ p ∈ a :: b :: c :: r, p ∈ c :: a :: b :: r := by
  intro p hp
  rcases List.mem_cons.mp hp with rfl | hp
  · exact .tail _ (.head _)
  · rcases List.mem_cons.mp hp with rfl | hp
    · exact .tail _ (.tail _ (.head _))
    · rcases List.mem_cons.mp hp with rfl | hp
      · exact .head _
      · exact .tail _ (.tail _ (.tail _ hp))
theorem hal_of {pl e it : Addr} {oe oi : Obj} {news : List (Addr × Obj)} (hpe : pl ≠ e) (hpi : pl ≠ it) (l : ∀ p ∈ news, p.1 < pl) : ∀ p ∈ (e, oe) :: (it, oi) :: news, p.1 ≠ pl := by
  intro p hp
  rcases List.mem_cons.mp hp with rfl | hp
  · exact Ne.symm hpe
  · rcases List.mem_cons.mp hp with rfl | hp
    · exact Ne.symm hpi
    · exact Nat.ne_of_lt (l p hp)
noncomputable def m3 (pl : Addr) (mode : Int) (tm : Tok) (i : Int) (t : Tok) (m : Str → Option Value) : Str → Option Value := fun y => if y = Str.ofString "perm" then some (.ref pl) else if y = Str.ofString "mode" then some (.int mode tm) else if y = Str.ofString "index" then some (.int i t) else m y
theorem m3_eq {pl : Addr} {mode i : Int} {tm t : Tok} {m : Str → Option Value} (h1 : m (Str.ofString "perm") = some (.ref pl)) (h2 : m (Str.ofString "mode") = some (.int mode tm)) (h3 : m (Str.ofString "index") = some (.int i t)) : m3 pl mode tm i t m = m := by
  funext y
  unfold m3
  by_cases e : y = Str.ofString "perm"
  · rw [if_pos e, e, h1]
  · rw [if_neg e]
    by_cases e' : y = Str.ofString "mode"
    · rw [if_pos e', e', h2]
    · rw [if_neg e']
      by_cases e'' : y = Str.ofString "index"
      · rw [if_pos e'', e'', h3]
      · rw [if_neg e'']
/-- the end of the inner loop, from anywhere: the sign is appended -/
noncomputable def FiEnd (h₀ : Heap) (L : Addr) (mode : Int) (tm : Tok) (pl : Addr) (us : List Value) (c : Str) (keep : List (Addr × Obj)) (s : Shared) (s₂ : Shared) : Prop :=
  ∃ h' tk' m' tc n' led, s₂ = { s with heap := h', toks := tk' } ∧ Fr h₀ L h' m' ∧ News h₀ L h' led ∧ (∀ p ∈ (pl, listOf (us.toArray.push (.str c tc)) n') :: keep, p ∈ led) ∧ m' (Str.ofString "perm") = some (.ref pl) ∧ m' (Str.ofString "mode") = some (.int mode tm)
noncomputable def FiPost (h₀ : Heap) (L : Addr) (mode : Int) (tm : Tok) (pl : Addr) (us : List Value) (n : Nat) (i : Int) (t : Tok) (test : Bool) (c : Str) (keep : List (Addr × Obj)) (s : Shared) (fl : Flow) (s₂ : Shared) : Prop :=
  (fl = .brk ∧ test = true ∧ FiEnd h₀ L mode tm pl us c keep s s₂) ∨
  ((fl = .next ∨ fl = .cont) ∧ test = false ∧ ∃ h' tk' m' led, s₂ = { s with heap := h', toks := tk' } ∧ Fr h₀ L h' m' ∧ News h₀ L h' led ∧ (∀ p ∈ (pl, listOf us.toArray n) :: keep, p ∈ led) ∧ m' (Str.ofString "perm") = some (.ref pl) ∧ m' (Str.ofString "mode") = some (.int mode tm) ∧ m' (Str.ofString "index") = some (.int i t))
noncomputable def FiEls (h₀ : Heap) (L : Addr) (mode : Int) (tm : Tok) (pl : Addr) (us : List Value) (c : Str) (keep : List (Addr × Obj)) (s : Shared) (fl : Flow) (s₂ : Shared) : Prop := fl = .next ∧ FiEnd h₀ L mode tm pl us c keep s s₂
section
variable {h₀ : Heap} {L : Addr} {mode : Int} {tm : Tok} {pl : Addr} {us : List Value} {n : Nat} {i : Int} {t : Tok} {test : Bool} {c : Str} {keep led : List (Addr × Obj)} {s : Shared} {h' : Heap} {tk' n' : Nat} {m' : Str → Option Value} {tc : Tok}
theorem FiPost.hit (ht : test = true) (F : Fr h₀ L h' m') (N : News h₀ L h' led) (hs : ∀ p ∈ (pl, listOf (us.toArray.push (.str c tc)) n') :: keep, p ∈ led) (e1 : m' (Str.ofString "perm") = some (.ref pl)) (e2 : m' (Str.ofString "mode") = some (.int mode tm)) :
    FiPost h₀ L mode tm pl us n i t test c keep s .brk { s with heap := h', toks := tk' } := .inl ⟨rfl, ht, h', tk', m', tc, n', led, rfl, F, N, hs, e1, e2⟩
theorem FiPost.miss (ht : test = false) (F : Fr h₀ L h' m') (N : News h₀ L h' led) (hs : ∀ p ∈ (pl, listOf us.toArray n) :: keep, p ∈ led) (e1 : m' (Str.ofString "perm") = some (.ref pl)) (e2 : m' (Str.ofString "mode") = some (.int mode tm)) (e3 : m' (Str.ofString "index") = some (.int i t)) :
    FiPost h₀ L mode tm pl us n i t test c keep s .next { s with heap := h', toks := tk' } := .inr ⟨.inl rfl, ht, h', tk', m', led, rfl, F, N, hs, e1, e2, e3⟩
theorem FiEls.go (F : Fr h₀ L h' m') (N : News h₀ L h' led) (hs : ∀ p ∈ (pl, listOf (us.toArray.push (.str c tc)) n') :: keep, p ∈ led) (e1 : m' (Str.ofString "perm") = some (.ref pl)) (e2 : m' (Str.ofString "mode") = some (.int mode tm)) :
    FiEls h₀ L mode tm pl us c keep s .next { s with heap := h', toks := tk' } := ⟨rfl, h', tk', m', tc, n', led, rfl, F, N, hs, e1, e2⟩
theorem swapL {a b : Addr × Obj} {r : List (Addr × Obj)} : ∀ p ∈ b :: a :: r, p ∈ a :: b :: r := by
  intro p hp
  rcases List.mem_cons.mp hp with rfl | hp
  · exact .tail _ (.head _)
  · rcases List.mem_cons.mp hp with rfl | hp
    · exact .head _
    · exact .tail _ (.tail _ hp)
end
theorem pick_miss {test : Int → Bool} {d : Str} : ∀ {ps : List (Int × Str)} (j : Nat), (∀ k p, k < j → ps[k]? = some p → test p.1 = false) → pick test d ps = pick test d (ps.drop j)
  | _, 0, _ => rfl
  | [], _ + 1, _ => rfl
  | p :: r, j + 1, h => by
    show (if test p.1 = true then p.2 else pick test d r) = pick test d (r.drop j)
    rw [if_neg (by rw [h 0 p (Nat.zero_lt_succ _) rfl]; exact Bool.false_ne_true)]
    exact pick_miss j fun k q hk hq => h (k + 1) q (Nat.succ_lt_succ hk) hq
theorem pairs_at {h : Heap} {rs : List Value} {ps : List (Int × Str)} (H : PairsAt h rs ps) : ∀ (j : Nat) r, rs[j]? = some r → ∃ p, ps[j]? = some p ∧ PairAt h r p := by
  induction H with
  | nil => intro i x e; simp at e
  | @cons r' p' _ _ hx _ ih =>
    intro i x e
    cases i with
    | zero => simp at e; subst e; exact ⟨p', rfl, hx⟩
    | succ i => simp at e; simpa using ih i x e
theorem pairs_len {h : Heap} {rs : List Value} {ps : List (Int × Str)} (H : PairsAt h rs ps) : rs.length = ps.length := by
  induction H with
  | nil => rfl
  | cons _ _ ih => simp [ih]
theorem fi_for {prog : Program} {w : World} {A : Around} {E : Value → Shared → Prop} {s : Shared} {env : Env} {h₀ : Heap} {target : Expr} {body orelse : List Stmt} {Q : Flow → Shared → Prop} {m₀ : Str → Option Value} {keep : List (Addr × Obj)} {pl Ta : Addr} {mode i : Int} {tm t : Tok} {rs : List Value} {ps : List (Int × Str)} {us : List Value} {n : Nat}
    (test : Int → Bool) (d : Str) (hTa : IsTup h₀ Ta rs.toArray) (hrs : PairsAt h₀ rs ps) (F : Fr h₀ env.locals s.heap m₀) (N : News h₀ env.locals s.heap ((pl, listOf us.toArray n) :: keep)) (h1 : m₀ (Str.ofString "perm") = some (.ref pl)) (h2 : m₀ (Str.ofString "mode") = some (.int mode tm)) (h3 : m₀ (Str.ofString "index") = some (.int i t))
    (turn : ∀ b c tb tc a (m₁ : Str → Option Value) h tk I oI, (b, c) ∈ ps → IsTup h a #[.int b tb, .str c tc] → pl ≠ I → (∀ p ∈ keep, p.1 ≠ I) →
      Fr h₀ env.locals h (m3 pl mode tm i t m₁) → News h₀ env.locals h ((I, oI) :: (pl, listOf us.toArray n) :: keep) →
      wpAny (model prog w) A (assign target env (.ref a)) (fun _ s₃ => wpAny (model prog w) A (execs body env) (FiPost h₀ env.locals mode tm pl us n i t (test b) c ((I, oI) :: keep) { s with heap := h, toks := tk }) E s₃) E { s with heap := h, toks := tk })
    (els : ∀ (m₁ : Str → Option Value) h tk, Fr h₀ env.locals h (m3 pl mode tm i t m₁) → News h₀ env.locals h ((pl, listOf us.toArray n) :: keep) → wpAny (model prog w) A (execs orelse env) (FiEls h₀ env.locals mode tm pl us d keep s) E { s with heap := h, toks := tk })
    (done : ∀ s₂, FiEnd h₀ env.locals mode tm pl us (pick test d ps) keep s s₂ → Q .next s₂)
    (hh : A.handled = none := by rfl) (hE : PassesOwn (model prog w) A env E := by passes_own) :
    wpAny (model prog w) A (pyIter (.ref Ta)) (fun it s₂ => codeAny (model prog w) A (.forLoop target it body orelse env) (fun r s' => match r with | .ok f => Q f s' | .error e => cameBackBy (model prog w) A env E e s') s₂) E s := by
  refine else_iter (vs := rs) (fun j m nx => nx = (pl, listOf us.toArray n) :: keep ∧ m (Str.ofString "perm") = some (.ref pl) ∧ m (Str.ofString "mode") = some (.int mode tm) ∧ m (Str.ofString "index") = some (.int i t) ∧ ∀ k p, k < j → ps[k]? = some p → test p.1 = false)
    hTa F N ⟨rfl, h1, h2, h3, fun k p hk => absurd hk (Nat.not_lt_zero _)⟩ ?_ ?_ hh hE
  · rintro j v m₁ nx h tk I oI hv ⟨rfl, g1, g2, g3, hmiss⟩ ho F₁ N₁
    obtain ⟨⟨b, c⟩, hp, a, tb, tc, rfl, hT⟩ := pairs_at hrs j v hv
    have hT' : IsTup h a #[.int b tb, .str c tc] := Heap.IsTuple.at hT fun o e => F₁.keep a o e
    refine wpAny_mono (turn b c tb tc a m₁ h tk I oI (List.mem_of_getElem? hp) hT' (ho _ (.head _)) (fun p hp => ho p (.tail _ hp)) (by rw [m3_eq g1 g2 g3]; exact F₁) N₁) (fun _ s₃ h₃ => wpAny_mono h₃ (fun fl s₄ h₄ => ?_) fun _ _ e => e) fun _ _ e => e
    rcases h₄ with ⟨rfl, ht, h', tk', m', tc', n', led, rfl, F', N', hs, e1, e2⟩ | ⟨hf, ht, h', tk', m', led, rfl, F', N', hs, e1, e2, e3⟩
    · have hpk : pick test d ps = c := by
        rw [pick_miss j hmiss]
        have hd : ps.drop j = (b, c) :: ps.drop (j + 1) := by
          have hlt : j < ps.length := by
            rcases Nat.lt_or_ge j ps.length with h | h
            · exact h
            · rw [List.getElem?_eq_none h] at hp; cases hp
          rw [List.drop_eq_getElem_cons hlt]
          rw [List.getElem?_eq_getElem hlt] at hp
          rw [Option.some.inj hp]
        rw [hd]
        exact if_pos ht
      refine done _ ⟨h', tk', m', tc', n', led, rfl, F', N', fun p hp => ?_, e1, e2⟩
      rw [hpk] at hp
      rcases List.mem_cons.mp hp with rfl | hp
      · exact hs _ (.head _)
      · exact hs _ (.tail _ (.tail _ hp))
    · refine TEnd.go (nx := (pl, listOf us.toArray n) :: keep) hf F' N' (fun p hp => ?_) ho ⟨rfl, e1, e2, e3, fun k p hk hpk => ?_⟩
      · rcases List.mem_cons.mp hp with rfl | hp
        · exact hs _ (.tail _ (.head _))
        · rcases List.mem_cons.mp hp with rfl | hp
          · exact hs _ (.head _)
          · exact hs _ (.tail _ (.tail _ hp))
      · rcases Nat.lt_or_ge k j with h | h
        · exact hmiss k p h hpk
        · have : k = j := by omega
          rw [this, hp] at hpk
          rw [← Option.some.inj hpk]
          exact ht
  · rintro m₁ nx h tk ⟨rfl, g1, g2, g3, hmiss⟩ F₁ N₁
    refine wpAny_mono (els m₁ h tk (by rw [m3_eq g1 g2 g3]; exact F₁) N₁) (fun fl s₂ h₂ => ?_) fun _ _ e => e
    obtain ⟨rfl, hf⟩ := h₂
    have hpk : pick test d ps = d := by
      rw [pick_miss rs.length hmiss, pairs_len hrs, List.drop_length]
      rfl
    exact done _ (by rw [hpk]; exact hf)
section
theorem fm_claim (w : World) (mode : Int) (tm : Tok) (hm0 : 61440 ≤ mode) (hm1 : mode < 65536) (p : Program) (loose : List Str) (mean : ExcName → Option Value) (mg mb : Str → Option Value) (news : List (Addr × Obj))
    (dp un : Nat) (gd : Option (List Code)) (cn : Str) (cs : Scope) (a : Addr) (ccd : Value) (cl : List (Str × Addr)) (outer : List Env) (A₀ : Around) (base h₀ : Heap) (L : Addr) (m : Str → Option Value) (s : Shared) (Q E : Value → Shared → Prop)
    (hBl : Below A₀ base outer h₀) (hF : Fr h₀ L s.heap m) (hK : (hd.heap_39 w.params).In h₀) (hN : News h₀ L s.heap news) (hT : Top p loose mean mg mb h₀) (hk : cs.kind = .function)
    (hdp : dp + 2 < recursionLimit) (hun : un + 16 < cLine)
    (hret : ∀ t h' tk', Fr h₀ L h' m → News h₀ L h' news → Q (.str (Txt.join (Str.ofString "") ((List.range 10).map (fmc mode))) t) { s with heap := h', toks := tk' }) :
      wpAny (model Challenge.rw_nq0068_01.row.prog w) (ktrTop dp un gd cn cs L a ccd cl outer) (call (.ref 80) [.int mode tm]) Q E s := by
  k_with_none
  (k_with "call builtin:list.append" => (k_here; (with_reducible show wpAny _ _ (call (Value.builtin _) [Value.ref _, _]) _ _ _); k_dflt (refine' append_K ?k1 ?k2 ?k3 ?_ ?z; (case k1 => k_asm); (case k2 => k_asm); (case k3 => first | exact Upd.head (by assumption) | exact Upd.tail (by assumption) (Upd.head (by assumption))); (case z => (rw [List.size_toArray, sizeLine_eq]; omega)); k_whole); intro h' F' N'))
  revert hK; k_fill; intro hK
  refine wpAny_call ?_
  k_dflt cell_enter
  iterate 9 (first | (k_unfold; (try dsimp only)) | (k_end; kc_close) | walk1 | (dsimp only; walk1) | (leave1; walk_say "STEP leave1"; (try dsimp only)))
  (rename Fr _ _ _ _ => lF')
  (rename News _ _ _ _ => lN')
  (rename (∀ p ∈ news, p.1 < _) => l1D)
  (with_unfolding_all refine' For_turns lF' ?_)
  iterate 6 (first | (k_unfold; (try dsimp only)) | (k_end; kc_close) | walk1 | (dsimp only; walk1) | (leave1; walk_say "STEP leave1"; (try dsimp only)))
  k_dflt refine' fm_for (by assumption) lF' lN' rfl rfl ?_ ?_
  · clear lF' lN'
    intro i x ps t T m₁ us n h tk e oe it oi hps hx hus hi ho hpe hpi hei hTt F1 N1
    obtain ⟨Ta, rs, rfl, hTa, hrs⟩ := hx
    unfold m2 at F1
    iterate 10 (first | (k_unfold; (try dsimp only)) | (k_end; kc_close) | walk1 | (dsimp only; walk1) | (leave1; walk_say "STEP leave1"; (try dsimp only)))
    refine wpAny_For ?_
    (first | (k_unfold; (try dsimp only)) | (k_end; kc_close) | walk1 | (dsimp only; walk1) | (leave1; walk_say "STEP leave1"; (try dsimp only)))
    (rename Fr _ _ _ _ => lF')
    (rename News _ _ _ _ => lN')
    have hul : us.length ≤ 10 := by rw [hus.length, List.length_map, List.length_range]; omega
    have hal := hal_of (oe := oe) (oi := oi) hpe hpi l1D
    have N2 := cb_drop lN' permL
    by_cases hi0 : i = 0
    · subst hi0
      k_dflt refine' fi_for (fun b => decide (Builtin.bitAnd mode 61440 = b)) (Str.ofString "?") hTa hrs lF' N2 rfl rfl rfl ?_ ?_ ?_
      · intro b c tb tc a9 m9 h9 tk9 I9 oI9 hbc hT9 hpI hkI F9 N9
        clear lF' lN' N2
        unfold m3 at F9
        have hI9 := Ne.symm hpI
        k_steps
        · dsimp only
          exact FiPost.hit (decide_eq_true (by assumption)) (by assumption) (by assumption) swapL rfl rfl
        · exact FiPost.miss (decide_eq_false (by assumption)) (by assumption) (by assumption) swapL rfl rfl rfl
      · intro m9 h9 tk9 F9 N9
        clear lF' lN' N2
        unfold m3 at F9
        k_steps
        exact FiEls.go (by assumption) (by assumption) (fun _ h => h) rfl rfl
      · intro s₂ hf
        clear lF' lN' N2
        obtain ⟨h', tk', m', tc, n', led, rfl, F', N', hs, e1, e2⟩ := hf
        dsimp only
        refine wpAny_execs_nil ?_
        exact ⟨.inl rfl, h', tk', m', _, rfl, F', cb_drop N' (fun p hp => hs p (permR p hp)), (fun p hp => by
          rcases List.mem_cons.mp hp with rfl | hp
          · exact ⟨hpe, hpi⟩
          · exact ho p hp), us ++ [.str _ tc], n', by rw [List.push_toArray], fm_snoc hus (fmc_zero hps), e1, e2⟩
    · have hi1 : (i : Int) ≠ 0 := by omega
      have hi2 : 0 < (i : Int) := by omega
      k_dflt refine' fi_for (fun b => decide (Builtin.bitAnd mode b = b)) (Str.ofString "-") hTa hrs lF' N2 rfl rfl rfl ?_ ?_ ?_
      · intro b c tb tc a9 m9 h9 tk9 I9 oI9 hbc hT9 hpI hkI F9 N9
        clear lF' lN' N2
        unfold m3 at F9
        have hI9 := Ne.symm hpI
        k_steps
        all_goals first
          | (exfalso; omega)
          | (dsimp only; exact FiPost.hit (decide_eq_true (by assumption)) (by assumption) (by assumption) swapL rfl rfl)
          | exact FiPost.miss (decide_eq_false (by assumption)) (by assumption) (by assumption) swapL rfl rfl rfl
      · intro m9 h9 tk9 F9 N9
        clear lF' lN' N2
        unfold m3 at F9
        k_steps
        all_goals first
          | (exfalso; omega)
          | exact FiEls.go (by assumption) (by assumption) (fun _ h => h) rfl rfl
      · intro s₂ hf
        clear lF' lN' N2
        obtain ⟨h', tk', m', tc, n', led, rfl, F', N', hs, e1, e2⟩ := hf
        dsimp only
        refine wpAny_execs_nil ?_
        exact ⟨.inl rfl, h', tk', m', _, rfl, F', cb_drop N' (fun p hp => hs p (permR p hp)), (fun p hp => by
          rcases List.mem_cons.mp hp with rfl | hp
          · exact ⟨hpe, hpi⟩
          · exact ho p hp), us ++ [.str _ tc], n', by rw [List.push_toArray], fm_snoc hus (fmc_pos hi0 hps), e1, e2⟩
  · clear lF' lN'
    intro us n m₁ h tk hus F1 N1
    have hul : us.length = 10 := by rw [hus.length]; rfl
    unfold m2 at F1
    k_steps
    refine join_listW (D := _) ⟨_, (N1 _ (.head _)).1, rfl, _, rfl⟩ hus (by decide +kernel) (fm_wt mode) ?_
    intro t' k'
    k_steps
    exact hret _ _ _ (by assumption) (cb_drop (by assumption) fun p hp => .tail _ hp)
end
end Mine

end
section
namespace Mine
set_option maxRecDepth 100000
set_option maxHeartbeats 8000000
theorem fm_len (mode : Int) : (Txt.join (Str.ofString "") ((List.range 10).map (fmc mode))).length ≤ 10 := by
  have e : Txt.join (Str.ofString "") ((List.range 10).map (fmc mode)) = Str.join (Str.ofString "") ((List.range 10).map (fmc mode)) := StrLaws.glued_eq_join _ _
  have h := PySem.StrLaws.join_length_le (Str.ofString "") ((List.range 10).map (fmc mode))
  rw [e]
  have h0 : (Str.ofString "").length = 0 := rfl
  rw [h0, Nat.mul_zero] at h
  have g := fmc_len mode
  have g0 := g 0
  have g1 := g 1
  have g2 := g 2
  have g3 := g 3
  have g4 := g 4
  have g5 := g 5
  have g6 := g 6
  have g7 := g 7
  have g8 := g 8
  have g9 := g 9
  have hs : (((List.range 10).map (fmc mode)).map (·.length)).sum = (fmc mode 0).length + ((fmc mode 1).length + ((fmc mode 2).length + ((fmc mode 3).length + ((fmc mode 4).length + ((fmc mode 5).length + ((fmc mode 6).length + ((fmc mode 7).length + ((fmc mode 8).length + ((fmc mode 9).length + 0))))))))) := rfl
  rw [hs] at h
  omega
theorem fm_claim2 (w : World) (mode : Int) (tm : Tok) (hm0 : 61440 ≤ mode) (hm1 : mode < 65536) (p : Program) (loose : List Str) (mean : ExcName → Option Value) (mg mb : Str → Option Value) (news : List (Addr × Obj))
    (dp un : Nat) (gd : Option (List Code)) (cn : Str) (cs : Scope) (a : Addr) (ccd : Value) (cl : List (Str × Addr)) (outer : List Env) (A₀ : Around) (base h₀ : Heap) (L : Addr) (m : Str → Option Value) (s : Shared) (Q E : Value → Shared → Prop)
    (hBl : Below A₀ base outer h₀) (hF : Fr h₀ L s.heap m) (hK : (hd.heap_39 w.params).In h₀) (hN : News h₀ L s.heap news) (hT : Top p loose mean mg mb h₀) (hk : cs.kind = .function)
    (hdp : dp + 2 < recursionLimit) (hun : un + 16 < cLine)
    (hret : ∀ FM t h' tk', FM = Txt.join (Str.ofString "") ((List.range 10).map (fmc mode)) → FM.length ≤ 10 → Fr h₀ L h' m → News h₀ L h' news → Q (.str FM t) { s with heap := h', toks := tk' }) :
      wpAny (model Challenge.rw_nq0068_01.row.prog w) (ktrTop dp un gd cn cs L a ccd cl outer) (call (.ref 80) [.int mode tm]) Q E s :=
  fm_claim w mode tm hm0 hm1 p loose mean mg mb news dp un gd cn cs a ccd cl outer A₀ base h₀ L m s Q E hBl hF hK hN hT hk hdp hun fun t h' tk' F N => hret _ t h' tk' rfl (fm_len mode) F N
theorem dash_lit : Str.ofString "-" = ⟨#[45]⟩ := by decide +kernel
theorem rep_len (x : Str) : (Txt.replace x (Str.ofString "-") (Str.ofString "")).length ≤ x.length := by
  have h := replace_strikes x 45
  have e : (Txt.replace x ⟨#[45]⟩ ⟨#[]⟩).length = (x.cps.toList.filter (· != 45)).length := by
    rw [← h]; exact (Array.length_toList).symm
  rw [dash_lit]
  show (Txt.replace x ⟨#[45]⟩ ⟨#[]⟩).length ≤ x.length
  rw [e]
  exact Nat.le_trans (List.length_filter_le _ _) (Nat.le_of_eq Array.length_toList)
theorem wrN_len (n : Nat) : (wrN n).1.length ≤ 100 ∧ (wrN n).2.1.length ≤ 100 ∧ (wrN n).2.2.length ≤ 100 := by
  unfold wrN
  split <;> decide +kernel
noncomputable def sgn (mode c : Int) : Str := Txt.replace (Txt.slice (Txt.slice (Txt.join (Str.ofString "") ((List.range 10).map (fmc mode))) (some (3 * c - 9)) none) none (some 3)) (Str.ofString "-") (Str.ofString "")
noncomputable def clauseT (mode c : Int) (wy : Nat) : Str := Txt.item (Str.ofString "uGo") c ++ ((wrN wy).1 ++ Txt.join (wrN wy).2.1 (signs (sgn mode c)) ++ (wrN wy).2.2)
section
theorem clause_claim (w : World) (mode : Int) (tm : Tok) (hm0 : 61440 ≤ mode) (hm1 : mode < 65536) (c : Int) (tc : Tok) (hc0 : 0 ≤ c) (hc1 : c < 3) (wy : Nat) (tw : Tok) (hw : wy < 8) (p : Program) (loose : List Str) (mean : ExcName → Option Value) (mg mb : Str → Option Value) (news : List (Addr × Obj))
    (dp un : Nat) (gd : Option (List Code)) (cn : Str) (cs : Scope) (a : Addr) (ccd : Value) (cl : List (Str × Addr)) (outer : List Env) (A₀ : Around) (base h₀ : Heap) (L : Addr) (m : Str → Option Value) (s : Shared) (Q E : Value → Shared → Prop)
    (hBl : Below A₀ base outer h₀) (hF : Fr h₀ L s.heap m) (hK : (hd.heap_39 w.params).In h₀) (hN : News h₀ L s.heap news) (hT : Top p loose mean mg mb h₀) (hk : cs.kind = .function)
    (hdp : dp + 4 < recursionLimit) (hun : un + 32 < cLine)
    (hret : ∀ t h' tk', Fr h₀ L h' m → News h₀ L h' news → Q (.str (clauseT mode c wy) t) { s with heap := h', toks := tk' }) :
      wpAny (model Challenge.rw_nq0068_01.row.prog w) (ktrTop dp un gd cn cs L a ccd cl outer) (call (.ref 115) [.int mode tm, .int c tc, .int (wy : Int) tw]) Q E s := by
  k_with_none
  (k_with "call ref" => (k_here; first | ((with_reducible show wpAny _ _ (call (Value.ref 80) [Value.int _ _]) _ _ _); k_dflt (refine' fm_claim2 _ _ _ ?km0 ?km1 _ _ _ _ _ _ _ _ _ _ _ _ _ _ _ _ _ _ _ _ _ _ _ ?k1 ?k2 ?k3 ?k4 ?k5 ?k6 ?kd ?ku ?_; (case km0 => assumption); (case km1 => assumption); (case k1 => k_asm); (case k2 => k_asm); (case k3 => k_asm); (case k4 => k_asm); (case k5 => k_asm); (case k6 => exact rfl); (case kd => ktr_room); (case ku => ktr_units)); intro FM9 t9 h9 tk9 hFM9 hFL9 F9 N9) | ((with_reducible show wpAny _ _ (call (Value.ref 87) [Value.int _ _]) _ _ _); k_dflt (refine' wr_claim _ _ _ ?km0 _ _ _ _ _ _ _ _ _ _ _ _ _ _ _ _ _ _ _ _ _ _ _ ?k1 ?k2 ?k3 ?k4 ?k5 ?k6 ?kd ?ku ?_; (case km0 => assumption); (case k1 => k_asm); (case k2 => k_asm); (case k3 => k_asm); (case k4 => k_asm); (case k5 => k_asm); (case k6 => exact rfl); (case kd => ktr_room); (case ku => ktr_units)); intro P9 ta9 tb9 tc9 h9 tk9 F9 N9 l9) | ((with_reducible show wpAny _ _ (call (Value.ref 101) [Value.ref _, Value.str _ _]) _ _ _); k_dflt (refine' join_claim2 _ _ _ _ _ _ _ _ _ _ _ ?hA ?hB ?hC ?hX _ _ _ _ _ _ ?hP _ _ _ _ _ _ _ _ _ _ _ _ _ _ _ _ _ ?k1 ?k2 ?k3 ?k4 ?k5 ?k6 ?kd ?ku ?_; (case k1 => k_asm); (case k2 => k_asm); (case k3 => k_asm); (case k4 => k_asm); (case k5 => k_asm); (case k6 => exact rfl); (case kd => ktr_room); (case ku => ktr_units); (case hP => exact List.Mem.head _)); (case hA => exact (wrN_len _).1); (case hB => exact (wrN_len _).2.1); (case hC => exact (wrN_len _).2.2); (case hX => omega); intro V9 t9 h9 tk9 hV9 hVl9 F9 N9)))
  revert hK; k_fill; intro hK
  have hc : c = 0 ∨ c = 1 ∨ c = 2 := three (by assumption) (by assumption)
  rcases hc with rfl | rfl | rfl
  all_goals
    refine wpAny_call ?_
    k_dflt cell_enter
    iterate 31 (first | (k_unfold; (try dsimp only)) | (k_end; kc_close) | walk1 | (dsimp only; walk1) | (leave1; walk_say "STEP leave1"; (try dsimp only)))
    refine wpAny_with_toks (n := 1) (Nat.le_add_left _ _) ?_
    k_dflt (refine' slice_strN_ns_len ?k1 ?k2 ?_ ?ks ?kt ?kz; (case k1 => k_asm); (case k2 => k_asm); (case ks => with_unfolding_all rfl); (case kt => (intro _; with_unfolding_all rfl)); (case kz => exact Nat.le_trans (PyProof.Txt.length_slice_le _ _ _) (by rw [sizeLine_eq]; omega)))
    intro h8 t8 k8 F8 N8 hl8 hk8
    have hk8' : 1 ≤ k8 := hk8
    (with_reducible rename _ = Txt.join (Str.ofString "") _ => hFM)
    subst hFM
    generalize hS8 : Txt.slice (Txt.slice (Txt.join _ _) _ _) _ _ = S8 at *
    have hS8l : S8.length ≤ 10 := by rw [← hS8]; exact Nat.le_trans (PyProof.Txt.length_slice_le _ _ _) (Nat.le_trans (PyProof.Txt.length_slice_le _ _ _) (fm_len mode))
    iterate 7 (first | (k_unfold; (try dsimp only)) | (k_end; kc_close) | walk1 | (dsimp only; walk1) | (leave1; walk_say "STEP leave1"; (try dsimp only)))
    refine SC.replaceW (Nat.ne_of_gt hk8') (Nat.succ_ne_zero _) (Nat.ne_of_lt (Nat.lt_succ_self _)) (by decide +kernel) (by omega) (by decide +kernel) ?_
    intro t7 k7
    have hRl : (Txt.replace S8 (Str.ofString "-") (Str.ofString "")).length ≤ 10 := Nat.le_trans (rep_len _) hS8l
    generalize hR8 : Txt.replace S8 (Str.ofString "-") (Str.ofString "") = R8 at *
    k_steps
    (with_reducible rename _ = _ ++ Txt.join _ _ ++ _ => hV)
    subst hV
    rw [← hR8, ← hS8]
    exact hret _ _ _ (by assumption) (cb_drop (by assumption) fun p hp => .tail _ hp)
end
end Mine

end
section
namespace Mine
set_option maxRecDepth 100000
set_option maxHeartbeats 8000000
theorem fig_fin {h₀ : Heap} {L D : Addr} {m : Str → Option Value} {news rest : List (Addr × Obj)} {s : Shared} {Q : Value → Shared → Prop} {n a b c d : Int} {t0 t1 t2 t3 : Tok} {k : Nat} {h' : Heap} {tk' : Nat}
    (hret : ∀ D c t0 t1 t2 t3 h' tk', Fr h₀ L h' m → News h₀ L h' ((D, listOf #[.int (n / 512) t0, .int (n / 64 % 8) t1, .int (n / 8 % 8) t2, .int (n % 8) t3] c) :: news) → (∀ q ∈ news, q.1 ≠ D) → Q (.ref D) { s with heap := h', toks := tk' })
    (F : Fr h₀ L h' m) (N : News h₀ L h' ((D, listOf #[.int a t0, .int b t1, .int c t2, .int d t3] k) :: rest)) (ha : a = n / 512) (hb : b = n / 64 % 8) (hc : c = n / 8 % 8) (hd : d = n % 8) (hs : ∀ p ∈ news, p ∈ rest) (hf : ∀ q ∈ news, q.1 ≠ D) :
    Q (.ref D) { s with heap := h', toks := tk' } := by
  subst ha hb hc hd
  refine hret D k t0 t1 t2 t3 h' tk' F (fun p hp => N p ?_) hf
  rcases List.mem_cons.mp hp with rfl | hp
  · exact .head _
  · exact .tail _ (hs p hp)
theorem allLt_mem2 {d : Addr} : ∀ {l : List (Addr × Obj)}, AllLt d l → ∀ p ∈ l, p.1 < d
  | [], _, _, h => nomatch h
  | _ :: _, x, p, h => by
    rcases List.mem_cons.mp h with rfl | h
    · exact x.1
    · exact allLt_mem2 x.2 p h
theorem WhlIf.dec {p : Prop} {d : Decidable p} {T F : Prop} (t : p → T) (f : ¬p → F) : WhlIf (@decide p d) T F := by
  by_cases h : p
  · exact WhlIf.yes (decide_eq_true h) (t h)
  · exact WhlIf.no (decide_eq_false h) (f h)
theorem fd8 (n : Int) : n.fdiv 8 = n / 8 := Int.fdiv_eq_ediv_of_nonneg n (by decide)
theorem fm8 (n : Int) : n.fmod 8 = n % 8 := Int.fmod_eq_emod_of_nonneg n (by decide)
theorem fd8_nn {n : Int} (h : 0 ≤ n) : 0 ≤ n.fdiv 8 := by rw [fd8]; exact Int.ediv_nonneg h (by decide)
theorem fd8_lt {n : Int} {k : Int} (h : n < k * 8) : n.fdiv 8 < k := by rw [fd8]; exact Int.ediv_lt_of_lt_mul (by decide) h
theorem no_more {n : Int} (h : 0 ≤ n) (h' : ¬ 0 < n) : n = 0 := Int.le_antisymm (Int.not_lt.mp h') h
/-- the four figures of a number below 4096 -/
theorem fg_all {n : Int} (h0 : 0 ≤ n) (h1 : n < 4096) : ((n.fdiv 8).fdiv 8).fdiv 8 = n / 512 ∧ ((n.fdiv 8).fdiv 8).fmod 8 = n / 64 % 8 ∧ (n.fdiv 8).fmod 8 = n / 8 % 8 ∧ n.fmod 8 = n % 8 ∧ (((n.fdiv 8).fdiv 8).fdiv 8).fmod 8 = ((n.fdiv 8).fdiv 8).fdiv 8 ∧ (((n.fdiv 8).fdiv 8).fdiv 8).fdiv 8 = 0 := by
  have e3 : ((n.fdiv 8).fdiv 8).fdiv 8 < 8 := fd8_lt (fd8_lt (fd8_lt h1))
  have z3 : 0 ≤ ((n.fdiv 8).fdiv 8).fdiv 8 := fd8_nn (fd8_nn (fd8_nn h0))
  refine ⟨?_, ?_, ?_, fm8 n, ?_, ?_⟩
  · rw [fd8, fd8, fd8, Int.ediv_ediv_of_nonneg (by decide), Int.ediv_ediv_of_nonneg (by decide)]; rfl
  · rw [fm8, fd8, fd8, Int.ediv_ediv_of_nonneg (by decide)]; rfl
  · rw [fm8, fd8]
  · rw [fm8, Int.emod_eq_of_lt z3 e3]
  · rw [fd8, Int.ediv_eq_zero_of_lt z3 e3]
section
theorem fig_claim (w : World) (n : Int) (tn : Tok) (hn0 : 0 ≤ n) (hn1 : n < 4096) (p : Program) (loose : List Str) (mean : ExcName → Option Value) (mg mb : Str → Option Value) (news : List (Addr × Obj))
    (dp un : Nat) (gd : Option (List Code)) (cn : Str) (cs : Scope) (a : Addr) (ccd : Value) (cl : List (Str × Addr)) (outer : List Env) (A₀ : Around) (base h₀ : Heap) (L : Addr) (m : Str → Option Value) (s : Shared) (Q E : Value → Shared → Prop)
    (hBl : Below A₀ base outer h₀) (hF : Fr h₀ L s.heap m) (hK : (hd.heap_39 w.params).In h₀) (hN : News h₀ L s.heap news) (hT : Top p loose mean mg mb h₀) (hk : cs.kind = .function)
    (hdp : dp + 2 < recursionLimit) (hun : un + 16 < cLine)
    (hret : ∀ D c t0 t1 t2 t3 h' tk', Fr h₀ L h' m → News h₀ L h' ((D, listOf #[.int (n / 512) t0, .int (n / 64 % 8) t1, .int (n / 8 % 8) t2, .int (n % 8) t3] c) :: news) → (∀ q ∈ news, q.1 ≠ D) → Q (.ref D) { s with heap := h', toks := tk' }) :
      wpAny (model Challenge.rw_nq0068_01.row.prog w) (ktrTop dp un gd cn cs L a ccd cl outer) (call (.ref 122) [.int n tn]) Q E s := by
  k_with_none
  (k_with "exec While Compare cons nil" => (k_here; k_dflt (refine whl_start 100 ?_)))
  (k_with "exec While Compare" => (k_here; k_dflt (refine whl_start 100 ?_)))
  revert hK; k_fill; intro hK
  obtain ⟨e3, e2, e1, e0, e4, e5⟩ := fg_all hn0 hn1
  have n1 := fd8_nn hn0
  have n2 := fd8_nn n1
  have n3 := fd8_nn n2
  refine wpAny_call ?_
  k_dflt cell_enter
  k_steps
  refine WhlIf.dec (fun hy => ?_) (fun hy => ?_)
  rotate_left
  · have z := no_more hn0 hy
    k_steps
    (rename News h₀ L _ _ => kN)
    (rename Fr h₀ L _ _ => kF)
    k_dflt (refine' fig_fin hret kF kN ?ea ?eb ?ec ?ed ?es ?ef)
    case ea => rw [← e3, z]; try rfl
    case eb => rw [← e2, z]; try rfl
    case ec => rw [← e1, z]; try rfl
    case ed => rw [← e0, z]; try rfl
    case es =>
      intro p hp
      repeat (first | exact hp | refine List.Mem.tail _ ?_)
    case ef =>
      intro q hq
      refine Nat.ne_of_lt (allLt_mem2 ?_ q hq)
      first
        | exact allLt_of (by assumption)
        | kba_ints
  k_steps
  refine WhlIf.dec (fun hy => ?_) (fun hy => ?_)
  rotate_left
  · have z := no_more n1 hy
    k_steps
    (rename News h₀ L _ _ => kN)
    (rename Fr h₀ L _ _ => kF)
    k_dflt (refine' fig_fin hret kF kN ?ea ?eb ?ec ?ed ?es ?ef)
    case ea => rw [← e3, z]; try rfl
    case eb => rw [← e2, z]; try rfl
    case ec => rw [← e1, z]; try rfl
    case ed => exact e0
    case es =>
      intro p hp
      repeat (first | exact hp | refine List.Mem.tail _ ?_)
    case ef =>
      intro q hq
      refine Nat.ne_of_lt (allLt_mem2 ?_ q hq)
      first
        | exact allLt_of (by assumption)
        | kba_ints
  k_steps
  refine WhlIf.dec (fun hy => ?_) (fun hy => ?_)
  rotate_left
  · have z := no_more n2 hy
    k_steps
    (rename News h₀ L _ _ => kN)
    (rename Fr h₀ L _ _ => kF)
    k_dflt (refine' fig_fin hret kF kN ?ea ?eb ?ec ?ed ?es ?ef)
    case ea => rw [← e3, z]; try rfl
    case eb => rw [← e2, z]; try rfl
    case ec => exact e1
    case ed => exact e0
    case es =>
      intro p hp
      repeat (first | exact hp | refine List.Mem.tail _ ?_)
    case ef =>
      intro q hq
      refine Nat.ne_of_lt (allLt_mem2 ?_ q hq)
      first
        | exact allLt_of (by assumption)
        | kba_ints
  k_steps
  refine WhlIf.dec (fun hy => ?_) (fun hy => ?_)
  rotate_left
  · have z := no_more n3 hy
    k_steps
    (rename News h₀ L _ _ => kN)
    (rename Fr h₀ L _ _ => kF)
    k_dflt (refine' fig_fin hret kF kN ?ea ?eb ?ec ?ed ?es ?ef)
    case ea => rw [← e3, z]; try rfl
    case eb => exact e2
    case ec => exact e1
    case ed => exact e0
    case es =>
      intro p hp
      repeat (first | exact hp | refine List.Mem.tail _ ?_)
    case ef =>
      intro q hq
      refine Nat.ne_of_lt (allLt_mem2 ?_ q hq)
      first
        | exact allLt_of (by assumption)
        | kba_ints
  k_steps
  refine WhlIf.no (decide_eq_false (fun hy => by rw [e5] at hy; exact absurd hy (by decide))) ?_
  k_steps
  focus
    (rename News h₀ L _ _ => kN)
    (rename Fr h₀ L _ _ => kF)
    k_dflt (refine' fig_fin hret kF kN ?ea ?eb ?ec ?ed ?es ?ef)
    case ea => exact e4.trans e3
    case eb => exact e2
    case ec => exact e1
    case ed => exact e0
    case es =>
      intro p hp
      repeat (first | exact hp | refine List.Mem.tail _ ?_)
    case ef =>
      intro q hq
      refine Nat.ne_of_lt (allLt_mem2 ?_ q hq)
      first
        | exact allLt_of (by assumption)
        | kba_ints
end
end Mine

end
section
namespace Mine
set_option maxRecDepth 100000
set_option maxHeartbeats 8000000
noncomputable def setF (mode c rights over : Int) : Int :=
  mode + (rights - (mode.fdiv (8 ^ (2 - c).toNat)).fmod 8) * 8 ^ (2 - c).toNat + (over - ((mode + (rights - (mode.fdiv (8 ^ (2 - c).toNat)).fmod 8) * 8 ^ (2 - c).toNat).fdiv (2 ^ (11 - c).toNat)).fmod 2) * 2 ^ (11 - c).toNat
section
theorem set_claim (w : World) (mode : Int) (tm : Tok) (hm0 : 61440 ≤ mode) (hm1 : mode < 65536) (c : Int) (tc : Tok) (hc0 : 0 ≤ c) (hc1 : c < 3) (rights : Int) (tr : Tok) (hr0 : 0 ≤ rights) (hr1 : rights < 8) (over : Int) (tv : Tok) (hv0 : 0 ≤ over) (hv1 : over < 2)
    (p : Program) (loose : List Str) (mean : ExcName → Option Value) (mg mb : Str → Option Value) (news : List (Addr × Obj))
    (dp un : Nat) (gd : Option (List Code)) (cn : Str) (cs : Scope) (a : Addr) (ccd : Value) (cl : List (Str × Addr)) (outer : List Env) (A₀ : Around) (base h₀ : Heap) (L : Addr) (m : Str → Option Value) (s : Shared) (Q E : Value → Shared → Prop)
    (hBl : Below A₀ base outer h₀) (hF : Fr h₀ L s.heap m) (hK : (hd.heap_39 w.params).In h₀) (hN : News h₀ L s.heap news) (hT : Top p loose mean mg mb h₀) (hk : cs.kind = .function)
    (hdp : dp + 2 < recursionLimit) (hun : un + 16 < cLine)
    (hret : ∀ t h' tk', Fr h₀ L h' m → News h₀ L h' news → Q (.int (setF mode c rights over) t) { s with heap := h', toks := tk' }) :
      wpAny (model Challenge.rw_nq0068_01.row.prog w) (ktrTop dp un gd cn cs L a ccd cl outer) (call (.ref 108) [.int mode tm, .int c tc, .int rights tr, .int over tv]) Q E s := by
  k_with_none
  revert hK; k_fill; intro hK
  have hc : c = 0 ∨ c = 1 ∨ c = 2 := three hc0 hc1
  rcases hc with rfl | rfl | rfl
  all_goals
    refine wpAny_call ?_
    k_dflt cell_enter
    k_steps
    exact hret _ _ _ (by assumption) (by assumption)
end
end Mine

end
section
namespace Mine
set_option maxRecDepth 100000
set_option maxHeartbeats 8000000
theorem sdN_len (n : Nat) : (sdN n).1.length ≤ 100 ∧ (sdN n).2.1.length ≤ 100 ∧ (sdN n).2.2.length ≤ 100 := by
  unfold sdN
  split <;> decide +kernel
noncomputable def tab4 (a b c d : Str) (k : Int) : Str := [a, b, c, d].getD k.toNat a
theorem item4 {prog : Program} {w : World} {A : Around} {E : Value → Shared → Prop} {s : Shared} {h₀ : Heap} {L l : Addr} {news : List (Addr × Obj)} {value slice : PySem.Expr} {a b c d : Str} {ta tb tc td : Tok} {n M : Nat} {k : Int} {u : Tok} {Q : Value → Shared → Prop}
    (N : News h₀ L s.heap ((l, listOf #[.str a ta, .str b tb, .str c tc, .str d td] n) :: news)) (h0 : 0 ≤ k) (h1 : k < 4) (ha : a.length ≤ M) (hb : b.length ≤ M) (hc : c.length ≤ M) (hd : d.length ≤ M) (h : ∀ V t, V = tab4 a b c d k → V.length ≤ M → Q (.str V t) s)
    (hs : subscripted slice false (.ref l) (.int k u) = operate [.ref l, .int k u] (getItem (.ref l) (.int k u)) := by with_unfolding_all rfl) :
    wpAny (model prog w) A (subscriptTail value slice (.ref l) (.int k u)) Q E s := by
  have hl : s.heap.IsList l #[.str a ta, .str b tb, .str c tc, .str d td] := ⟨_, (N _ (.head _)).1, rfl, _, rfl⟩
  rcases four h0 h1 with rfl | rfl | rfl | rfl
  · exact tail_any hl.typeIs slot_list_getitem.lookup (wpAny_getItem_list hl (by decide) (by decide) rfl (h a ta rfl ha)) hs
  · exact tail_any hl.typeIs slot_list_getitem.lookup (wpAny_getItem_list hl (by decide) (by decide) rfl (h b tb rfl hb)) hs
  · exact tail_any hl.typeIs slot_list_getitem.lookup (wpAny_getItem_list hl (by decide) (by decide) rfl (h c tc rfl hc)) hs
  · exact tail_any hl.typeIs slot_list_getitem.lookup (wpAny_getItem_list hl (by decide) (by decide) rfl (h d td rfl hd)) hs
theorem unr_drop {h₀ : Heap} {L I : Addr} {it : Obj} {rest : (Str → Option Value) → List (Addr × Obj) → Prop} {s₁ : Shared} {h' : Heap} {tk : Nat} {m' : Str → Option Value} {a b c : Addr × Obj} {R : List (Addr × Obj)} (F : Fr h₀ L h' m') (N : News h₀ L h' (a :: b :: c :: (I, it) :: R))
    (ha : I < a.1) (off : ∀ p ∈ R, p.1 ≠ I) (r : rest m' (a :: R)) : UnrEnd h₀ L s₁ I it rest { s₁ with heap := h', toks := tk } := by
  refine UnrEnd.intro F N (a :: R) (fun p hp => ?_) (fun p hp => ?_) r
  · rcases List.mem_cons.mp hp with rfl | hp
    · exact .tail _ (.tail _ (.tail _ (.head _)))
    · rcases List.mem_cons.mp hp with rfl | hp
      · exact .head _
      · exact .tail _ (.tail _ (.tail _ (.tail _ hp)))
  · rcases List.mem_cons.mp hp with rfl | hp
    · exact Nat.ne_of_gt ha
    · exact off p hp
theorem off_cons {I : Addr} {a : Addr × Obj} {R : List (Addr × Obj)} (h : a.1 ≠ I) (hr : ∀ p ∈ R, p.1 ≠ I) : ∀ p ∈ a :: R, p.1 ≠ I := fun p hp => by
  rcases List.mem_cons.mp hp with rfl | hp
  · exact h
  · exact hr p hp
noncomputable abbrev tupO2 (k v : Str) (s t : Tok) : Obj := { cls := .type "tuple", data := .seq #[.str k s, .str v t] }
/-- the signs that the figures tell, for the c-th of the three -/
noncomputable def dsg (n : Int) (c : Nat) : Str :=
  let R := match c with | 0 => n / 64 % 8 | 1 => n / 8 % 8 | _ => n % 8
  let d : Int := match c with | 0 => 4 | 1 => 2 | _ => 1
  let a := match c with | 2 => Str.ofString "T" | _ => Str.ofString "S"
  let b := match c with | 2 => Str.ofString "t" | _ => Str.ofString "s"
  Txt.mul (Str.ofString "r") (R.fdiv 4) ++ Txt.mul (Str.ofString "w") ((R.fdiv 2).fmod 2) ++ tab4 (Str.ofString "") (Str.ofString "x") a b (R.fmod 2 + 2 * ((n / 512).fdiv d).fmod 2)
noncomputable def dueT (n : Int) (c : Nat) (wy : Nat) : Str := (sdN wy).1 ++ Txt.join (sdN wy).2.1 (signs (dsg n c)) ++ (sdN wy).2.2
theorem due_fin {h₀ : Heap} {L : Addr} {m : Str → Option Value} {news : List (Addr × Obj)} {s : Shared} {Q : Value → Shared → Prop} {mode : Int} {w0 w1 w2 : Nat}
    (hret : ∀ B a0 a1 a2 c V0 V1 V2 s0 t0 s1 t1 s2 t2 h' tk', V0 = dueT (Builtin.bitAnd mode 4095) 0 w0 → V1 = dueT (Builtin.bitAnd mode 4095) 1 w1 → V2 = dueT (Builtin.bitAnd mode 4095) 2 w2 → Fr h₀ L h' m → News h₀ L h' ((a2, tupO2 (Str.ofString "o") V2 s2 t2) :: (a1, tupO2 (Str.ofString "G") V1 s1 t1) :: (a0, tupO2 (Str.ofString "u") V0 s0 t0) :: (B, listOf #[.ref a0, .ref a1, .ref a2] c) :: news) → (∀ q ∈ news, q.1 < B) → B < a0 → a0 < a1 → a1 < a2 → Q (.ref B) { s with heap := h', toks := tk' })
    {h' : Heap} {tk' c : Nat} {B a0 a1 a2 : Addr} {d : Addr × Obj} {V0 V1 V2 A0 A1 A2 B0 B1 B2 C0 C1 C2 : Str} {s0 t0 s1 t1 s2 t2 : Tok} {d0 d1 d2 : Int}
    (F : Fr h₀ L h' m) (N : News h₀ L h' ((a2, tupO2 (Str.ofString "o") V2 s2 t2) :: (a1, tupO2 (Str.ofString "G") V1 s1 t1) :: (a0, tupO2 (Str.ofString "u") V0 s0 t0) :: (B, listOf (#[.ref a0, .ref a1].push (.ref a2)) c) :: d :: news))
    (e0 : V0 = (sdN w0).1 ++ Txt.join (sdN w0).2.1 (signs (A0 ++ B0 ++ C0)) ++ (sdN w0).2.2) (e1 : V1 = (sdN w1).1 ++ Txt.join (sdN w1).2.1 (signs (A1 ++ B1 ++ C1)) ++ (sdN w1).2.2) (e2 : V2 = (sdN w2).1 ++ Txt.join (sdN w2).2.1 (signs (A2 ++ B2 ++ C2)) ++ (sdN w2).2.2)
    (ea0 : A0 = Txt.mul (Str.ofString "r") ((Builtin.bitAnd mode 4095 / 64 % 8).fdiv 4)) (eb0 : B0 = Txt.mul (Str.ofString "w") (((Builtin.bitAnd mode 4095 / 64 % 8).fdiv 2).fmod 2))
    (ec0 : C0 = tab4 (Str.ofString "") (Str.ofString "x") (Str.ofString "S") (Str.ofString "s") ((Builtin.bitAnd mode 4095 / 64 % 8).fmod 2 + 2 * ((Builtin.bitAnd mode 4095 / 512).fdiv d0).fmod 2)) (ed0 : d0 = 4)
    (ea1 : A1 = Txt.mul (Str.ofString "r") ((Builtin.bitAnd mode 4095 / 8 % 8).fdiv 4)) (eb1 : B1 = Txt.mul (Str.ofString "w") (((Builtin.bitAnd mode 4095 / 8 % 8).fdiv 2).fmod 2))
    (ec1 : C1 = tab4 (Str.ofString "") (Str.ofString "x") (Str.ofString "S") (Str.ofString "s") ((Builtin.bitAnd mode 4095 / 8 % 8).fmod 2 + 2 * ((Builtin.bitAnd mode 4095 / 512).fdiv d1).fmod 2)) (ed1 : d1 = 2)
    (ea2 : A2 = Txt.mul (Str.ofString "r") ((Builtin.bitAnd mode 4095 % 8).fdiv 4)) (eb2 : B2 = Txt.mul (Str.ofString "w") (((Builtin.bitAnd mode 4095 % 8).fdiv 2).fmod 2))
    (ec2 : C2 = tab4 (Str.ofString "") (Str.ofString "x") (Str.ofString "T") (Str.ofString "t") ((Builtin.bitAnd mode 4095 % 8).fmod 2 + 2 * ((Builtin.bitAnd mode 4095 / 512).fdiv d2).fmod 2)) (ed2 : d2 = 1)
    (l0 : ∀ q ∈ news, q.1 < B) (l1 : B < a0) (l2 : a0 < a1) (l3 : a1 < a2) : Q (.ref B) { s with heap := h', toks := tk' } := by
  subst ea0 eb0 ec0 ed0 ea1 eb1 ec1 ed1 ea2 eb2 ec2 ed2
  refine hret B a0 a1 a2 c V0 V1 V2 s0 t0 s1 t1 s2 t2 h' tk' e0 e1 e2 F (fun p hp => N p ?_) l0 l1 l2 l3
  rcases List.mem_cons.mp hp with rfl | hp
  · exact .head _
  rcases List.mem_cons.mp hp with rfl | hp
  · exact .tail _ (.head _)
  rcases List.mem_cons.mp hp with rfl | hp
  · exact .tail _ (.tail _ (.head _))
  rcases List.mem_cons.mp hp with rfl | hp
  · exact .tail _ (.tail _ (.tail _ (.head _)))
  · exact .tail _ (.tail _ (.tail _ (.tail _ (.tail _ hp))))
theorem fmod2_bd (x y : Int) : 0 ≤ x.fmod 2 + 2 * y.fmod 2 ∧ x.fmod 2 + 2 * y.fmod 2 < 4 := by
  have a := fmod_lo x (show (0:Int) < 2 by decide)
  have b := fmod_hi x (show (0:Int) < 2 by decide)
  have c := fmod_lo y (show (0:Int) < 2 by decide)
  have d := fmod_hi y (show (0:Int) < 2 by decide)
  omega
theorem item4f {prog : Program} {w : World} {A : Around} {E : Value → Shared → Prop} {s : Shared} {h₀ : Heap} {L l : Addr} {news : List (Addr × Obj)} {value slice : PySem.Expr} {a b c d : Str} {ta tb tc td : Tok} {n : Nat} {x y : Int} {u : Tok} {Q : Value → Shared → Prop}
    (N : News h₀ L s.heap ((l, listOf #[.str a ta, .str b tb, .str c tc, .str d td] n) :: news)) (ha : a.length ≤ 1) (hb : b.length ≤ 1) (hc : c.length = 1) (hd : d.length = 1) (h : ∀ V t, V = tab4 a b c d (x.fmod 2 + 2 * y.fmod 2) → V.length ≤ 1 → Q (.str V t) s)
    (hs : subscripted slice false (.ref l) (.int (x.fmod 2 + 2 * y.fmod 2) u) = operate [.ref l, .int (x.fmod 2 + 2 * y.fmod 2) u] (getItem (.ref l) (.int (x.fmod 2 + 2 * y.fmod 2) u)) := by with_unfolding_all rfl) :
    wpAny (model prog w) A (subscriptTail value slice (.ref l) (.int (x.fmod 2 + 2 * y.fmod 2) u)) Q E s :=
  item4 N (fmod2_bd x y).1 (fmod2_bd x y).2 ha hb (Nat.le_of_eq hc) (Nat.le_of_eq hd) h hs
theorem fig_item {prog : Program} {w : World} {A : Around} {E : Value → Shared → Prop} {s : Shared} {h₀ : Heap} {L l : Addr} {news : List (Addr × Obj)} {value slice : PySem.Expr} {f0 f1 f2 f3 v : Int} {t0 t1 t2 t3 : Tok} {n : Nat} {k : Int} {u : Tok} {Q : Value → Shared → Prop}
    (N : News h₀ L s.heap news) (hm : (l, listOf #[.int f0 t0, .int f1 t1, .int f2 t2, .int f3 t3] n) ∈ news) (h0 : 0 ≤ k) (h1 : k < 4) (hv : [f0, f1, f2, f3][k.toNat]? = some v) (h : ∀ t, Q (.int v t) s)
    (hs : subscripted slice false (.ref l) (.int k u) = operate [.ref l, .int k u] (getItem (.ref l) (.int k u)) := by with_unfolding_all rfl) :
    wpAny (model prog w) A (subscriptTail value slice (.ref l) (.int k u)) Q E s := by
  have hl : s.heap.IsList l #[.int f0 t0, .int f1 t1, .int f2 t2, .int f3 t3] := ⟨_, (N _ hm).1, rfl, _, rfl⟩
  rcases four h0 h1 with rfl | rfl | rfl | rfl
  all_goals
    cases hv
    exact tail_any hl.typeIs slot_list_getitem.lookup (wpAny_getItem_list hl (by decide) (by decide) rfl (h _)) hs
theorem way_item {prog : Program} {w : World} {A : Around} {E : Value → Shared → Prop} {s : Shared} {h₀ : Heap} {L l : Addr} {news : List (Addr × Obj)} {value slice : PySem.Expr} {f0 f1 f2 v : Nat} {t0 t1 t2 : Tok} {n : Nat} {k : Int} {u : Tok} {Q : Value → Shared → Prop}
    (N : News h₀ L s.heap news) (hm : (l, listOf #[.int (f0 : Int) t0, .int (f1 : Int) t1, .int (f2 : Int) t2] n) ∈ news) (h0 : 0 ≤ k) (h1 : k < 3) (hv : [f0, f1, f2][k.toNat]? = some v) (h : ∀ t, Q (.int (v : Int) t) s)
    (hs : subscripted slice false (.ref l) (.int k u) = operate [.ref l, .int k u] (getItem (.ref l) (.int k u)) := by with_unfolding_all rfl) :
    wpAny (model prog w) A (subscriptTail value slice (.ref l) (.int k u)) Q E s := by
  have hl : s.heap.IsList l #[.int (f0 : Int) t0, .int (f1 : Int) t1, .int (f2 : Int) t2] := ⟨_, (N _ hm).1, rfl, _, rfl⟩
  rcases three h0 h1 with rfl | rfl | rfl
  all_goals
    cases hv
    exact tail_any hl.typeIs slot_list_getitem.lookup (wpAny_getItem_list hl (by decide) (by decide) rfl (h _)) hs
theorem mul1 {prog : Program} {w : World} {A : Around} {E : Value → Shared → Prop} {s : Shared} {x : Str} {t u : Tok} {i : Int} {Q : Value → Shared → Prop} (hx : x.length = 1) (h0 : 0 ≤ i) (h1 : i ≤ 1)
    (h : ∀ V t' k, V = Txt.mul x i → V.length ≤ 1 → Q (.str V t') { s with toks := k }) : wpAny (model prog w) A (binaryOp .Mult (.str x t) (.int i u)) Q E s :=
  KXi.mul hx (by decide) (by omega) (by omega) fun t' k _ e => h _ t' k rfl (by have := e h0; omega)
theorem fdiv4_bd {x : Int} (h0 : 0 ≤ x) (h1 : x < 8) : 0 ≤ x.fdiv 4 ∧ x.fdiv 4 ≤ 1 := by
  rw [Int.fdiv_eq_ediv_of_nonneg _ (show (0:Int) ≤ 4 by decide)]
  omega
section
theorem due_claim (w : World) (mode : Int) (tm : Tok) (hm0 : 61440 ≤ mode) (hm1 : mode < 65536) (W : Addr) (w0 w1 w2 : Nat) (hw0 : w0 < 7) (hw1 : w1 < 7) (hw2 : w2 < 7) (q0 q1 q2 : Tok) (kW : Nat)
    (p : Program) (loose : List Str) (mean : ExcName → Option Value) (mg mb : Str → Option Value) (news : List (Addr × Obj)) (hW : (W, listOf #[.int (w0 : Int) q0, .int (w1 : Int) q1, .int (w2 : Int) q2] kW) ∈ news)
    (dp un : Nat) (gd : Option (List Code)) (cn : Str) (cs : Scope) (a : Addr) (ccd : Value) (cl : List (Str × Addr)) (outer : List Env) (A₀ : Around) (base h₀ : Heap) (L : Addr) (m : Str → Option Value) (s : Shared) (Q E : Value → Shared → Prop)
    (hBl : Below A₀ base outer h₀) (hF : Fr h₀ L s.heap m) (hK : (hd.heap_39 w.params).In h₀) (hN : News h₀ L s.heap news) (hT : Top p loose mean mg mb h₀) (hk : cs.kind = .function)
    (hdp : dp + 4 < recursionLimit) (hun : un + 32 < cLine)
    (hret : ∀ B a0 a1 a2 c V0 V1 V2 s0 t0 s1 t1 s2 t2 h' tk', V0 = dueT (Builtin.bitAnd mode 4095) 0 w0 → V1 = dueT (Builtin.bitAnd mode 4095) 1 w1 → V2 = dueT (Builtin.bitAnd mode 4095) 2 w2 → Fr h₀ L h' m → News h₀ L h' ((a2, tupO2 (Str.ofString "o") V2 s2 t2) :: (a1, tupO2 (Str.ofString "G") V1 s1 t1) :: (a0, tupO2 (Str.ofString "u") V0 s0 t0) :: (B, listOf #[.ref a0, .ref a1, .ref a2] c) :: news) → (∀ q ∈ news, q.1 < B) → B < a0 → a0 < a1 → a1 < a2 → Q (.ref B) { s with heap := h', toks := tk' }) :
      wpAny (model Challenge.rw_nq0068_01.row.prog w) (ktrTop dp un gd cn cs L a ccd cl outer) (call (.ref 129) [.int mode tm, .ref W]) Q E s := by
  k_with_none
  (k_with "call ref" => (k_here; first
  | ((with_reducible show wpAny _ _ (call (Value.ref 122) [Value.int _ _]) _ _ _); k_dflt (refine' fig_claim _ _ _ ?km0 ?km1 _ _ _ _ _ _ _ _ _ _ _ _ _ _ _ _ _ _ _ _ _ _ _ ?k1 ?k2 ?k3 ?k4 ?k5 ?k6 ?kd ?ku ?_; (case km0 => assumption); (case km1 => assumption); (case k1 => k_asm); (case k2 => k_asm); (case k3 => k_asm); (case k4 => k_asm); (case k5 => k_asm); (case k6 => exact rfl); (case kd => ktr_room); (case ku => ktr_units)); intro D9 c9 ta9 tb9 tc9 td9 h9 tk9 F9 N9 l9)
  | ((with_reducible show wpAny _ _ (call (Value.ref 94) [Value.int _ _]) _ _ _); k_dflt (refine' sd_claim _ _ _ ?km0 _ _ _ _ _ _ _ _ _ _ _ _ _ _ _ _ _ _ _ _ _ _ _ ?k1 ?k2 ?k3 ?k4 ?k5 ?k6 ?kd ?ku ?_; (case km0 => assumption); (case k1 => k_asm); (case k2 => k_asm); (case k3 => k_asm); (case k4 => k_asm); (case k5 => k_asm); (case k6 => exact rfl); (case kd => ktr_room); (case ku => ktr_units)); intro P9 ta9 tb9 tc9 h9 tk9 F9 N9 l9; (try k_lt l9))
  | ((with_reducible show wpAny _ _ (call (Value.ref 101) [Value.ref _, Value.str _ _]) _ _ _); k_dflt (refine' join_claim2 _ _ _ _ _ _ _ _ _ _ _ ?hA ?hB ?hC ?hX _ _ _ _ _ _ ?hP _ _ _ _ _ _ _ _ _ _ _ _ _ _ _ _ _ ?k1 ?k2 ?k3 ?k4 ?k5 ?k6 ?kd ?ku ?_; (case k1 => k_asm); (case k2 => k_asm); (case k3 => k_asm); (case k4 => k_asm); (case k5 => k_asm); (case k6 => exact rfl); (case kd => ktr_room); (case ku => ktr_units); (case hP => exact List.Mem.head _)); (case hA => exact (sdN_len _).1); (case hB => exact (sdN_len _).2.1); (case hC => exact (sdN_len _).2.2); (case hX => first | exact len3 (by assumption) (by assumption) (by assumption) | omega); intro V9 t9 h9 tk9 hV9 hVl9 F9 N9)))
  (k_with "subscriptTail Name BinOp ref int" => (k_here; (with_reducible show wpAny _ _ (subscriptTail _ _ (Value.ref _) (Value.int _ _)) _ _ _); k_dflt (refine' fig_item ?k1 ?km ?ka ?kb ?kc ?_ ?k4; (case k1 => k_asm); (case km => (repeat (first | assumption | exact List.Mem.head _ | refine List.Mem.tail _ ?_))); (case ka => decide); (case kb => decide); (case kc => exact rfl); (case k4 => with_unfolding_all rfl)); intro t8))
  (k_with "subscriptTail Name Constant ref int" => (k_here; (with_reducible show wpAny _ _ (subscriptTail _ _ (Value.ref _) (Value.int _ _)) _ _ _); k_dflt (refine' fig_item ?k1 ?km ?ka ?kb ?kc ?_ ?k4; (case k1 => k_asm); (case km => (repeat (first | assumption | exact List.Mem.head _ | refine List.Mem.tail _ ?_))); (case ka => decide); (case kb => decide); (case kc => exact rfl); (case k4 => with_unfolding_all rfl)); intro t8))
  (k_with "subscriptTail Name Name ref int" => (k_here; (with_reducible show wpAny _ _ (subscriptTail _ _ (Value.ref _) (Value.int _ _)) _ _ _); k_dflt (refine' way_item ?k1 ?km ?ka ?kb ?kc ?_ ?k4; (case k1 => k_asm); (case km => (repeat (first | assumption | exact List.Mem.head _ | refine List.Mem.tail _ ?_))); (case ka => decide); (case kb => decide); (case kc => exact rfl); (case k4 => with_unfolding_all rfl)); intro t8))
  (k_with "binaryOp Mult str int" => (k_here; (with_reducible show wpAny _ _ (binaryOp _ (Value.str _ _) (Value.int _ _)) _ _ _); k_dflt (refine' mul1 ?ka ?kb ?kc ?_; (case ka => decide); (case kb => first | exact (fdiv4_bd (by assumption) (by assumption)).1 | exact fmod_lo _ (by decide)); (case kc => first | exact (fdiv4_bd (by assumption) (by assumption)).2 | exact Int.le_of_lt_add_one (fmod_hi _ (by decide)))); intro V8 t8 k8 hV8 hVl8))
  revert hK; k_fill; intro hK
  have hb0 : 0 ≤ Builtin.bitAnd mode 4095 := (bitAnd_range mode (show (0:Int) ≤ 4095 by decide)).1
  have hb1 : Builtin.bitAnd mode 4095 < 4096 := Int.lt_of_le_of_lt (bitAnd_range mode (show (0:Int) ≤ 4095 by decide)).2 (by decide)
  refine wpAny_call ?_
  k_dflt cell_enter
  iterate 26 (first | (k_unfold; (try dsimp only)) | (k_end; kc_close) | walk1 | (dsimp only; walk1) | (leave1; walk_say "STEP leave1"; (try dsimp only)))
  (rename ∀ q ∈ news, q.1 ≠ _ => hne9)
  generalize hf0 : Builtin.bitAnd mode 4095 / 512 = f0 at *
  generalize hf1 : Builtin.bitAnd mode 4095 / 64 % 8 = f1 at *
  generalize hf2 : Builtin.bitAnd mode 4095 / 8 % 8 = f2 at *
  generalize hf3 : Builtin.bitAnd mode 4095 % 8 = f3 at *
  have g1 : 0 ≤ f1 ∧ f1 < 8 := by rw [← hf1]; exact ⟨Int.emod_nonneg _ (by decide), Int.emod_lt_of_pos _ (by decide)⟩
  have g2 : 0 ≤ f2 ∧ f2 < 8 := by rw [← hf2]; exact ⟨Int.emod_nonneg _ (by decide), Int.emod_lt_of_pos _ (by decide)⟩
  have g3 : 0 ≤ f3 ∧ f3 < 8 := by rw [← hf3]; exact ⟨Int.emod_nonneg _ (by decide), Int.emod_lt_of_pos _ (by decide)⟩
  obtain ⟨g10, g11⟩ := g1
  obtain ⟨g20, g21⟩ := g2
  obtain ⟨g30, g31⟩ := g3
  iterate 18 (first | (k_unfold; (try dsimp only)) | (k_end; kc_close) | walk1 | (dsimp only; walk1) | (leave1; walk_say "STEP leave1"; (try dsimp only)))
  (first | (k_unfold; (try dsimp only)) | (k_end; kc_close) | walk1 | (dsimp only; walk1) | (leave1; walk_say "STEP leave1"; (try dsimp only)))
  (rename _ ∧ _ ∧ AllLt _ news => lI)
  obtain ⟨lI1, lI2, lI3⟩ := lI
  have oI := fun p hp => Nat.ne_of_lt (allLt_mem lI3 p hp)
  iterate 61 (first | (k_unfold; (try dsimp only)) | (k_end; kc_close) | walk1 | (dsimp only; walk1) | (leave1; walk_say "STEP leave1"; (try dsimp only)))
  k_dflt (refine' item4f ?k1 ?ka ?kb ?kc ?ke ?_ ?k4; (case k1 => k_asm); (case ka => decide); (case kb => decide); (case kc => assumption); (case ke => assumption); (case k4 => with_unfolding_all rfl))
  intro V8 t8 hV8 hVl8
  dsimp only
  (first | (k_unfold; (try dsimp only)) | (k_end; kc_close) | walk1 | (dsimp only; walk1) | (leave1; walk_say "STEP leave1"; (try dsimp only)))
  dsimp only
  (first | (k_unfold; (try dsimp only)) | (k_end; kc_close) | walk1 | (dsimp only; walk1) | (leave1; walk_say "STEP leave1"; (try dsimp only)))
  k_steps
  k_dflt (refine unr_drop (by assumption) (by assumption) ?_ (off_cons (Nat.ne_of_lt lI1) (off_cons (Nat.ne_of_lt lI2) oI)) ?_)
  · ((show (_ : Nat) < _); (try dsimp only); first | with_reducible assumption | (with_reducible apply ltL; kba_ints) | omega)
  iterate 63 (first | (k_unfold; (try dsimp only)) | (k_end; kc_close) | walk1 | (dsimp only; walk1) | (leave1; walk_say "STEP leave1"; (try dsimp only)))
  k_dflt (refine' item4f ?k1 ?ka ?kb ?kc ?ke ?_ ?k4; (case k1 => k_asm); (case ka => decide); (case kb => decide); (case kc => assumption); (case ke => assumption); (case k4 => with_unfolding_all rfl))
  intro V8 t8 hV8 hVl8
  dsimp only
  (first | (k_unfold; (try dsimp only)) | (k_end; kc_close) | walk1 | (dsimp only; walk1) | (leave1; walk_say "STEP leave1"; (try dsimp only)))
  dsimp only
  (first | (k_unfold; (try dsimp only)) | (k_end; kc_close) | walk1 | (dsimp only; walk1) | (leave1; walk_say "STEP leave1"; (try dsimp only)))
  k_steps
  k_dflt (refine unr_drop (by assumption) (by assumption) ?_ (off_cons (Nat.ne_of_gt ?_) (off_cons (Nat.ne_of_lt lI1) (off_cons (Nat.ne_of_lt lI2) oI))) ?_)
  · ((show (_ : Nat) < _); (try dsimp only); first | with_reducible assumption | (with_reducible apply ltL; kba_ints) | omega)
  · ((show (_ : Nat) < _); (try dsimp only); first | with_reducible assumption | (with_reducible apply ltL; kba_ints) | omega)
  iterate 63 (first | (k_unfold; (try dsimp only)) | (k_end; kc_close) | walk1 | (dsimp only; walk1) | (leave1; walk_say "STEP leave1"; (try dsimp only)))
  k_dflt (refine' item4f ?k1 ?ka ?kb ?kc ?ke ?_ ?k4; (case k1 => k_asm); (case ka => decide); (case kb => decide); (case kc => assumption); (case ke => assumption); (case k4 => with_unfolding_all rfl))
  intro V8 t8 hV8 hVl8
  dsimp only
  (first | (k_unfold; (try dsimp only)) | (k_end; kc_close) | walk1 | (dsimp only; walk1) | (leave1; walk_say "STEP leave1"; (try dsimp only)))
  dsimp only
  (first | (k_unfold; (try dsimp only)) | (k_end; kc_close) | walk1 | (dsimp only; walk1) | (leave1; walk_say "STEP leave1"; (try dsimp only)))
  k_steps
  k_dflt (refine unr_drop (by assumption) (by assumption) ?_ (off_cons (Nat.ne_of_gt ?_) (off_cons (Nat.ne_of_gt ?_) (off_cons (Nat.ne_of_lt lI1) (off_cons (Nat.ne_of_lt lI2) oI)))) ?_)
  · ((show (_ : Nat) < _); (try dsimp only); first | with_reducible assumption | (with_reducible apply ltL; kba_ints) | omega)
  · ((show (_ : Nat) < _); (try dsimp only); first | with_reducible assumption | (with_reducible apply ltL; kba_ints) | omega)
  · ((show (_ : Nat) < _); (try dsimp only); first | with_reducible assumption | (with_reducible apply ltL; kba_ints) | omega)
  k_steps
  (rename News h₀ L _ _ => lN)
  (rename Fr h₀ L _ _ => lF)
  subst hf0 hf1 hf2 hf3
  (rename _ ∧ AllLt _ news => lB)
  k_dflt (refine due_fin hret lF lN (by assumption) (by assumption) (by assumption) (by assumption) (by assumption) (by assumption) ?_ (by assumption) (by assumption) (by assumption) ?_ (by assumption) (by assumption) (by assumption) ?_ (fun q hq => allLt_mem lB.2 q hq) ?_ ?_ ?_)
  · decide
  · decide
  · decide
  · ((show (_ : Nat) < _); (try dsimp only); first | with_reducible assumption | (with_reducible apply ltL; kba_ints) | omega)
  · ((show (_ : Nat) < _); (try dsimp only); first | with_reducible assumption | (with_reducible apply ltL; kba_ints) | omega)
  · ((show (_ : Nat) < _); (try dsimp only); first | with_reducible assumption | (with_reducible apply ltL; kba_ints) | omega)
end
end Mine

end
section
namespace Mine
set_option maxRecDepth 100000
noncomputable def SG (c r o : Nat) : Str := ⟨((if r / 4 % 2 = 1 then [114] else []) ++ (if r / 2 % 2 = 1 then [119] else []) ++ (if o = 0 then (if r % 2 = 1 then [120] else []) else if r % 2 = 1 then (if c = 2 then [116] else [115]) else (if c = 2 then [84] else [83]))).toArray⟩
noncomputable def RR (m : Int) (c : Nat) : Nat := (m / (if c = 0 then 64 else if c = 1 then 8 else 1) % 8).toNat
noncomputable def OO (m : Int) (c : Nat) : Nat := (m / (if c = 0 then 2048 else if c = 1 then 1024 else 512) % 2).toNat
theorem RR_lt (m : Int) (c : Nat) : RR m c < 8 := nat_lt (Int.emod_nonneg _ (by decide)) (Int.emod_lt_of_pos _ (by decide))
theorem OO_lt (m : Int) (c : Nat) : OO m c < 2 := nat_lt (Int.emod_nonneg _ (by decide)) (Int.emod_lt_of_pos _ (by decide))
/-- a figure of two -/
noncomputable def bt (x k : Int) : Nat := (x / k % 2).toNat
theorem bt_cast (x k : Int) : ((bt x k : Nat) : Int) = x / k % 2 := Int.toNat_of_nonneg (Int.emod_nonneg _ (by decide))
theorem bt_lt (x k : Int) : bt x k < 2 := nat_lt (Int.emod_nonneg _ (by decide)) (Int.emod_lt_of_pos _ (by decide))
theorem bt_one {x k : Int} : (x / k % 2 = 1) ↔ bt x k = 1 := by
  rw [← bt_cast]
  exact ⟨fun h => Int.ofNat.inj h, fun h => by rw [h]; rfl⟩
theorem bit_at (x : Int) (k : Nat) (y : Int) (hy : y = 2 ^ k) : (Builtin.bitAnd x y = y) ↔ x / y % 2 = 1 := by
  subst hy
  rw [kbt_bit]
  have hp : (0 : Int) < 2 ^ k := Int.pow_pos (by decide)
  have h1 := Int.emod_nonneg (x / 2 ^ k) (show (2:Int) ≠ 0 by decide)
  have h2 := Int.emod_lt_of_pos (x / 2 ^ k) (show (0:Int) < 2 by decide)
  generalize x / 2 ^ k % 2 = b at *
  generalize (2 : Int) ^ k = p at *
  have hb : b = 0 ∨ b = 1 := by omega
  rcases hb with rfl | rfl
  · rw [Int.zero_mul]; constructor
    · intro h; omega
    · intro h; omega
  · rw [Int.one_mul]; simp
theorem pow_half (k : Nat) : (2 : Int) ^ (k + 1) / 2 = 2 ^ k ∧ (2 : Int) ^ (k + 1) % 2 = 0 := by
  rw [Int.pow_succ]
  generalize (2 : Int) ^ k = p
  omega
theorem bitAnd_even (x : Int) (k : Nat) : Builtin.bitAnd x (2 ^ (k + 1)) = 2 * Builtin.bitAnd (x / 2) (2 ^ k) := by
  rw [kbt_halves, (pow_half k).1, (pow_half k).2]
  simp
theorem bitAnd_two : ∀ (j k : Nat) (x : Int), Builtin.bitAnd x (2 ^ (j + k + 1) + 2 ^ j) = Builtin.bitAnd x (2 ^ (j + k + 1)) + Builtin.bitAnd x (2 ^ j)
  | 0, k, x => by
    have e1 : ((2 : Int) ^ (0 + k + 1) + 2 ^ 0) / 2 = 2 ^ k := by
      rw [Nat.zero_add, Int.pow_succ]; generalize (2 : Int) ^ k = p; show (p * 2 + 1) / 2 = p; omega
    have e2 : ((2 : Int) ^ (0 + k + 1) + 2 ^ 0) % 2 = 1 := by
      rw [Nat.zero_add, Int.pow_succ]; generalize (2 : Int) ^ k = p; show (p * 2 + 1) % 2 = 1; omega
    have e3 := bitAnd_even x k
    have e4 := bitAnd_m1 x
    rw [kbt_halves, e1, e2, Nat.zero_add, e3]
    show _ = _ + Builtin.bitAnd x 1
    rw [e4]
    simp only [and_true]
    split <;> omega
  | j + 1, k, x => by
    have e1 : ((2 : Int) ^ (j + 1 + k + 1) + 2 ^ (j + 1)) / 2 = 2 ^ (j + k + 1) + 2 ^ j := by
      rw [show j + 1 + k + 1 = (j + k + 1) + 1 by omega, Int.pow_succ (2 : Int) (j + k + 1), Int.pow_succ (2 : Int) j]
      generalize (2 : Int) ^ (j + k + 1) = p
      generalize (2 : Int) ^ j = q
      omega
    have e2 : ((2 : Int) ^ (j + 1 + k + 1) + 2 ^ (j + 1)) % 2 = 0 := by
      rw [show j + 1 + k + 1 = (j + k + 1) + 1 by omega, Int.pow_succ (2 : Int) (j + k + 1), Int.pow_succ (2 : Int) j]
      generalize (2 : Int) ^ (j + k + 1) = p
      generalize (2 : Int) ^ j = q
      omega
    rw [kbt_halves, e1, e2, bitAnd_two j k (x / 2), show j + 1 + k + 1 = (j + k + 1) + 1 by omega, bitAnd_even x (j + k + 1), bitAnd_even x j]
    simp only [show ¬ ((0 : Int) = 1) from by decide, and_false, if_false]
    omega
theorem two_bits (x : Int) (j k : Nat) (p q : Int) (hp : p = 2 ^ (j + k + 1)) (hq : q = 2 ^ j) (h0 : 0 < q) (h1 : q < p) : (Builtin.bitAnd x (p + q) = p + q) ↔ (x / p % 2 = 1 ∧ x / q % 2 = 1) := by
  have e := bitAnd_two j k x
  rw [← hp, ← hq] at e
  have e1 := kbt_bit x (j + k + 1)
  have e2 := kbt_bit x j
  rw [← hp] at e1
  rw [← hq] at e2
  rw [e, e1, e2]
  have b1 := Int.emod_nonneg (x / p) (show (2:Int) ≠ 0 by decide)
  have b2 := Int.emod_lt_of_pos (x / p) (show (0:Int) < 2 by decide)
  have c1 := Int.emod_nonneg (x / q) (show (2:Int) ≠ 0 by decide)
  have c2 := Int.emod_lt_of_pos (x / q) (show (0:Int) < 2 by decide)
  generalize x / p % 2 = b at *
  generalize x / q % 2 = c at *
  clear e e1 e2 hp hq
  have hb : b = 0 ∨ b = 1 := by omega
  have hc : c = 0 ∨ c = 1 := by omega
  rcases hb with rfl | rfl <;> rcases hc with rfl | rfl
  · rw [Int.zero_mul, Int.zero_mul]; constructor <;> intro h <;> omega
  · rw [Int.zero_mul, Int.one_mul]; constructor <;> intro h <;> omega
  · rw [Int.zero_mul, Int.one_mul]; constructor <;> intro h <;> omega
  · rw [Int.one_mul, Int.one_mul]; exact ⟨fun _ => ⟨rfl, rfl⟩, fun _ => rfl⟩
theorem lit1 {p : Prop} [Decidable p] {a b : Nat} {q : Prop} [Decidable q] (h : p ↔ q) {A B : Str} (hA : A = ⟨#[a]⟩) (hB : B = ⟨#[b]⟩) : (if p then A else B) = ⟨#[if q then a else b]⟩ := by
  subst hA hB
  by_cases hp : p
  · rw [if_pos hp, if_pos (h.mp hp)]
  · rw [if_neg hp, if_neg fun e => hp (h.mpr e)]
theorem fmc_rw (x : Int) (K : Nat) (y : Int) (hy : y = 2 ^ K) {l : Str} {n : Nat} (hl : l = ⟨#[n]⟩) : (if decide (Builtin.bitAnd x y = y) = true then l else Str.ofString "-") = ⟨#[if bt x y = 1 then n else 45]⟩ :=
  lit1 (decide_eq_true_iff.trans ((bit_at x K y hy).trans bt_one)) hl dash_lit
theorem fmc_x (x : Int) (J K : Nat) (p q pq : Int) (e : pq = p + q) (hp : p = 2 ^ (J + K + 1)) (hq : q = 2 ^ J) (h0 : 0 < q) (h1 : q < p) {s S z : Str} {n N : Nat} (hs : s = ⟨#[n]⟩) (hS : S = ⟨#[N]⟩) (hz : z = ⟨#[120]⟩) :
    (if decide (Builtin.bitAnd x pq = pq) = true then s else if decide (Builtin.bitAnd x p = p) = true then S else if decide (Builtin.bitAnd x q = q) = true then z else Str.ofString "-") = ⟨#[if bt x p = 1 ∧ bt x q = 1 then n else if bt x p = 1 then N else if bt x q = 1 then 120 else 45]⟩ := by
  subst e
  exact lit1 (decide_eq_true_iff.trans ((two_bits x J K p q hp hq h0 h1).trans (and_congr bt_one bt_one))) hs (lit1 (decide_eq_true_iff.trans ((bit_at x _ p hp).trans bt_one)) hS (fmc_rw x J q hq hz))
theorem lt_r : Str.ofString "r" = ⟨#[114]⟩ := by decide +kernel
theorem lt_w : Str.ofString "w" = ⟨#[119]⟩ := by decide +kernel
theorem lt_x : Str.ofString "x" = ⟨#[120]⟩ := by decide +kernel
theorem lt_s : Str.ofString "s" = ⟨#[115]⟩ := by decide +kernel
theorem lt_S : Str.ofString "S" = ⟨#[83]⟩ := by decide +kernel
theorem lt_t : Str.ofString "t" = ⟨#[116]⟩ := by decide +kernel
theorem lt_T : Str.ofString "T" = ⟨#[84]⟩ := by decide +kernel
noncomputable def f1 (u : Nat) (n : Nat) : Nat := if u = 1 then n else 45
noncomputable def f3 (h t n N : Nat) : Nat := if h = 1 ∧ t = 1 then n else if h = 1 then N else if t = 1 then 120 else 45
theorem fmc_1 (x : Int) : fmc x 1 = ⟨#[f1 (bt x 256) 114]⟩ := fmc_rw x 8 256 (by decide) lt_r
theorem fmc_2 (x : Int) : fmc x 2 = ⟨#[f1 (bt x 128) 119]⟩ := fmc_rw x 7 128 (by decide) lt_w
theorem fmc_3 (x : Int) : fmc x 3 = ⟨#[f3 (bt x 2048) (bt x 64) 115 83]⟩ := fmc_x x 6 4 2048 64 2112 (by decide) (by decide) (by decide) (by decide) (by decide) lt_s lt_S lt_x
theorem fmc_4 (x : Int) : fmc x 4 = ⟨#[f1 (bt x 32) 114]⟩ := fmc_rw x 5 32 (by decide) lt_r
theorem fmc_5 (x : Int) : fmc x 5 = ⟨#[f1 (bt x 16) 119]⟩ := fmc_rw x 4 16 (by decide) lt_w
theorem fmc_6 (x : Int) : fmc x 6 = ⟨#[f3 (bt x 1024) (bt x 8) 115 83]⟩ := fmc_x x 3 6 1024 8 1032 (by decide) (by decide) (by decide) (by decide) (by decide) lt_s lt_S lt_x
theorem fmc_7 (x : Int) : fmc x 7 = ⟨#[f1 (bt x 4) 114]⟩ := fmc_rw x 2 4 (by decide) lt_r
theorem fmc_8 (x : Int) : fmc x 8 = ⟨#[f1 (bt x 2) 119]⟩ := fmc_rw x 1 2 (by decide) lt_w
theorem fmc_9 (x : Int) : fmc x 9 = ⟨#[f3 (bt x 512) (bt x 1) 116 84]⟩ := fmc_x x 0 8 512 1 513 (by decide) (by decide) (by decide) (by decide) (by decide) lt_t lt_T lt_x
theorem fmc_0 (x : Int) : ∃ a, fmc x 0 = ⟨#[a]⟩ := by
  have key : ∀ (test : Int → Bool) (d : Str), (∃ a, d = ⟨#[a]⟩) → ∀ ps : List (Int × Str), (∀ p ∈ ps, ∃ a, p.2 = ⟨#[a]⟩) → ∃ a, pick test d ps = ⟨#[a]⟩ := by
    intro test d hd ps
    induction ps with
    | nil => intro _; exact hd
    | cons p r ih =>
      intro h
      show ∃ a, (if test p.1 = true then p.2 else pick test d r) = ⟨#[a]⟩
      split
      · exact h p (.head _)
      · exact ih fun q hq => h q (.tail _ hq)
  refine key _ _ ⟨63, by decide +kernel⟩ _ ?_
  intro p hp
  simp only [tabs, List.getElem?_cons_zero, Option.getD_some, List.mem_cons, List.not_mem_nil, or_false] at hp
  rcases hp with rfl | rfl | rfl | rfl | rfl | rfl | rfl
  all_goals exact ⟨_, rfl⟩
theorem strike (x : Str) (l : List Nat) (hx : x.cps.toList = l) : Txt.replace x ⟨#[45]⟩ ⟨#[]⟩ = ⟨(l.filter (· != 45)).toArray⟩ := by
  have h := replace_strikes x 45
  rw [hx] at h
  cases hZ : Txt.replace x ⟨#[45]⟩ ⟨#[]⟩ with
  | mk Z =>
    rw [hZ] at h
    congr 1
    rw [← h]
theorem sgnL (c : Nat) (hc : c < 3) {x : Int} {a0 a1 a2 a3 a4 a5 a6 a7 a8 a9 : Nat} (h0 : fmc x 0 = ⟨#[a0]⟩) (h1 : fmc x 1 = ⟨#[a1]⟩) (h2 : fmc x 2 = ⟨#[a2]⟩) (h3 : fmc x 3 = ⟨#[a3]⟩) (h4 : fmc x 4 = ⟨#[a4]⟩) (h5 : fmc x 5 = ⟨#[a5]⟩) (h6 : fmc x 6 = ⟨#[a6]⟩) (h7 : fmc x 7 = ⟨#[a7]⟩) (h8 : fmc x 8 = ⟨#[a8]⟩) (h9 : fmc x 9 = ⟨#[a9]⟩) :
    sgn x (c : Int) = ⟨((([a1, a2, a3, a4, a5, a6, a7, a8, a9].drop (3 * c)).take 3).filter (· != 45)).toArray⟩ := by
  have e : (List.range 10).map (fmc x) = [⟨#[a0]⟩, ⟨#[a1]⟩, ⟨#[a2]⟩, ⟨#[a3]⟩, ⟨#[a4]⟩, ⟨#[a5]⟩, ⟨#[a6]⟩, ⟨#[a7]⟩, ⟨#[a8]⟩, ⟨#[a9]⟩] := by
    show [fmc x 0, fmc x 1, fmc x 2, fmc x 3, fmc x 4, fmc x 5, fmc x 6, fmc x 7, fmc x 8, fmc x 9] = _
    rw [h0, h1, h2, h3, h4, h5, h6, h7, h8, h9]
  have e4 : (Str.ofString "") = ⟨#[]⟩ := by decide +kernel
  unfold sgn
  rw [e, dash_lit, e4]
  clear e h0 h1 h2 h3 h4 h5 h6 h7 h8 h9
  match c, hc with
  | 0, _ => exact strike _ [a1, a2, a3] (by kernel_rfl)
  | 1, _ => exact strike _ [a4, a5, a6] (by kernel_rfl)
  | 2, _ => exact strike _ [a7, a8, a9] (by kernel_rfl)
theorem tri : ∀ c < 3, ∀ u < 2, ∀ v < 2, ∀ h < 2, ∀ t < 2, (⟨([f1 u 114, f1 v 119, f3 h t (if c = 2 then 116 else 115) (if c = 2 then 84 else 83)].filter (· != 45)).toArray⟩ : Str) = SG c (4 * u + 2 * v + t) h := by decide +kernel
theorem eight (y : Int) : (y % 8).toNat = 4 * (y / 4 % 2).toNat + 2 * (y / 2 % 2).toNat + (y % 2).toNat := by omega
theorem RR_of (x : Int) (c : Nat) (k k2 k4 : Int) (hk : k = if c = 0 then 64 else if c = 1 then 8 else 1) (h0 : 0 ≤ k) (h2 : k2 = k * 2) (h4 : k4 = k * 4) : RR x c = 4 * bt x k4 + 2 * bt x k2 + bt x k := by
  unfold RR bt
  rw [← hk, h2, h4, ← Int.ediv_ediv_of_nonneg h0, ← Int.ediv_ediv_of_nonneg h0]
  exact eight (x / k)
theorem sgn_eq (x : Int) (c : Nat) (hc : c < 3) : sgn x (c : Int) = SG c (RR x c) (OO x c) := by
  obtain ⟨a0, h0⟩ := fmc_0 x
  rw [sgnL c hc h0 (fmc_1 x) (fmc_2 x) (fmc_3 x) (fmc_4 x) (fmc_5 x) (fmc_6 x) (fmc_7 x) (fmc_8 x) (fmc_9 x)]
  match c, hc with
  | 0, _ => rw [RR_of x 0 64 128 256 rfl (by decide) rfl rfl]; exact tri 0 (by decide) _ (bt_lt x 256) _ (bt_lt x 128) _ (bt_lt x 2048) _ (bt_lt x 64)
  | 1, _ => rw [RR_of x 1 8 16 32 rfl (by decide) rfl rfl]; exact tri 1 (by decide) _ (bt_lt x 32) _ (bt_lt x 16) _ (bt_lt x 1024) _ (bt_lt x 8)
  | 2, _ => rw [RR_of x 2 1 2 4 rfl (by decide) rfl rfl]; exact tri 2 (by decide) _ (bt_lt x 4) _ (bt_lt x 2) _ (bt_lt x 512) _ (bt_lt x 1)
noncomputable def dsgF (c : Nat) (f R : Nat) : Str :=
  let d : Int := match c with | 0 => 4 | 1 => 2 | _ => 1
  let a := match c with | 2 => Str.ofString "T" | _ => Str.ofString "S"
  let b := match c with | 2 => Str.ofString "t" | _ => Str.ofString "s"
  Txt.mul (Str.ofString "r") ((R : Int).fdiv 4) ++ Txt.mul (Str.ofString "w") (((R : Int).fdiv 2).fmod 2) ++ tab4 (Str.ofString "") (Str.ofString "x") a b ((R : Int).fmod 2 + 2 * (((f : Int)).fdiv d).fmod 2)
theorem dsgF_all : ∀ c < 3, ∀ f < 8, ∀ R < 8, dsgF c f R = SG c R (f / (if c = 0 then 4 else if c = 1 then 2 else 1) % 2) := by decide +kernel
theorem em_div (x : Int) {a m : Int} (ha : 0 < a) : x % (a * m) / a = x / a % m := by
  have e : x % (a * m) = x + a * (-(m * (x / (a * m)))) := by rw [Int.emod_def, Int.mul_neg, ← Int.sub_eq_add_neg, Int.mul_assoc]
  rw [e, Int.add_mul_ediv_left _ _ (Int.ne_of_gt ha), Int.emod_def, ← Int.ediv_ediv_of_nonneg (Int.le_of_lt ha), ← Int.sub_eq_add_neg]
theorem fig_of (x : Int) {a m b : Int} (ha : 0 < a) (hb : b ∣ m) : x % (a * m) / a % b = x / a % b := by rw [em_div x ha, Int.emod_emod_of_dvd _ hb]
theorem RR_cast (x : Int) (c : Nat) : ((RR x c : Nat) : Int) = x / (if c = 0 then 64 else if c = 1 then 8 else 1) % 8 := Int.toNat_of_nonneg (Int.emod_nonneg _ (by decide))
theorem top_of (x : Int) (d : Int) (hd : 0 < d) (m : Int) (h2 : (2 : Int) ∣ m) (e : 8 = d * m) (D : Nat) (hD : d = (D : Int)) : (x / 512 % 8).toNat / D % 2 = (x / (512 * d) % 2).toNat := by
  have h0 := Int.emod_nonneg (x / 512) (show (8 : Int) ≠ 0 by decide)
  rw [← Int.ediv_ediv_of_nonneg (by decide), ← fig_of (x / 512) hd h2, ← e]
  generalize x / 512 % 8 = f at *
  obtain ⟨n, rfl⟩ := Int.eq_ofNat_of_zero_le h0
  subst hD
  rfl
noncomputable def dR (n : Int) (c : Nat) : Int := match c with | 0 => n / 64 % 8 | 1 => n / 8 % 8 | _ => n % 8
theorem dsg_as {n : Int} {c f R : Nat} (hR : dR n c = (R : Int)) (hf : n / 512 = (f : Int)) : dsg n c = dsgF c f R := by
  show Txt.mul _ ((dR n c).fdiv 4) ++ Txt.mul _ (((dR n c).fdiv 2).fmod 2) ++ tab4 _ _ _ _ ((dR n c).fmod 2 + 2 * ((n / 512).fdiv _).fmod 2) = _
  rw [hR, hf]
  rfl
theorem dsg_eq (x : Int) (c : Nat) (hc : c < 3) : dsg (Builtin.bitAnd x 4095) c = SG c (RR x c) (OO x c) := by
  have e : Builtin.bitAnd x 4095 = x % 4096 := kbt_mask x 12
  have h0 := Int.emod_nonneg (x / 512) (show (8 : Int) ≠ 0 by decide)
  have hf : x % 4096 / 512 = (((x / 512 % 8).toNat : Nat) : Int) := (em_div x (a := 512) (m := 8) (by decide)).trans (Int.toNat_of_nonneg h0).symm
  have hf8 : (x / 512 % 8).toNat < 8 := nat_lt h0 (Int.emod_lt_of_pos _ (by decide))
  have hR : dR (x % 4096) c = ((RR x c : Nat) : Int) := by
    rw [RR_cast]
    match c, hc with
    | 0, _ => exact fig_of x (a := 64) (m := 64) (by decide) (by decide)
    | 1, _ => exact fig_of x (a := 8) (m := 512) (by decide) (by decide)
    | 2, _ => exact (Int.emod_emod_of_dvd x (show (8 : Int) ∣ 4096 by decide)).trans (congrArg (· % 8) (Int.ediv_one x).symm)
  have e1 : dsg (x % 4096) c = dsgF c (x / 512 % 8).toNat (RR x c) := dsg_as hR hf
  rw [e, e1, dsgF_all c hc _ hf8 _ (RR_lt x c)]
  congr 1
  match c, hc with
  | 0, _ => exact top_of x 4 (by decide) 2 (by decide) rfl 4 rfl
  | 1, _ => exact top_of x 2 (by decide) 4 (by decide) rfl 2 rfl
  | 2, _ => exact top_of x 1 (by decide) 8 (by decide) rfl 1 rfl
end Mine

end
section
namespace Mine
set_option maxRecDepth 100000
noncomputable def CT (c wy : Nat) (X : Str) : Str := Txt.item (Str.ofString "uGo") (c : Int) ++ ((wrN wy).1 ++ Txt.join (wrN wy).2.1 (signs X) ++ (wrN wy).2.2)
noncomputable def DT (wy : Nat) (X : Str) : Str := (sdN wy).1 ++ Txt.join (sdN wy).2.1 (signs X) ++ (sdN wy).2.2
noncomputable def ky (c : Nat) : Str := match c with | 0 => Str.ofString "u" | 1 => Str.ofString "G" | _ => Str.ofString "o"
noncomputable def sep : Str := Str.ofString " ,\t"
noncomputable def tab : Str := Str.ofString "\t"
noncomputable def spc : Str := Str.ofString " "
/-- the state behind a clause that stands behind the separator -/
noncomputable def cst (C : Str) : HS := (KStt.codes C).foldl hstep ⟨[], tab, false, false⟩
/-! the cells' decision: each text is reckoned once and handed on as written signs -/
noncomputable def kN (n : Nat) (k : Nat → Bool) : Bool := @Nat.rec (fun _ => Bool) (k 0) (fun m _ => k (Nat.succ m)) n
theorem kN_eq (n : Nat) (k : Nat → Bool) : kN n k = k n := by cases n <;> rfl
noncomputable def kL (l : List Nat) : (List Nat → Bool) → Bool := @List.rec Nat (fun _ => (List Nat → Bool) → Bool) (fun k => k []) (fun a _ ih k => kN a fun b => ih fun m => k (b :: m)) l
theorem kL_eq : ∀ (l : List Nat) (k : List Nat → Bool), kL l k = k l
  | [], _ => rfl
  | a :: l, k => by
    show (kN a fun b => kL l fun m => k (b :: m)) = _
    rw [kN_eq, kL_eq l]
noncomputable def kS (s : Str) (k : Str → Bool) : Bool := kL s.cps.toList fun l => k ⟨⟨l⟩⟩
theorem kS_eq (s : Str) (k : Str → Bool) : kS s k = k s := kL_eq _ _
noncomputable def eqb (a b : Str) : Bool := PySem.W.Fast.lEq a.cps.toList b.cps.toList
theorem eqb_of {a b : Str} (h : eqb a b = true) : a = b := by
  have e := PySem.W.Fast.lEq_iff.mp h
  cases a; cases b
  simp only [Str.mk.injEq]
  exact Array.toList_inj.mp e
noncomputable def wrC : Nat → Str × Str × Str
  | 0 => (⟨#[61]⟩, ⟨#[]⟩, ⟨#[]⟩)
  | 1 => (⟨#[61, 39]⟩, ⟨#[61, 39]⟩, ⟨#[39]⟩)
  | 2 => (⟨#[61, 34]⟩, ⟨#[44]⟩, ⟨#[34]⟩)
  | 3 => (⟨#[61, 34, 92, 34]⟩, ⟨#[92, 92, 92, 34, 44]⟩, ⟨#[92, 34, 34]⟩)
  | 4 => (⟨#[61, 34]⟩, ⟨#[92]⟩, ⟨#[34]⟩)
  | 5 => (⟨#[61, 32, 46, 34]⟩, ⟨#[44]⟩, ⟨#[34]⟩)
  | 6 => (⟨#[61, 34]⟩, ⟨#[]⟩, ⟨#[34, 92]⟩)
  | _ => (⟨#[]⟩, ⟨#[]⟩, ⟨#[]⟩)
noncomputable def sdC : Nat → Str × Str × Str
  | 0 => (⟨#[]⟩, ⟨#[]⟩, ⟨#[]⟩)
  | 1 => (⟨#[39]⟩, ⟨#[61, 39]⟩, ⟨#[39]⟩)
  | 2 => (⟨#[]⟩, ⟨#[44]⟩, ⟨#[]⟩)
  | 3 => (⟨#[34]⟩, ⟨#[92, 34, 44]⟩, ⟨#[34]⟩)
  | 4 => (⟨#[]⟩, ⟨#[]⟩, ⟨#[]⟩)
  | 5 => (⟨#[32, 46, 34]⟩, ⟨#[44]⟩, ⟨#[34]⟩)
  | _ => (⟨#[34]⟩, ⟨#[]⟩, ⟨#[34, 92]⟩)
noncomputable def kyC (c : Nat) : Str := if c = 0 then ⟨#[117]⟩ else if c = 1 then ⟨#[71]⟩ else ⟨#[111]⟩
theorem wrC_is {wy : Nat} (h : wy < 8) : wrN wy = wrC wy := (by decide +kernel : ∀ wy < 8, wrN wy = wrC wy) wy h
theorem sdC_is {wy : Nat} (h : wy < 7) : sdN wy = sdC wy := (by decide +kernel : ∀ wy < 7, sdN wy = sdC wy) wy h
theorem kyC_is {c : Nat} (h : c < 3) : ky c = kyC c := (by decide +kernel : ∀ c < 3, ky c = kyC c) c h
theorem uGo_is {c : Nat} (h : c < 3) : Txt.item (Str.ofString "uGo") (c : Int) = kyC c := (by decide +kernel : ∀ c < 3, Txt.item (Str.ofString "uGo") ((c : Nat) : Int) = kyC c) c h
noncomputable def eqS : Str := ⟨#[61]⟩
theorem eqS_is : Str.ofString "=" = eqS := by decide +kernel
noncomputable def dqS : Str := ⟨#[34]⟩
theorem dqS_is : Str.ofString "\"" = dqS := lit_dq
theorem spc_is : spc = ⟨#[32]⟩ := by decide +kernel
theorem no_is : Str.ofString "" = ⟨#[]⟩ := by decide +kernel
noncomputable def tabS : Str := ⟨#[9]⟩
theorem tabS_is : tab = tabS := by decide +kernel
noncomputable def unqC (r : Str) : Str := if (eqb (Txt.item r 0) dqS && eqb (Txt.item r (-1)) dqS) = true then Txt.slice r (some 1) (some (-1)) else r
theorem eqb_eq (a b : Str) : eqb a b = (a == b) := by
  cases h : eqb a b with
  | true => rw [eqb_of h]; exact (beq_self_eq_true b).symm
  | false =>
    symm
    rw [beq_eq_false_iff_ne]
    rintro rfl
    have e : eqb a a = true := PySem.W.Fast.lEq_iff.mpr rfl
    rw [e] at h
    cases h
theorem unqC_is (r : Str) : unq r = unqC r := by
  unfold unq unqC
  rw [dqS_is, eqb_eq, eqb_eq]
noncomputable def cst' (C : Str) : HS := (KStt.codes C).foldl hstep ⟨[], tabS, false, false⟩
theorem cst'_is (C : Str) : cst C = cst' C := by unfold cst cst'; rw [tabS_is]
noncomputable def kH (st : HS) (k : Str → Bool) : Bool := match st with | ⟨[], part, false, false⟩ => kS part k | _ => false
theorem kH_of {st : HS} {k : Str → Bool} (h : kH st k = true) : st = ⟨[], st.part, false, false⟩ ∧ k st.part = true := by
  unfold kH at h
  split at h
  · rw [kS_eq] at h
    exact ⟨rfl, h⟩
  · cases h
noncomputable def chkG (k x v : Str) : Bool := match Txt.splitMax x eqS 1 with | [a, r] => eqb a k && Nat.blt 0 r.length && eqb (unqC r) v | _ => false
noncomputable def chkV (x : Str) : Bool := match Txt.splitMax x eqS 1 with | [_] => true | _ => false
noncomputable def chkI (x : Str) : Bool := match Txt.splitMax x eqS 1 with | [_, r] => eqb r ⟨#[]⟩ | _ => false
noncomputable def cell (c wy r o : Nat) : Bool :=
  kS (SG c r o) fun X =>
  kS (kyC c ++ ((wrC wy).1 ++ Txt.join (wrC wy).2.1 (signs X) ++ (wrC wy).2.2)) fun C =>
  kH (cst' C) fun p =>
  kS (Txt.strip p) fun g =>
    eqb (Txt.strip (p ++ ⟨#[32]⟩)) g && Nat.blt 0 p.length && Nat.ble g.length 100 && Nat.ble C.length 30 &&
    (if wy = 7 then chkV g else if wy = 0 ∧ r = 0 ∧ o = 0 then chkI g else kS ((sdC wy).1 ++ Txt.join (sdC wy).2.1 (signs X) ++ (sdC wy).2.2) fun v => chkG (kyC c) g v)
theorem cell_00 : ∀ r < 8, ∀ o < 2, cell 0 0 r o = true := by decide +kernel
theorem cell_01 : ∀ r < 8, ∀ o < 2, cell 0 1 r o = true := by decide +kernel
theorem cell_02 : ∀ r < 8, ∀ o < 2, cell 0 2 r o = true := by decide +kernel
theorem cell_03 : ∀ r < 8, ∀ o < 2, cell 0 3 r o = true := by decide +kernel
theorem cell_04 : ∀ r < 8, ∀ o < 2, cell 0 4 r o = true := by decide +kernel
theorem cell_05 : ∀ r < 8, ∀ o < 2, cell 0 5 r o = true := by decide +kernel
theorem cell_06 : ∀ r < 8, ∀ o < 2, cell 0 6 r o = true := by decide +kernel
theorem cell_07 : ∀ r < 8, ∀ o < 2, cell 0 7 r o = true := by decide +kernel
theorem cell_10 : ∀ r < 8, ∀ o < 2, cell 1 0 r o = true := by decide +kernel
theorem cell_11 : ∀ r < 8, ∀ o < 2, cell 1 1 r o = true := by decide +kernel
theorem cell_12 : ∀ r < 8, ∀ o < 2, cell 1 2 r o = true := by decide +kernel
theorem cell_13 : ∀ r < 8, ∀ o < 2, cell 1 3 r o = true := by decide +kernel
theorem cell_14 : ∀ r < 8, ∀ o < 2, cell 1 4 r o = true := by decide +kernel
theorem cell_15 : ∀ r < 8, ∀ o < 2, cell 1 5 r o = true := by decide +kernel
theorem cell_16 : ∀ r < 8, ∀ o < 2, cell 1 6 r o = true := by decide +kernel
theorem cell_17 : ∀ r < 8, ∀ o < 2, cell 1 7 r o = true := by decide +kernel
theorem cell_20 : ∀ r < 8, ∀ o < 2, cell 2 0 r o = true := by decide +kernel
theorem cell_21 : ∀ r < 8, ∀ o < 2, cell 2 1 r o = true := by decide +kernel
theorem cell_22 : ∀ r < 8, ∀ o < 2, cell 2 2 r o = true := by decide +kernel
theorem cell_23 : ∀ r < 8, ∀ o < 2, cell 2 3 r o = true := by decide +kernel
theorem cell_24 : ∀ r < 8, ∀ o < 2, cell 2 4 r o = true := by decide +kernel
theorem cell_25 : ∀ r < 8, ∀ o < 2, cell 2 5 r o = true := by decide +kernel
theorem cell_26 : ∀ r < 8, ∀ o < 2, cell 2 6 r o = true := by decide +kernel
theorem cell_27 : ∀ r < 8, ∀ o < 2, cell 2 7 r o = true := by decide +kernel
theorem cell_all {c wy r o : Nat} (hc : c < 3) (hw : wy < 8) (hr : r < 8) (ho : o < 2) : cell c wy r o = true := by
  rcases threeN hc with rfl | rfl | rfl
  · rcases eightN hw with rfl | rfl | rfl | rfl | rfl | rfl | rfl | rfl
    · exact cell_00 r hr o ho
    · exact cell_01 r hr o ho
    · exact cell_02 r hr o ho
    · exact cell_03 r hr o ho
    · exact cell_04 r hr o ho
    · exact cell_05 r hr o ho
    · exact cell_06 r hr o ho
    · exact cell_07 r hr o ho
  · rcases eightN hw with rfl | rfl | rfl | rfl | rfl | rfl | rfl | rfl
    · exact cell_10 r hr o ho
    · exact cell_11 r hr o ho
    · exact cell_12 r hr o ho
    · exact cell_13 r hr o ho
    · exact cell_14 r hr o ho
    · exact cell_15 r hr o ho
    · exact cell_16 r hr o ho
    · exact cell_17 r hr o ho
  · rcases eightN hw with rfl | rfl | rfl | rfl | rfl | rfl | rfl | rfl
    · exact cell_20 r hr o ho
    · exact cell_21 r hr o ho
    · exact cell_22 r hr o ho
    · exact cell_23 r hr o ho
    · exact cell_24 r hr o ho
    · exact cell_25 r hr o ho
    · exact cell_26 r hr o ho
    · exact cell_27 r hr o ho
theorem chkG_of {k x v : Str} (h : chkG k x v = true) : KGood x (k, v) := by
  unfold chkG at h
  split at h
  · rename_i a r e
    simp only [Bool.and_eq_true] at h
    obtain ⟨⟨h1, h2⟩, h3⟩ := h
    have h1' := eqb_of h1
    subst h1'
    exact ⟨r, by rw [eqS_is]; exact e, Nat.blt_eq.mp h2, by rw [unqC_is]; exact (eqb_of h3).symm⟩
  · cases h
theorem chkV_of {x : Str} (h : chkV x = true) : KVal x := by
  unfold chkV at h
  split at h
  · rename_i a e
    exact ⟨a, by rw [eqS_is]; exact e⟩
  · cases h
theorem chkI_of {x : Str} (h : chkI x = true) : KInd x := by
  unfold chkI at h
  split at h
  · rename_i a r e
    have h' := eqb_of h
    subst h'
    exact ⟨a, by rw [eqS_is, no_is]; exact e⟩
  · cases h
/-- what a cell says of a clause -/
structure Cl (C : Str) (part g : Str) : Prop where
  run : (KStt.codes C).foldl hstep ⟨[], tab, false, false⟩ = ⟨[], part, false, false⟩
  s1 : Txt.strip part = g
  s2 : Txt.strip (part ++ spc) = g
  pos : 0 < part.length
  len : g.length ≤ 100
  clen : C.length ≤ 30
theorem CT_is {c wy : Nat} (hc : c < 3) (hw : wy < 8) (X : Str) : CT c wy X = kyC c ++ ((wrC wy).1 ++ Txt.join (wrC wy).2.1 (signs X) ++ (wrC wy).2.2) := by
  unfold CT
  rw [uGo_is hc, wrC_is hw]
theorem DT_is {wy : Nat} (hw : wy < 7) (X : Str) : DT wy X = (sdC wy).1 ++ Txt.join (sdC wy).2.1 (signs X) ++ (sdC wy).2.2 := by
  unfold DT
  rw [sdC_is hw]
theorem cell_says {c wy r o : Nat} (hc : c < 3) (hw : wy < 8) (hr : r < 8) (ho : o < 2) : Cl (CT c wy (SG c r o)) (cst (CT c wy (SG c r o))).part (Txt.strip (cst (CT c wy (SG c r o))).part) ∧
    (if wy = 7 then chkV (Txt.strip (cst (CT c wy (SG c r o))).part) else if wy = 0 ∧ r = 0 ∧ o = 0 then chkI (Txt.strip (cst (CT c wy (SG c r o))).part) else chkG (kyC c) (Txt.strip (cst (CT c wy (SG c r o))).part) ((sdC wy).1 ++ Txt.join (sdC wy).2.1 (signs (SG c r o)) ++ (sdC wy).2.2)) = true := by
  have h := cell_all hc hw hr ho
  unfold cell at h
  rw [kS_eq, kS_eq, ← CT_is hc hw, ← cst'_is] at h
  generalize CT c wy (SG c r o) = C at *
  obtain ⟨e, h⟩ := kH_of h
  rw [kS_eq, kS_eq] at h
  simp only [Bool.and_eq_true] at h
  obtain ⟨⟨⟨⟨h1, h2⟩, h3⟩, h4⟩, h5⟩ := h
  exact ⟨⟨e, rfl, by rw [spc_is]; exact eqb_of h1, Nat.blt_eq.mp h2, Nat.le_of_ble_eq_true h3, Nat.le_of_ble_eq_true h4⟩, h5⟩
theorem cell_good {c wy r o : Nat} (hc : c < 3) (hw : wy < 7) (hr : r < 8) (ho : o < 2) (hn : ¬ (wy = 0 ∧ r = 0 ∧ o = 0)) : Cl (CT c wy (SG c r o)) (cst (CT c wy (SG c r o))).part (Txt.strip (cst (CT c wy (SG c r o))).part) ∧ KGood (Txt.strip (cst (CT c wy (SG c r o))).part) (ky c, DT wy (SG c r o)) := by
  obtain ⟨h1, h2⟩ := cell_says hc (Nat.lt_succ_of_lt hw) hr ho
  rw [if_neg (Nat.ne_of_lt hw), if_neg hn] at h2
  refine ⟨h1, ?_⟩
  rw [kyC_is hc, DT_is hw]
  exact chkG_of h2
theorem cl_good {c wy r o : Nat} (hc : c < 3) (hw : wy < 7) (hr : r < 8) (ho : o < 2) (hn : ¬ (wy = 0 ∧ r = 0 ∧ o = 0)) : ∃ part g, Cl (CT c wy (SG c r o)) part g ∧ KGood g (ky c, DT wy (SG c r o)) := ⟨_, _, cell_good hc hw hr ho hn⟩
theorem cl_val {c r o : Nat} (hc : c < 3) (hr : r < 8) (ho : o < 2) : ∃ part g, Cl (CT c 7 (SG c r o)) part g ∧ KVal g := by
  obtain ⟨h1, h2⟩ := cell_says (wy := 7) hc (by decide) hr ho
  rw [if_pos rfl] at h2
  exact ⟨_, _, h1, chkV_of h2⟩
theorem cl_ind {c : Nat} (hc : c < 3) : ∃ part g, Cl (CT c 0 (SG c 0 0)) part g ∧ KInd g := by
  obtain ⟨h1, h2⟩ := cell_says (wy := 0) (r := 0) (o := 0) hc (by decide) (by decide) (by decide)
  rw [if_neg (by decide), if_pos (by decide)] at h2
  exact ⟨_, _, h1, chkI_of h2⟩
theorem cl_len {c wy r o : Nat} (hc : c < 3) (hw : wy < 8) (hr : r < 8) (ho : o < 2) : (CT c wy (SG c r o)).length ≤ 30 := (cell_says hc hw hr ho).1.clen
/-- the run does not look at what is done -/
noncomputable def pre (R : List Str) (s : HS) : HS := ⟨R ++ s.res, s.part, s.esc, s.quo⟩
theorem hstep_pre (R : List Str) (s : HS) (n : Int) : hstep (pre R s) n = pre R (hstep s n) := by
  unfold hstep pre
  dsimp only
  repeat' split
  all_goals first | rfl | (simp only [List.append_assoc]) | simp_all
theorem fold_pre (R : List Str) : ∀ (l : List Int) (s : HS), l.foldl hstep (pre R s) = pre R (l.foldl hstep s)
  | [], _ => rfl
  | n :: l, s => by
    rw [List.foldl_cons, List.foldl_cons, hstep_pre]
    exact fold_pre R l _
theorem codes_app (a b : Str) : KStt.codes (a ++ b) = KStt.codes a ++ KStt.codes b := by
  unfold KStt.codes
  rw [Str.cps_append, Array.toList_append, List.map_append]
theorem sep_run (R : List Str) (p : Str) : (KStt.codes sep).foldl hstep ⟨R, p, false, false⟩ = ⟨R ++ [p ++ spc], tab, false, false⟩ := by
  have e : KStt.codes sep = [32, 44, 9] := by decide +kernel
  rw [e]
  rfl
theorem run_more {H C part : Str} {res : List Str} {p' g : Str} (h : hrun (KStt.codes H) = ⟨res, part, false, false⟩) (hC : Cl C p' g) : hrun (KStt.codes (H ++ sep ++ C)) = ⟨res ++ [part ++ spc], p', false, false⟩ := by
  unfold hrun at h ⊢
  rw [codes_app, codes_app, List.foldl_append, List.foldl_append, h, sep_run]
  have e := fold_pre (res ++ [part ++ spc]) (KStt.codes C) ⟨[], tab, false, false⟩
  rw [hC.run] at e
  simpa [pre] using e
end Mine

end
section
namespace Mine
set_option maxRecDepth 100000
theorem http_of {H part : Str} {res : List Str} (h : hrun (KStt.codes H) = ⟨res, part, false, false⟩) (hp : 0 < part.length) : httpL H = (res ++ [part]).map Txt.strip := by
  unfold httpL
  rw [h]
  have : ¬ part.length = 0 := by omega
  simp only [if_neg this]
noncomputable def al3 (a b c : Str) : List (Str × Str) := [(Str.ofString "u", a), (Str.ofString "G", b), (Str.ofString "o", c)]
noncomputable def Key (k : Str) : Prop := k = ky 0 ∨ k = ky 1 ∨ k = ky 2
theorem key_of {c : Nat} (hc : c < 3) : Key (ky c) := by
  have h := threeN hc
  rcases h with rfl | rfl | rfl
  · exact .inl rfl
  · exact .inr (.inl rfl)
  · exact .inr (.inr rfl)
theorem put_0 (a b c v : Str) : putA (al3 a b c) (ky 0, v) = al3 v b c := by
  have e1 : ¬ (Str.ofString "G" = Str.ofString "u") := by decide +kernel
  have e2 : ¬ (Str.ofString "o" = Str.ofString "u") := by decide +kernel
  simp [putA, al3, ky, e1, e2]
theorem put_1 (a b c v : Str) : putA (al3 a b c) (ky 1, v) = al3 a v c := by
  have e1 : ¬ (Str.ofString "u" = Str.ofString "G") := by decide +kernel
  have e2 : ¬ (Str.ofString "o" = Str.ofString "G") := by decide +kernel
  simp [putA, al3, ky, e1, e2]
theorem put_2 (a b c v : Str) : putA (al3 a b c) (ky 2, v) = al3 a b v := by
  have e1 : ¬ (Str.ofString "u" = Str.ofString "o") := by decide +kernel
  have e2 : ¬ (Str.ofString "G" = Str.ofString "o") := by decide +kernel
  simp [putA, al3, ky, e1, e2]
theorem put_start (a b c : Str) : ([(ky 0, a), (ky 1, b), (ky 2, c)] : List (Str × Str)).foldl putA [] = al3 a b c := by
  have e1 : ¬ (Str.ofString "u" = Str.ofString "G") := by decide +kernel
  have e2 : ¬ (Str.ofString "u" = Str.ofString "o") := by decide +kernel
  have e3 : ¬ (Str.ofString "G" = Str.ofString "o") := by decide +kernel
  simp [putA, al3, ky, e1, e2, e3]
theorem put_len (al : List (Str × Str)) (p : Str × Str) : (putA al p).length ≤ al.length + 1 := by
  unfold putA
  split
  · rw [List.length_map]; exact Nat.le_succ _
  · rw [List.length_append]; exact Nat.le_refl _
theorem put_more : ∀ (more : List (Str × Str)), (∀ p ∈ more, Key p.1) → ∀ a b c, ∃ a' b' c', more.foldl putA (al3 a b c) = al3 a' b' c'
  | [], _, a, b, c => ⟨a, b, c, rfl⟩
  | (k, v) :: r, h, a, b, c => by
    rw [List.foldl_cons]
    rcases h (k, v) (.head _) with e | e | e
    · dsimp only at e; rw [e, put_0]; exact put_more r (fun q hq => h q (.tail _ hq)) _ _ _
    · dsimp only at e; rw [e, put_1]; exact put_more r (fun q hq => h q (.tail _ hq)) _ _ _
    · dsimp only at e; rw [e, put_2]; exact put_more r (fun q hq => h q (.tail _ hq)) _ _ _
/-- what is known of a header -/
structure Hdr (H : Str) (d0 d1 d2 : Str) (k : Nat) (gk : List (Str × Str × Str)) (res : List Str) (part : Str) : Prop where
  run : hrun (KStt.codes H) = ⟨res, part, false, false⟩
  pos : 0 < part.length
  s1 : (res ++ [part]).map Txt.strip = gk.map (·.1)
  s2 : (res ++ [part ++ spc]).map Txt.strip = gk.map (·.1)
  good : ∀ x ∈ gk, KGood x.1 x.2 ∧ x.1.length ≤ 100
  shape : ∃ a b c more, gk.map (·.2) = (ky 0, a) :: (ky 1, b) :: (ky 2, c) :: more ∧ ∀ p ∈ more, Key p.1
  val : (gk.map (·.2)).foldl putA [] = al3 d0 d1 d2
  len : H.length ≤ 100 + 40 * k
theorem Hdr.three {H d0 d1 d2 : Str} {k : Nat} {gk : List (Str × Str × Str)} {res : List Str} {part : Str} (h : Hdr H d0 d1 d2 k gk res part) (i : Nat) : (((gk.map (·.2)).take i).foldl putA []).length ≤ 3 := by
  obtain ⟨a, b, c, more, e, hm⟩ := h.shape
  rw [e]
  match i with
  | 0 => exact Nat.zero_le _
  | 1 =>
    show (putA [] (ky 0, a)).length ≤ 3
    have h1 := put_len [] (ky 0, a)
    have h0 : ([] : List (Str × Str)).length = 0 := rfl
    omega
  | 2 =>
    show (putA (putA [] (ky 0, a)) (ky 1, b)).length ≤ 3
    have h1 := put_len [] (ky 0, a)
    have h2 := put_len (putA [] (ky 0, a)) (ky 1, b)
    have h0 : ([] : List (Str × Str)).length = 0 := rfl
    omega
  | j + 3 =>
    have e2 : ((ky 0, a) :: (ky 1, b) :: (ky 2, c) :: more).take (j + 3) = [(ky 0, a), (ky 1, b), (ky 2, c)] ++ more.take j := rfl
    rw [e2, List.foldl_append, put_start]
    obtain ⟨a', b', c', e3⟩ := put_more (more.take j) (fun p hp => hm p (List.mem_of_mem_take hp)) a b c
    rw [e3]
    exact Nat.le_refl _
theorem Hdr.goods {H d0 d1 d2 : Str} {k : Nat} {gk : List (Str × Str × Str)} {res : List Str} {part : Str} (h : Hdr H d0 d1 d2 k gk res part) : (gk.map (·.1)).length = (gk.map (·.2)).length ∧ ∀ (i : Nat) x p, (gk.map (·.1))[i]? = some x → (gk.map (·.2))[i]? = some p → KGood x p := by
  refine ⟨by simp, fun i x p hx hp => ?_⟩
  rw [List.getElem?_map] at hx hp
  cases hg : gk[i]? with
  | none => rw [hg] at hx; cases hx
  | some y =>
    rw [hg] at hx hp
    cases hx
    cases hp
    exact (h.good y (List.mem_of_getElem? hg)).1
noncomputable def upd3 (c : Nat) (v d0 d1 d2 : Str) : Str × Str × Str := match c with | 0 => (v, d1, d2) | 1 => (d0, v, d2) | _ => (d0, d1, v)
theorem Hdr.step {H d0 d1 d2 : Str} {k : Nat} {gk : List (Str × Str × Str)} {res : List Str} {part : Str} (h : Hdr H d0 d1 d2 k gk res part) {C p' g v : Str} {c : Nat} (hc : c < 3) (hC : Cl C p' g) (hg : KGood g (ky c, v)) :
    Hdr (H ++ sep ++ C) (upd3 c v d0 d1 d2).1 (upd3 c v d0 d1 d2).2.1 (upd3 c v d0 d1 d2).2.2 (k + 1) (gk ++ [(g, ky c, v)]) (res ++ [part ++ spc]) p' := by
  refine ⟨run_more h.run hC, hC.pos, ?_, ?_, ?_, ?_, ?_, ?_⟩
  · rw [List.map_append, h.s2, List.map_append]
    simp [hC.s1]
  · rw [List.map_append, h.s2, List.map_append]
    simp [hC.s2]
  · intro x hx
    rcases List.mem_append.mp hx with hx | hx
    · exact h.good x hx
    · rw [List.mem_singleton.mp hx]
      exact ⟨hg, hC.len⟩
  · obtain ⟨a, b, c', more, e, hm⟩ := h.shape
    refine ⟨a, b, c', more ++ [(ky c, v)], ?_, ?_⟩
    · rw [List.map_append, e]
      rfl
    · intro p hp
      rcases List.mem_append.mp hp with hp | hp
      · exact hm p hp
      · rw [List.mem_singleton.mp hp]
        exact key_of hc
  · rw [List.map_append, List.foldl_append, h.val]
    have hcc := threeN hc
    rcases hcc with rfl | rfl | rfl
    · exact put_0 _ _ _ _
    · exact put_1 _ _ _ _
    · exact put_2 _ _ _ _
  · rw [Str.length_append, Str.length_append]
    have h1 := h.len
    have h2 := hC.clen
    have h3 : sep.length = 3 := by decide +kernel
    omega
/-- the list that parse_http_list gives of a header with one clause more -/
theorem Hdr.http {H d0 d1 d2 : Str} {k : Nat} {gk : List (Str × Str × Str)} {res : List Str} {part : Str} (h : Hdr H d0 d1 d2 k gk res part) : httpL H = gk.map (·.1) := by
  rw [http_of h.run h.pos, h.s1]
theorem Hdr.http_more {H d0 d1 d2 : Str} {k : Nat} {gk : List (Str × Str × Str)} {res : List Str} {part : Str} (h : Hdr H d0 d1 d2 k gk res part) {C p' g : Str} (hC : Cl C p' g) : httpL (H ++ sep ++ C) = gk.map (·.1) ++ [g] := by
  rw [http_of (run_more h.run hC) hC.pos, List.map_append, h.s2]
  simp [hC.s1]
theorem clauseT_eq (m : Int) (c wy : Nat) (hc : c < 3) : clauseT m (c : Int) wy = CT c wy (SG c (RR m c) (OO m c)) := by
  unfold clauseT CT
  rw [sgn_eq m c hc]
theorem dueT_eq (m : Int) (c wy : Nat) (hc : c < 3) : dueT (Builtin.bitAnd m 4095) c wy = DT wy (SG c (RR m c) (OO m c)) := by
  unfold dueT DT
  rw [dsg_eq m c hc]
noncomputable def due3 (m : Int) (c wy : Nat) : Str := DT wy (SG c (RR m c) (OO m c))
/-- the header at the start -/
noncomputable def H0 : Str := CT 0 2 (SG 0 7 0) ++ sep ++ CT 1 1 (SG 1 5 1) ++ sep ++ CT 2 3 (SG 2 7 1)
theorem H0_start : Hdr (CT 0 2 (SG 0 7 0) ++ sep ++ CT 1 1 (SG 1 5 1) ++ sep ++ CT 2 3 (SG 2 7 1)) (due3 63471 0 2) (due3 63471 1 1) (due3 63471 2 3) 0 [(CT 0 2 (SG 0 7 0), ky 0, due3 63471 0 2), (Txt.strip (cst (CT 1 1 (SG 1 5 1))).part, ky 1, due3 63471 1 1), (Txt.strip (cst (CT 2 3 (SG 2 7 1))).part, ky 2, due3 63471 2 3)] [CT 0 2 (SG 0 7 0) ++ spc, (cst (CT 1 1 (SG 1 5 1))).part ++ spc] (cst (CT 2 3 (SG 2 7 1))).part := by
  have r0 : RR 63471 0 = 7 := by decide +kernel
  have r1 : RR 63471 1 = 5 := by decide +kernel
  have r2 : RR 63471 2 = 7 := by decide +kernel
  have o0 : OO 63471 0 = 0 := by decide +kernel
  have o1 : OO 63471 1 = 1 := by decide +kernel
  have o2 : OO 63471 2 = 1 := by decide +kernel
  unfold due3
  rw [r0, r1, r2, o0, o1, o2]
  obtain ⟨d1, g1⟩ := cell_good (c := 1) (wy := 1) (r := 5) (o := 1) (by decide) (by decide) (by decide) (by decide) (by decide)
  obtain ⟨d2, g2⟩ := cell_good (c := 2) (wy := 3) (r := 7) (o := 1) (by decide) (by decide) (by decide) (by decide) (by decide)
  have run0 : hrun (KStt.codes (CT 0 2 (SG 0 7 0))) = ⟨[], CT 0 2 (SG 0 7 0), false, false⟩ := by
    have e1 : (hrun (KStt.codes (CT 0 2 (SG 0 7 0)))).res = [] := by decide +kernel
    have e2 : (hrun (KStt.codes (CT 0 2 (SG 0 7 0)))).part = CT 0 2 (SG 0 7 0) := by decide +kernel
    have e3 : (hrun (KStt.codes (CT 0 2 (SG 0 7 0)))).esc = false := by decide +kernel
    have e4 : (hrun (KStt.codes (CT 0 2 (SG 0 7 0)))).quo = false := by decide +kernel
    cases h : hrun (KStt.codes (CT 0 2 (SG 0 7 0)))
    rw [h] at e1 e2 e3 e4
    dsimp only at e1 e2 e3 e4
    rw [e1, e2, e3, e4]
  have g0 : KGood (CT 0 2 (SG 0 7 0)) (ky 0, DT 2 (SG 0 7 0)) := chkG_of (by decide +kernel)
  have s0 : Txt.strip (CT 0 2 (SG 0 7 0) ++ spc) = CT 0 2 (SG 0 7 0) := by decide +kernel
  have run1 := run_more run0 d1
  have run2 := run_more run1 d2
  refine ⟨run2, d2.pos, ?_, ?_, ?_, ?_, ?_, ?_⟩
  · simp only [List.map_cons, List.map_nil, List.nil_append, List.cons_append, s0, d1.s2]
  · simp only [List.map_cons, List.map_nil, List.nil_append, List.cons_append, s0, d1.s2, d2.s2]
  · intro x hx
    simp only [List.mem_cons, List.not_mem_nil, or_false] at hx
    rcases hx with rfl | rfl | rfl
    · exact ⟨g0, by decide +kernel⟩
    · exact ⟨g1, d1.len⟩
    · exact ⟨g2, d2.len⟩
  · exact ⟨_, _, _, [], rfl, fun _ h => nomatch h⟩
  · exact put_start _ _ _
  · decide +kernel
end Mine

end
section
namespace Mine
set_option maxRecDepth 100000
section
variable {m r x L B K Bk i j : Int}
theorem upd_here (hL : 0 < L) (r0 : 0 ≤ r) (r1 : r < B) : (m + (r - m / L % B) * L) / L % B = r := by
  rw [Int.mul_comm, Int.add_mul_ediv_left _ _ (Int.ne_of_gt hL), Int.emod_def (m / L) B]
  have e : m / L + (r - (m / L - B * (m / L / B))) = r + B * (m / L / B) := by generalize B * (m / L / B) = z; generalize m / L = y; omega
  rw [e, Int.add_mul_emod_self_left, Int.emod_eq_of_lt r0 r1]
theorem upd_low (hK : 0 < K) (hL : L = K * (Bk * i)) : (m + x * L) / K % Bk = m / K % Bk := by
  have e : x * L = K * (Bk * (i * x)) := by rw [hL, Int.mul_comm, Int.mul_assoc, Int.mul_assoc]
  rw [e, Int.add_mul_ediv_left _ _ (Int.ne_of_gt hK), Int.add_mul_emod_self_left]
theorem upd_high (hL : 0 < L) (hB : 0 < B) (r0 : 0 ≤ r) (r1 : r < B) (hK : K = L * B * j) : (m + (r - m / L % B) * L) / K = m / K := by
  have e : (m + (r - m / L % B) * L) / L / B = m / L / B := by
    rw [Int.mul_comm, Int.add_mul_ediv_left _ _ (Int.ne_of_gt hL), Int.emod_def (m / L) B]
    have e : m / L + (r - (m / L - B * (m / L / B))) = r + B * (m / L / B) := by generalize B * (m / L / B) = z; generalize m / L = y; omega
    rw [e, Int.add_mul_ediv_left _ _ (Int.ne_of_gt hB), Int.ediv_eq_zero_of_lt r0 r1, Int.zero_add]
  rw [hK, ← Int.ediv_ediv_of_nonneg (Int.le_of_lt (Int.mul_pos hL hB)), ← Int.ediv_ediv_of_nonneg (Int.le_of_lt (Int.mul_pos hL hB)), ← Int.ediv_ediv_of_nonneg (Int.le_of_lt hL), ← Int.ediv_ediv_of_nonneg (Int.le_of_lt hL), e]
end
noncomputable def lowP (c : Nat) : Int := if c = 0 then 64 else if c = 1 then 8 else 1
noncomputable def topP (c : Nat) : Int := if c = 0 then 2048 else if c = 1 then 1024 else 512
noncomputable def set1 (m r : Int) (c : Nat) : Int := m + (r - m / lowP c % 8) * lowP c
theorem setF_as (m r o : Int) {c : Nat} (hc : c < 3) : setF m c r o = set1 m r c + (o - set1 m r c / topP c % 2) * topP c := by
  unfold setF
  have e1 : (8 : Int) ^ (2 - (c : Int)).toNat = lowP c := by
    match c, hc with
    | 0, _ => decide
    | 1, _ => decide
    | 2, _ => decide
  have e2 : (2 : Int) ^ (11 - (c : Int)).toNat = topP c := by
    match c, hc with
    | 0, _ => decide
    | 1, _ => decide
    | 2, _ => decide
  have p1 : 0 ≤ lowP c := by unfold lowP; split; decide; split <;> decide
  have p2 : 0 ≤ topP c := by unfold topP; split; decide; split <;> decide
  rw [e1, e2]
  simp only [Int.fdiv_eq_ediv_of_nonneg _ p1, Int.fdiv_eq_ediv_of_nonneg _ p2, Int.fmod_eq_emod_of_nonneg _ (show (0 : Int) ≤ 8 by decide), Int.fmod_eq_emod_of_nonneg _ (show (0 : Int) ≤ 2 by decide)]
  rfl
/-- a figure's place that the setting of c does not reach: place K, base B -/
noncomputable def Apart (c : Nat) (K B : Int) : Prop :=
  ((∃ i, lowP c = K * (B * i)) ∨ ∃ j, K = lowP c * 8 * j) ∧ ((∃ i, topP c = K * (B * i)) ∨ ∃ j, K = topP c * 2 * j)
theorem lowP_pos (c : Nat) : 0 < lowP c := by unfold lowP; split; decide; split <;> decide
theorem topP_pos (c : Nat) : 0 < topP c := by unfold topP; split; decide; split <;> decide
section
variable {m r o K B : Int} {c d : Nat} (hc : c < 3) (r0 : 0 ≤ r) (r1 : r < 8) (o0 : 0 ≤ o) (o1 : o < 2)
include hc r0 r1 o0 o1
theorem set_apart (hK : 0 < K) (h : Apart c K B) : setF m c r o / K % B = m / K % B := by
  rw [setF_as m r o hc]
  have e1 : set1 m r c / K % B = m / K % B := by
    unfold set1
    rcases h.1 with ⟨i, e⟩ | ⟨j, e⟩
    · exact upd_low hK e
    · rw [upd_high (lowP_pos c) (by decide) r0 r1 e]
  rw [← e1]
  rcases h.2 with ⟨i, e⟩ | ⟨j, e⟩
  · exact upd_low hK e
  · rw [upd_high (topP_pos c) (by decide) o0 o1 e]
theorem set_range (h0 : 61440 ≤ m) (h1 : m < 65536) : 61440 ≤ setF m c r o ∧ setF m c r o < 65536 := by
  have e : setF m c r o / 4096 = m / 4096 := by
    rw [setF_as m r o hc]
    have e1 : set1 m r c / 4096 = m / 4096 := by
      match c, hc with
      | 0, _ => exact upd_high (j := 8) (by decide) (by decide) r0 r1 (by decide)
      | 1, _ => exact upd_high (j := 64) (by decide) (by decide) r0 r1 (by decide)
      | 2, _ => exact upd_high (j := 512) (by decide) (by decide) r0 r1 (by decide)
    rw [← e1]
    match c, hc with
    | 0, _ => exact upd_high (j := 1) (by decide) (by decide) o0 o1 (by decide)
    | 1, _ => exact upd_high (j := 2) (by decide) (by decide) o0 o1 (by decide)
    | 2, _ => exact upd_high (j := 4) (by decide) (by decide) o0 o1 (by decide)
  generalize setF m c r o = y at *
  clear hc r0 r1 o0 o1
  omega
theorem set_here : RR (setF m c r o) c = r.toNat ∧ OO (setF m c r o) c = o.toNat := by
  refine ⟨congrArg Int.toNat ?_, congrArg Int.toNat ?_⟩
  · show setF m c r o / lowP c % 8 = r
    rw [setF_as m r o hc]
    have e : topP c = lowP c * (8 * (if c = 0 then 4 else if c = 1 then 16 else 64)) := by
      match c, hc with
      | 0, _ => decide
      | 1, _ => decide
      | 2, _ => decide
    rw [upd_low (lowP_pos c) e]
    exact upd_here (lowP_pos c) r0 r1
  · show setF m c r o / topP c % 2 = o
    rw [setF_as m r o hc]
    exact upd_here (topP_pos c) o0 o1
theorem set_else (hd : d < 3) (hn : d ≠ c) : RR (setF m c r o) d = RR m d ∧ OO (setF m c r o) d = OO m d := by
  refine ⟨congrArg Int.toNat (set_apart hc r0 r1 o0 o1 (lowP_pos d) ?_), congrArg Int.toNat (set_apart hc r0 r1 o0 o1 (topP_pos d) ?_)⟩
  · match c, d, hc, hd, hn with
    | 0, 0, _, _, hn => exact absurd rfl hn
    | 0, 1, _, _, _ => exact ⟨.inl ⟨1, by decide⟩, .inl ⟨32, by decide⟩⟩
    | 0, 2, _, _, _ => exact ⟨.inl ⟨8, by decide⟩, .inl ⟨256, by decide⟩⟩
    | 1, 0, _, _, _ => exact ⟨.inr ⟨1, by decide⟩, .inl ⟨2, by decide⟩⟩
    | 1, 1, _, _, hn => exact absurd rfl hn
    | 1, 2, _, _, _ => exact ⟨.inl ⟨1, by decide⟩, .inl ⟨128, by decide⟩⟩
    | 2, 0, _, _, _ => exact ⟨.inr ⟨8, by decide⟩, .inl ⟨1, by decide⟩⟩
    | 2, 1, _, _, _ => exact ⟨.inr ⟨1, by decide⟩, .inl ⟨8, by decide⟩⟩
    | 2, 2, _, _, hn => exact absurd rfl hn
  · match c, d, hc, hd, hn with
    | 0, 0, _, _, hn => exact absurd rfl hn
    | 0, 1, _, _, _ => exact ⟨.inr ⟨2, by decide⟩, .inl ⟨1, by decide⟩⟩
    | 0, 2, _, _, _ => exact ⟨.inr ⟨1, by decide⟩, .inl ⟨2, by decide⟩⟩
    | 1, 0, _, _, _ => exact ⟨.inr ⟨32, by decide⟩, .inr ⟨1, by decide⟩⟩
    | 1, 1, _, _, hn => exact absurd rfl hn
    | 1, 2, _, _, _ => exact ⟨.inr ⟨8, by decide⟩, .inl ⟨1, by decide⟩⟩
    | 2, 0, _, _, _ => exact ⟨.inr ⟨256, by decide⟩, .inr ⟨2, by decide⟩⟩
    | 2, 1, _, _, _ => exact ⟨.inr ⟨128, by decide⟩, .inr ⟨1, by decide⟩⟩
    | 2, 2, _, _, hn => exact absurd rfl hn
end
theorem due_here {m r o : Int} {c wy : Nat} (hc : c < 3) (h0 : 61440 ≤ m) (h1 : m < 65536) (r0 : 0 ≤ r) (r1 : r < 8) (o0 : 0 ≤ o) (o1 : o < 2) : due3 (setF m c r o) c wy = DT wy (SG c r.toNat o.toNat) := by
  unfold due3
  rw [(set_here hc r0 r1 o0 o1).1, (set_here hc r0 r1 o0 o1).2]
theorem due_else {m r o : Int} {c d wy : Nat} (hc : c < 3) (hd : d < 3) (hn : d ≠ c) (h0 : 61440 ≤ m) (h1 : m < 65536) (r0 : 0 ≤ r) (r1 : r < 8) (o0 : 0 ≤ o) (o1 : o < 2) : due3 (setF m c r o) d wy = due3 m d wy := by
  unfold due3
  rw [(set_else hc r0 r1 o0 o1 hd hn).1, (set_else hc r0 r1 o0 o1 hd hn).2]
theorem clause_here {m r o : Int} {c wy : Nat} (hc : c < 3) (h0 : 61440 ≤ m) (h1 : m < 65536) (r0 : 0 ≤ r) (r1 : r < 8) (o0 : 0 ≤ o) (o1 : o < 2) : clauseT (setF m c r o) c wy = CT c wy (SG c r.toNat o.toNat) := by
  rw [clauseT_eq _ _ _ hc, (set_here hc r0 r1 o0 o1).1, (set_here hc r0 r1 o0 o1).2]
/-- mode, ways and header between two turns -/
noncomputable def Good (i : Nat) (m : Int) (w0 w1 w2 : Nat) (H : Str) : Prop :=
  61440 ≤ m ∧ m < 65536 ∧ w0 < 7 ∧ w1 < 7 ∧ w2 < 7 ∧ ∃ gk res part, Hdr H (due3 m 0 w0) (due3 m 1 w1) (due3 m 2 w2) i gk res part
theorem Good.mono {i j : Nat} {m : Int} {w0 w1 w2 : Nat} {H : Str} (h : Good i m w0 w1 w2 H) (hij : i ≤ j) : Good j m w0 w1 w2 H := by
  obtain ⟨a, b, c, d, e, gk, res, part, x⟩ := h
  exact ⟨a, b, c, d, e, gk, res, part, ⟨x.run, x.pos, x.s1, x.s2, x.good, x.shape, x.val, by have := x.len; omega⟩⟩
theorem Good.start : Good 0 63471 2 1 3 (CT 0 2 (SG 0 7 0) ++ sep ++ CT 1 1 (SG 1 5 1) ++ sep ++ CT 2 3 (SG 2 7 1)) :=
  ⟨by decide, by decide, by decide, by decide, by decide, _, _, _, H0_start⟩
noncomputable def put3 (c w : Nat) (w0 w1 w2 : Nat) : Nat × Nat × Nat := match c with | 0 => (w, w1, w2) | 1 => (w0, w, w2) | _ => (w0, w1, w)
theorem Good.step {i : Nat} {m : Int} {w0 w1 w2 : Nat} {H : Str} (h : Good i m w0 w1 w2 H) {c wy : Nat} {r o : Int} (hc : c < 3) (hw : wy < 7) (r0 : 0 ≤ r) (r1 : r < 8) (o0 : 0 ≤ o) (o1 : o < 2) (hn : ¬ (wy = 0 ∧ r + o = 0)) :
    Good (i + 1) (setF m c r o) (put3 c wy w0 w1 w2).1 (put3 c wy w0 w1 w2).2.1 (put3 c wy w0 w1 w2).2.2 (H ++ sep ++ clauseT (setF m c r o) c wy) := by
  obtain ⟨m0, m1, h0, h1, h2, gk, res, part, x⟩ := h
  have hr := set_range hc r0 r1 o0 o1 m0 m1
  rw [clause_here hc m0 m1 r0 r1 o0 o1]
  obtain ⟨p', g, hC, hg⟩ := cl_good (c := c) (wy := wy) (r := r.toNat) (o := o.toNat) hc hw (by omega) (by omega) (by omega)
  have y := x.step hc hC hg
  have hcc := threeN hc
  rcases hcc with rfl | rfl | rfl
  · refine ⟨hr.1, hr.2, hw, h1, h2, gk ++ [(g, ky 0, DT wy (SG 0 r.toNat o.toNat))], res ++ [part ++ spc], p', ?_⟩
    have e0 := due_here (wy := wy) hc m0 m1 r0 r1 o0 o1
    have e1 := due_else (d := 1) (wy := w1) hc (by omega) (by omega) m0 m1 r0 r1 o0 o1
    have e2 := due_else (d := 2) (wy := w2) hc (by omega) (by omega) m0 m1 r0 r1 o0 o1
    show Hdr _ (due3 _ 0 wy) (due3 _ 1 w1) (due3 _ 2 w2) _ _ _ _
    rw [e0, e1, e2]
    exact y
  · refine ⟨hr.1, hr.2, h0, hw, h2, gk ++ [(g, ky 1, DT wy (SG 1 r.toNat o.toNat))], res ++ [part ++ spc], p', ?_⟩
    have e0 := due_here (wy := wy) hc m0 m1 r0 r1 o0 o1
    have e1 := due_else (d := 0) (wy := w0) hc (by omega) (by omega) m0 m1 r0 r1 o0 o1
    have e2 := due_else (d := 2) (wy := w2) hc (by omega) (by omega) m0 m1 r0 r1 o0 o1
    show Hdr _ (due3 _ 0 w0) (due3 _ 1 wy) (due3 _ 2 w2) _ _ _ _
    rw [e0, e1, e2]
    exact y
  · refine ⟨hr.1, hr.2, h0, h1, hw, gk ++ [(g, ky 2, DT wy (SG 2 r.toNat o.toNat))], res ++ [part ++ spc], p', ?_⟩
    have e0 := due_here (wy := wy) hc m0 m1 r0 r1 o0 o1
    have e1 := due_else (d := 0) (wy := w0) hc (by omega) (by omega) m0 m1 r0 r1 o0 o1
    have e2 := due_else (d := 1) (wy := w1) hc (by omega) (by omega) m0 m1 r0 r1 o0 o1
    show Hdr _ (due3 _ 0 w0) (due3 _ 1 w1) (due3 _ 2 wy) _ _ _ _
    rw [e0, e1, e2]
    exact y
/-- what _law_read needs, of a header as one plain fact -/
noncomputable def RdOk (S : Str) (out : Nat) (v0 v1 v2 : Str) : Prop :=
  S.length ≤ 1000 ∧ ∃ (gs tl : List Str) (ks : List (Str × Str)), httpL S = gs ++ tl ∧ (gs.length = ks.length ∧ ∀ (i : Nat) x p, gs[i]? = some x → ks[i]? = some p → KGood x p) ∧ (∀ x ∈ gs ++ tl, x.length ≤ 1000) ∧
    (∀ i, ((ks.take i).foldl putA []).length ≤ 3) ∧ (out = 0 → ks.foldl putA [] = [(Str.ofString "u", v0), (Str.ofString "G", v1), (Str.ofString "o", v2)]) ∧ ((out = 0 ∧ tl = []) ∨ (out = 1 ∧ ∃ x, tl = [x] ∧ KVal x) ∨ (out = 2 ∧ ∃ x, tl = [x] ∧ KInd x))
theorem Good.reads {i : Nat} {m : Int} {w0 w1 w2 : Nat} {H : Str} (h : Good i m w0 w1 w2 H) (hi : i ≤ 10) : RdOk H 0 (due3 m 0 w0) (due3 m 1 w1) (due3 m 2 w2) := by
  obtain ⟨m0, m1, h0, h1, h2, gk, res, part, x⟩ := h
  refine ⟨by have := x.len; omega, gk.map (·.1), [], gk.map (·.2), by rw [List.append_nil]; exact x.http, x.goods, ?_, x.three, fun _ => x.val, .inl ⟨rfl, rfl⟩⟩
  intro z hz
  rw [List.append_nil] at hz
  obtain ⟨y, hy, rfl⟩ := List.mem_map.mp hz
  have := (x.good y hy).2
  omega
theorem Good.more {i : Nat} {m : Int} {w0 w1 w2 : Nat} {H : Str} (h : Good i m w0 w1 w2 H) (hi : i ≤ 10) {C p' g : Str} (hC : Cl C p' g) {out : Nat} {v0 v1 v2 : Str} (ho : (out = 1 ∧ KVal g) ∨ (out = 2 ∧ KInd g)) : RdOk (H ++ sep ++ C) out v0 v1 v2 := by
  obtain ⟨m0, m1, h0, h1, h2, gk, res, part, x⟩ := h
  refine ⟨?_, gk.map (·.1), [g], gk.map (·.2), x.http_more hC, x.goods, ?_, x.three, fun e => by omega, ?_⟩
  · rw [Str.length_append, Str.length_append]
    have h1 := x.len
    have h2 := hC.clen
    have h3 : sep.length = 3 := by decide +kernel
    omega
  · intro z hz
    rcases List.mem_append.mp hz with hz | hz
    · obtain ⟨y, hy, rfl⟩ := List.mem_map.mp hz
      have := (x.good y hy).2
      omega
    · rw [List.mem_singleton.mp hz]
      have := hC.len
      omega
  · rcases ho with ⟨e, k⟩ | ⟨e, k⟩
    · exact .inr (.inl ⟨e, g, rfl, k⟩)
    · exact .inr (.inr ⟨e, g, rfl, k⟩)
theorem Good.val {i : Nat} {m : Int} {w0 w1 w2 : Nat} {H : Str} (h : Good i m w0 w1 w2 H) (hi : i ≤ 10) {c : Nat} {r o : Int} (hc : c < 3) (r0 : 0 ≤ r) (r1 : r < 8) (o0 : 0 ≤ o) (o1 : o < 2) (v0 v1 v2 : Str) : RdOk (H ++ sep ++ clauseT (setF m c r o) c 7) 1 v0 v1 v2 := by
  rw [clause_here hc h.1 h.2.1 r0 r1 o0 o1]
  obtain ⟨p', g, hC, hg⟩ := cl_val (c := c) (r := r.toNat) (o := o.toNat) hc (by omega) (by omega)
  exact h.more hi hC (.inl ⟨rfl, hg⟩)
theorem Good.ind {i : Nat} {m : Int} {w0 w1 w2 : Nat} {H : Str} (h : Good i m w0 w1 w2 H) (hi : i ≤ 10) {c : Nat} {r o : Int} (hc : c < 3) (r0 : 0 ≤ r) (r1 : r < 8) (o0 : 0 ≤ o) (o1 : o < 2) (hz : r + o = 0) (v0 v1 v2 : Str) : RdOk (H ++ sep ++ clauseT (setF m c r o) c 0) 2 v0 v1 v2 := by
  rw [clause_here hc h.1 h.2.1 r0 r1 o0 o1]
  have e1 : r.toNat = 0 := by omega
  have e2 : o.toNat = 0 := by omega
  rw [e1, e2]
  obtain ⟨p', g, hC, hg⟩ := cl_ind (c := c) hc
  exact h.more hi hC (.inr ⟨rfl, hg⟩)
theorem clauseT_len {m : Int} {c wy : Nat} (hc : c < 3) (hw : wy < 8) : (clauseT m c wy).length ≤ 30 := by
  rw [clauseT_eq _ _ _ hc]
  exact cl_len hc hw (RR_lt _ _) (OO_lt _ _)
end Mine

end
section
namespace Mine
set_option maxRecDepth 100000
set_option maxHeartbeats 8000000
theorem clauseI (w : World) (mode : Int) (tm : Tok) (c : Int) (tc : Tok) (wy : Int) (tw : Tok) (hm0 : 61440 ≤ mode) (hm1 : mode < 65536) (hc0 : 0 ≤ c) (hc1 : c < 3) (hw0 : 0 ≤ wy) (hw1 : wy < 8) (p : Program) (loose : List Str) (mean : ExcName → Option Value) (mg mb : Str → Option Value) (news : List (Addr × Obj))
    (dp un : Nat) (gd : Option (List Code)) (cn : Str) (cs : Scope) (a : Addr) (ccd : Value) (cl : List (Str × Addr)) (outer : List Env) (A₀ : Around) (base h₀ : Heap) (L : Addr) (m : Str → Option Value) (s : Shared) (Q E : Value → Shared → Prop)
    (hBl : Below A₀ base outer h₀) (hF : Fr h₀ L s.heap m) (hK : (hd.heap_39 w.params).In h₀) (hN : News h₀ L s.heap news) (hT : Top p loose mean mg mb h₀) (hk : cs.kind = .function)
    (hdp : dp + 4 < recursionLimit) (hun : un + 32 < cLine)
    (hret : ∀ V t h' tk', V = clauseT mode c wy.toNat → V.length ≤ 30 → Fr h₀ L h' m → News h₀ L h' news → Q (.str V t) { s with heap := h', toks := tk' }) :
      wpAny (model Challenge.rw_nq0068_01.row.prog w) (ktrTop dp un gd cn cs L a ccd cl outer) (call (.ref 115) [.int mode tm, .int c tc, .int wy tw]) Q E s := by
  have ew : wy = ((wy.toNat : Nat) : Int) := by omega
  have ec : c = ((c.toNat : Nat) : Int) := by omega
  have hl : (clauseT mode c wy.toNat).length ≤ 30 := by
    rw [ec]
    exact clauseT_len (by omega) (by omega)
  generalize wy.toNat = y at *
  subst ew
  exact clause_claim w mode tm hm0 hm1 c tc hc0 hc1 y tw (by omega) p loose mean mg mb news dp un gd cn cs a ccd cl outer A₀ base h₀ L m s Q E hBl hF hK hN hT hk hdp hun fun t h' tk' F N => hret _ t h' tk' rfl hl F N
theorem dueI (w : World) (mode : Int) (tm : Tok) (hm0 : 61440 ≤ mode) (hm1 : mode < 65536) (W : Addr) (x0 x1 x2 : Int) (q0 q1 q2 : Tok) (kW : Nat) (hx0 : 0 ≤ x0 ∧ x0 < 7) (hx1 : 0 ≤ x1 ∧ x1 < 7) (hx2 : 0 ≤ x2 ∧ x2 < 7)
    (p : Program) (loose : List Str) (mean : ExcName → Option Value) (mg mb : Str → Option Value) (news : List (Addr × Obj)) (hW : (W, listOf #[.int x0 q0, .int x1 q1, .int x2 q2] kW) ∈ news)
    (dp un : Nat) (gd : Option (List Code)) (cn : Str) (cs : Scope) (a : Addr) (ccd : Value) (cl : List (Str × Addr)) (outer : List Env) (A₀ : Around) (base h₀ : Heap) (L : Addr) (m : Str → Option Value) (s : Shared) (Q E : Value → Shared → Prop)
    (hBl : Below A₀ base outer h₀) (hF : Fr h₀ L s.heap m) (hK : (hd.heap_39 w.params).In h₀) (hN : News h₀ L s.heap news) (hT : Top p loose mean mg mb h₀) (hk : cs.kind = .function)
    (hdp : dp + 4 < recursionLimit) (hun : un + 32 < cLine)
    (hret : ∀ B a0 a1 a2 c s0 t0 s1 t1 s2 t2 h' tk', Fr h₀ L h' m → News h₀ L h' ((a2, tupO2 (Str.ofString "o") (due3 mode 2 x2.toNat) s2 t2) :: (a1, tupO2 (Str.ofString "G") (due3 mode 1 x1.toNat) s1 t1) :: (a0, tupO2 (Str.ofString "u") (due3 mode 0 x0.toNat) s0 t0) :: (B, listOf #[.ref a0, .ref a1, .ref a2] c) :: news) → (∀ q ∈ news, q.1 < B) → @LT.lt Nat instLTNat B a0 → @LT.lt Nat instLTNat a0 a1 → @LT.lt Nat instLTNat a1 a2 → Q (.ref B) { s with heap := h', toks := tk' }) :
      wpAny (model Challenge.rw_nq0068_01.row.prog w) (ktrTop dp un gd cn cs L a ccd cl outer) (call (.ref 129) [.int mode tm, .ref W]) Q E s := by
  have e0 : x0 = ((x0.toNat : Nat) : Int) := by omega
  have e1 : x1 = ((x1.toNat : Nat) : Int) := by omega
  have e2 : x2 = ((x2.toNat : Nat) : Int) := by omega
  generalize x0.toNat = y0 at *
  generalize x1.toNat = y1 at *
  generalize x2.toNat = y2 at *
  subst e0 e1 e2
  refine due_claim w mode tm hm0 hm1 W y0 y1 y2 (by omega) (by omega) (by omega) q0 q1 q2 kW p loose mean mg mb news hW dp un gd cn cs a ccd cl outer A₀ base h₀ L m s Q E hBl hF hK hN hT hk hdp hun ?_
  intro B a0 a1 a2 c V0 V1 V2 s0 t0 s1 t1 s2 t2 h' tk' v0 v1 v2 F N l0 l1 l2 l3
  rw [dueT_eq _ _ _ (by decide)] at v0 v1 v2
  subst v0 v1 v2
  exact hret B a0 a1 a2 c s0 t0 s1 t1 s2 t2 h' tk' F N l0 l1 l2 l3
theorem read0 (w : World) (S : Str) (t1 : Tok) (v0 v1 v2 : Str) (hR : RdOk S 0 v0 v1 v2)
    (p : Program) (loose : List Str) (mean : ExcName → Option Value) (mg mb : Str → Option Value) (news : List (Addr × Obj))
    (dp un : Nat) (gd : Option (List Code)) (cn : Str) (cs : Scope) (a : Addr) (ccd : Value) (cl : List (Str × Addr)) (A₀ : Around) (base h₀ : Heap) (L : Addr) (m : Str → Option Value) (s : Shared) (Q E : Value → Shared → Prop)
    (hKb : (hd.heap_39 w.params).In base) (hTb : Top p loose mean mg mb base) (hB : Below A₀ base [] h₀) (hF : Fr h₀ L s.heap m) (hK : (hd.heap_39 w.params).In h₀) (hN : News h₀ L s.heap news) (hT : Top p loose mean mg mb h₀) (hk : cs.kind = .function)
    (hdp : dp + 4 < recursionLimit) (hun : un + 32 < cLine)
    (hret : ∀ B a0 a1 a2 c s0 t0 s1 t1 s2 t2 h' tk', Fr h₀ L h' m → News h₀ L h' ((a2, tupO2 (Str.ofString "o") v2 s2 t2) :: (a1, tupO2 (Str.ofString "G") v1 s1 t1) :: (a0, tupO2 (Str.ofString "u") v0 s0 t0) :: (B, listOf #[.ref a0, .ref a1, .ref a2] c) :: news) → (∀ q ∈ news, q.1 ≠ a0) → (∀ q ∈ news, q.1 ≠ a1) → (∀ q ∈ news, q.1 ≠ a2) → (∀ q ∈ news, q.1 ≠ B) → @LT.lt Nat instLTNat B a0 → @LT.lt Nat instLTNat a0 a1 → @LT.lt Nat instLTNat a1 a2 → Q (.ref B) { s with heap := h', toks := tk' }) :
      wpAny (model Challenge.rw_nq0068_01.row.prog w) (ktrTop dp un gd cn cs L a ccd cl []) (call (.ref 136) [.str S t1]) Q E s := by
  obtain ⟨hS, gs, tl, ks, hx, hg, hl, hk3, hal, htl⟩ := hR
  refine read_claim w S t1 hS gs tl ks hx hg hl hk3 0 v0 v1 v2 hal htl p loose mean mg mb news dp un gd cn cs a ccd cl A₀ base h₀ L m s Q E hKb hTb hB hF hK hN hT hk hdp hun ?_
  intro v new h' tk' hv F N ne
  rcases hv with ⟨_, B, a0, a1, a2, c, s0, t0, s1, t1, s2, t2, rfl, rfl, l1, l2, l3⟩ | ⟨e, _⟩ | ⟨e, _⟩
  · exact hret B a0 a1 a2 c s0 t0 s1 t1 s2 t2 h' tk' F N (fun q hq => ne _ (.tail _ (.tail _ (.head _))) q hq) (fun q hq => ne _ (.tail _ (.head _)) q hq) (fun q hq => ne _ (.head _) q hq) (fun q hq => ne _ (.tail _ (.tail _ (.tail _ (.head _)))) q hq) l1 l2 l3
  · cases e
  · cases e
theorem readX (w : World) (S : Str) (t1 : Tok) (out : Nat) (nm : Str) (hnm : (out = 1 ∧ nm = Str.ofString "ValueError") ∨ (out = 2 ∧ nm = Str.ofString "IndexError")) (v0 v1 v2 : Str) (hR : RdOk S out v0 v1 v2)
    (p : Program) (loose : List Str) (mean : ExcName → Option Value) (mg mb : Str → Option Value) (news : List (Addr × Obj))
    (dp un : Nat) (gd : Option (List Code)) (cn : Str) (cs : Scope) (a : Addr) (ccd : Value) (cl : List (Str × Addr)) (A₀ : Around) (base h₀ : Heap) (L : Addr) (m : Str → Option Value) (s : Shared) (Q E : Value → Shared → Prop)
    (hKb : (hd.heap_39 w.params).In base) (hTb : Top p loose mean mg mb base) (hB : Below A₀ base [] h₀) (hF : Fr h₀ L s.heap m) (hK : (hd.heap_39 w.params).In h₀) (hN : News h₀ L s.heap news) (hT : Top p loose mean mg mb h₀) (hk : cs.kind = .function)
    (hdp : dp + 4 < recursionLimit) (hun : un + 32 < cLine)
    (hret : ∀ t h' tk', Fr h₀ L h' m → News h₀ L h' news → Q (.str nm t) { s with heap := h', toks := tk' }) :
      wpAny (model Challenge.rw_nq0068_01.row.prog w) (ktrTop dp un gd cn cs L a ccd cl []) (call (.ref 136) [.str S t1]) Q E s := by
  obtain ⟨hS, gs, tl, ks, hx, hg, hl, hk3, hal, htl⟩ := hR
  refine read_claim w S t1 hS gs tl ks hx hg hl hk3 out v0 v1 v2 hal htl p loose mean mg mb news dp un gd cn cs a ccd cl A₀ base h₀ L m s Q E hKb hTb hB hF hK hN hT hk hdp hun ?_
  intro v new h' tk' hv F N ne
  rcases hv with ⟨e, _⟩ | ⟨e, rfl, t, rfl⟩ | ⟨e, rfl, t, rfl⟩
  · omega
  · rcases hnm with ⟨_, rfl⟩ | ⟨e', _⟩
    · exact hret t h' tk' F N
    · omega
  · rcases hnm with ⟨e', _⟩ | ⟨_, rfl⟩
    · omega
    · exact hret t h' tk' F N
theorem setI (w : World) (mode : Int) (tm : Tok) (c : Int) (tc : Tok) (rights : Int) (tr : Tok) (over : Int) (tv : Tok) (hm0 : 61440 ≤ mode) (hm1 : mode < 65536) (hc0 : 0 ≤ c) (hc1 : c < 3) (hr0 : 0 ≤ rights) (hr1 : rights < 8) (hv0 : 0 ≤ over) (hv1 : over < 2)
    (p : Program) (loose : List Str) (mean : ExcName → Option Value) (mg mb : Str → Option Value) (news : List (Addr × Obj))
    (dp un : Nat) (gd : Option (List Code)) (cn : Str) (cs : Scope) (a : Addr) (ccd : Value) (cl : List (Str × Addr)) (outer : List Env) (A₀ : Around) (base h₀ : Heap) (L : Addr) (m : Str → Option Value) (s : Shared) (Q E : Value → Shared → Prop)
    (hBl : Below A₀ base outer h₀) (hF : Fr h₀ L s.heap m) (hK : (hd.heap_39 w.params).In h₀) (hN : News h₀ L s.heap news) (hT : Top p loose mean mg mb h₀) (hk : cs.kind = .function)
    (hdp : dp + 4 < recursionLimit) (hun : un + 32 < cLine)
    (hret : ∀ M t h' tk', M = setF mode c rights over → 61440 ≤ M → M < 65536 → Fr h₀ L h' m → News h₀ L h' news → Q (.int M t) { s with heap := h', toks := tk' }) :
      wpAny (model Challenge.rw_nq0068_01.row.prog w) (ktrTop dp un gd cn cs L a ccd cl outer) (call (.ref 108) [.int mode tm, .int c tc, .int rights tr, .int over tv]) Q E s := by
  have hr : 61440 ≤ setF mode c rights over ∧ setF mode c rights over < 65536 := by
    have ec : c = ((c.toNat : Nat) : Int) := by omega
    rw [ec]
    exact set_range (by omega) hr0 hr1 hv0 hv1 hm0 hm1
  exact set_claim w mode tm hm0 hm1 c tc hc0 hc1 rights tr hr0 hr1 over tv hv0 hv1 p loose mean mg mb news dp un gd cn cs a ccd cl outer A₀ base h₀ L m s Q E hBl hF hK hN hT hk (by omega) (by omega) fun t h' tk' F N => hret _ t h' tk' rfl hr.1 hr.2 F N
theorem join3 (a b c : Str) : Txt.join (Str.ofString " ,\t") [a, b, c] = a ++ sep ++ b ++ sep ++ c := by
  have e : Txt.join (Str.ofString " ,\t") [a, b, c] = Str.join (Str.ofString " ,\t") [a, b, c] := StrLaws.glued_eq_join _ _
  rw [e]
  show a ++ Str.ofString " ,\t" ++ (b ++ Str.ofString " ,\t" ++ c) = _
  simp only [sep, Str.append_assoc]
theorem start_of {V0 V1 V2 : Str} {c0 c1 c2 : Int} {y0 y1 y2 : Nat} (h0 : V0 = clauseT 63471 c0 y0) (h1 : V1 = clauseT 63471 c1 y1) (h2 : V2 = clauseT 63471 c2 y2) (e0 : c0 = ((0 : Nat) : Int)) (e1 : c1 = ((1 : Nat) : Int)) (e2 : c2 = ((2 : Nat) : Int)) (f0 : y0 = 2) (f1 : y1 = 1) (f2 : y2 = 3) :
    Good 0 63471 2 1 3 (Txt.join (Str.ofString " ,\t") [V0, V1, V2]) := by
  subst h0 h1 h2 e0 e1 e2 f0 f1 f2
  rw [join3, clauseT_eq _ _ _ (by decide), clauseT_eq _ _ _ (by decide), clauseT_eq _ _ _ (by decide)]
  have r0 : RR 63471 0 = 7 := by decide +kernel
  have r1 : RR 63471 1 = 5 := by decide +kernel
  have r2 : RR 63471 2 = 7 := by decide +kernel
  have o0 : OO 63471 0 = 0 := by decide +kernel
  have o1 : OO 63471 1 = 1 := by decide +kernel
  have o2 : OO 63471 2 = 1 := by decide +kernel
  rw [r0, r1, r2, o0, o1, o2]
  exact Good.start
end Mine

end
section
namespace Mine
set_option maxRecDepth 100000
set_option maxHeartbeats 8000000
noncomputable abbrev ways3 (w0 w1 w2 : Nat) (q0 q1 q2 : Tok) (k : Nat) : Obj := listOf #[.int (w0 : Int) q0, .int (w1 : Int) q1, .int (w2 : Int) q2] k
noncomputable def LTurn (h₀ : Heap) (L : Addr) (i : Nat) (D : Addr) (oD : Obj) (cw cm I : Addr) (oI : Obj) (s : Shared) (fl : Flow) (s₂ : Shared) : Prop :=
  (fl = .next ∨ fl = .cont) ∧ ∃ h' tk' m' led mode w0 w1 w2 H tm th W q0 q1 q2 kW oW oM, s₂ = { s with heap := h', toks := tk' } ∧ Fr h₀ L h' m' ∧ News h₀ L h' led ∧
    (∀ p ∈ [(I, oI), (D, oD), (W, ways3 w0 w1 w2 q0 q1 q2 kW), (cw, oW), (cm, oM)], p ∈ led) ∧ m' (Str.ofString "header") = some (.str H th) ∧ oW.data = .cell (some (.ref W)) ∧ oM.data = .cell (some (.int mode tm)) ∧ Good i mode w0 w1 w2 H ∧ W ≠ I ∧ W ≠ D ∧ W ≠ cw ∧ W ≠ cm
theorem LTurn.go {h₀ : Heap} {L : Addr} {i : Nat} {D : Addr} {oD : Obj} {cw cm I : Addr} {oI : Obj} {s : Shared} {fl : Flow} {h' : Heap} {tk' : Nat} {m' : Str → Option Value} {led : List (Addr × Obj)} {mode : Int} {w0 w1 w2 : Nat} {H : Str} {tm th : Tok} {W : Addr} {q0 q1 q2 : Tok} {kW : Nat} {oW oM : Obj}
    (hfl : fl = .next ∨ fl = .cont) (F : Fr h₀ L h' m') (N : News h₀ L h' led) (hm : m' (Str.ofString "header") = some (.str H th)) (hW : oW.data = .cell (some (.ref W))) (hM : oM.data = .cell (some (.int mode tm))) (hG : Good i mode w0 w1 w2 H)
    (hs : ∀ p ∈ [(I, oI), (D, oD), (W, ways3 w0 w1 w2 q0 q1 q2 kW), (cw, oW), (cm, oM)], p ∈ led) (n1 : W ≠ I) (n2 : W ≠ D) (n3 : W ≠ cw) (n4 : W ≠ cm) : LTurn h₀ L i D oD cw cm I oI s fl { s with heap := h', toks := tk' } :=
  ⟨hfl, h', tk', m', led, mode, w0, w1, w2, H, tm, th, W, q0, q1, q2, kW, oW, oM, rfl, F, N, hs, hm, hW, hM, hG, n1, n2, n3, n4⟩
theorem law_for {prog : Program} {w : World} {A : Around} {E : Value → Shared → Prop} {s : Shared} {env : Env} {h₀ : Heap} {body : List Stmt} {Q : Flow → Shared → Prop} {m₀ : Str → Option Value} {D cw cm : Addr} {vs : List Value} {kD : Nat} {mode : Int} {w0 w1 w2 : Nat} {H : Str} {tm th : Tok} {W : Addr} {q0 q1 q2 : Tok} {kW : Nat} {oW oM : Obj}
    (F : Fr h₀ env.locals s.heap m₀) (N : News h₀ env.locals s.heap [(D, listOf vs.toArray kD), (W, ways3 w0 w1 w2 q0 q1 q2 kW), (cw, oW), (cm, oM)]) (hm : m₀ (Str.ofString "header") = some (.str H th)) (hW : oW.data = .cell (some (.ref W))) (hM : oM.data = .cell (some (.int mode tm))) (hG : Good 0 mode w0 w1 w2 H)
    (n2 : W ≠ D) (n3 : W ≠ cw) (n4 : W ≠ cm) (n5 : D ≠ cw) (n6 : D ≠ cm) (n7 : cw ≠ cm)
    (turn : ∀ i v (m₁ : Str → Option Value) (mode : Int) (w0 w1 w2 : Nat) H tm th W q0 q1 q2 kW oW oM h tk I oI, vs[i]? = some v → Good i mode w0 w1 w2 H → @Ne Nat W D → @Ne Nat W cw → @Ne Nat W cm → @Ne Nat D I → @Ne Nat W I → @Ne Nat cw I → @Ne Nat cm I → oW.data = .cell (some (.ref W)) → oM.data = .cell (some (.int mode tm)) →
      Fr h₀ env.locals h (fun y => if y = Str.ofString "n" then some v else if y = Str.ofString "header" then some (.str H th) else m₁ y) → News h₀ env.locals h [(I, oI), (D, listOf vs.toArray kD), (W, ways3 w0 w1 w2 q0 q1 q2 kW), (cw, oW), (cm, oM)] →
      wpAny (model prog w) A (execs body env) (LTurn h₀ env.locals (i + 1) D (listOf vs.toArray kD) cw cm I oI s) E { s with heap := h, toks := tk })
    (done : ∀ (m₁ : Str → Option Value) h tk nx, Fr h₀ env.locals h m₁ → News h₀ env.locals h nx → Q .next { s with heap := h, toks := tk })
    (hh : A.handled = none := by rfl) :
    wpAny (model prog w) A (pyIter (.ref D)) (fun it s₂ => LoopAtV prog w A h₀ env (Str.ofString "n") body Q E it s₂) E s := by
  refine iter_vals (vs := vs) (fun i m nx => ∃ mode w0 w1 w2 H tm th W q0 q1 q2 kW oW oM, nx = [(D, listOf vs.toArray kD), (W, ways3 w0 w1 w2 q0 q1 q2 kW), (cw, oW), (cm, oM)] ∧ m (Str.ofString "header") = some (.str H th) ∧ oW.data = .cell (some (.ref W)) ∧ oM.data = .cell (some (.int mode tm)) ∧ Good i mode w0 w1 w2 H ∧ W ≠ D ∧ W ≠ cw ∧ W ≠ cm)
    F N (.head _) ⟨mode, w0, w1, w2, H, tm, th, W, q0, q1, q2, kW, oW, oM, rfl, hm, hW, hM, hG, n2, n3, n4⟩ ?_ ?_ ?_ rfl ⟨_, rfl⟩ hh
  · rintro i m nx ⟨mode, w0, w1, w2, H, tm, th, W, q0, q1, q2, kW, oW, oM, rfl, _⟩
    exact .head _
  · rintro i v m₁ nx h tk I oI hv ⟨mode, w0, w1, w2, H, tm, th, W, q0, q1, q2, kW, oW, oM, rfl, hm₁, hW, hM, hG, k2, k3, k4⟩ ho F1 N1
    refine wpAny_mono (turn i v m₁ mode w0 w1 w2 H tm th W q0 q1 q2 kW oW oM h tk I oI hv hG k2 k3 k4 (ho _ (.head _)) (ho _ (.tail _ (.head _))) (ho _ (.tail _ (.tail _ (.head _)))) (ho _ (.tail _ (.tail _ (.tail _ (.head _))))) hW hM ?_ N1) (fun fl s₂ hT => ?_) fun _ _ e => e
    · have e : (fun y => if y = Str.ofString "n" then some v else if y = Str.ofString "header" then some (Value.str H th) else m₁ y) = fun y => if y = Str.ofString "n" then some v else m₁ y := by
        funext y
        by_cases hy : y = Str.ofString "n"
        · rw [if_pos hy, if_pos hy]
        · rw [if_neg hy, if_neg hy]
          by_cases hy' : y = Str.ofString "header"
          · rw [if_pos hy', hy', hm₁]
          · rw [if_neg hy']
      rw [e]
      exact F1
    · obtain ⟨hfl, h', tk', m', led, mode', w0', w1', w2', H', tm', th', W', q0', q1', q2', kW', oW', oM', rfl, F', N', hs, hp, hW', hM', hG', j1, j2, j3, j4⟩ := hT
      refine TEnd.go (nx := [(D, listOf vs.toArray kD), (W', ways3 w0' w1' w2' q0' q1' q2' kW'), (cw, oW'), (cm, oM')]) hfl F' N' hs ?_ ⟨mode', w0', w1', w2', H', tm', th', W', q0', q1', q2', kW', oW', oM', rfl, hp, hW', hM', hG', j2, j3, j4⟩
      intro p hp
      simp only [List.mem_cons, List.not_mem_nil, or_false] at hp
      rcases hp with rfl | rfl | rfl | rfl
      · exact ho (D, listOf vs.toArray kD) (.head _)
      · exact j1
      · exact ho (cw, oW) (.tail _ (.tail _ (.head _)))
      · exact ho (cm, oM) (.tail _ (.tail _ (.tail _ (.head _))))
  · rintro m₁ nx h tk _ F1 N1
    exact done m₁ h tk nx F1 N1
theorem readV (w : World) (S : Str) (t1 : Tok) (v0 v1 v2 : Str) (hR : RdOk S 1 v0 v1 v2)
    (p : Program) (loose : List Str) (mean : ExcName → Option Value) (mg mb : Str → Option Value) (news : List (Addr × Obj))
    (dp un : Nat) (gd : Option (List Code)) (cn : Str) (cs : Scope) (a : Addr) (ccd : Value) (cl : List (Str × Addr)) (A₀ : Around) (base h₀ : Heap) (L : Addr) (m : Str → Option Value) (s : Shared) (Q E : Value → Shared → Prop)
    (hKb : (hd.heap_39 w.params).In base) (hTb : Top p loose mean mg mb base) (hB : Below A₀ base [] h₀) (hF : Fr h₀ L s.heap m) (hK : (hd.heap_39 w.params).In h₀) (hN : News h₀ L s.heap news) (hT : Top p loose mean mg mb h₀) (hk : cs.kind = .function)
    (hdp : dp + 4 < recursionLimit) (hun : un + 32 < cLine)
    (hret : ∀ t h' tk', Fr h₀ L h' m → News h₀ L h' news → Q (.str (Str.ofString "ValueError") t) { s with heap := h', toks := tk' }) :
      wpAny (model Challenge.rw_nq0068_01.row.prog w) (ktrTop dp un gd cn cs L a ccd cl []) (call (.ref 136) [.str S t1]) Q E s :=
  readX w S t1 1 _ (.inl ⟨rfl, rfl⟩) v0 v1 v2 hR p loose mean mg mb news dp un gd cn cs a ccd cl A₀ base h₀ L m s Q E hKb hTb hB hF hK hN hT hk hdp hun hret
theorem readN (w : World) (S : Str) (t1 : Tok) (v0 v1 v2 : Str) (hR : RdOk S 2 v0 v1 v2)
    (p : Program) (loose : List Str) (mean : ExcName → Option Value) (mg mb : Str → Option Value) (news : List (Addr × Obj))
    (dp un : Nat) (gd : Option (List Code)) (cn : Str) (cs : Scope) (a : Addr) (ccd : Value) (cl : List (Str × Addr)) (A₀ : Around) (base h₀ : Heap) (L : Addr) (m : Str → Option Value) (s : Shared) (Q E : Value → Shared → Prop)
    (hKb : (hd.heap_39 w.params).In base) (hTb : Top p loose mean mg mb base) (hB : Below A₀ base [] h₀) (hF : Fr h₀ L s.heap m) (hK : (hd.heap_39 w.params).In h₀) (hN : News h₀ L s.heap news) (hT : Top p loose mean mg mb h₀) (hk : cs.kind = .function)
    (hdp : dp + 4 < recursionLimit) (hun : un + 32 < cLine)
    (hret : ∀ t h' tk', Fr h₀ L h' m → News h₀ L h' news → Q (.str (Str.ofString "IndexError") t) { s with heap := h', toks := tk' }) :
      wpAny (model Challenge.rw_nq0068_01.row.prog w) (ktrTop dp un gd cn cs L a ccd cl []) (call (.ref 136) [.str S t1]) Q E s :=
  readX w S t1 2 _ (.inr ⟨rfl, rfl⟩) v0 v1 v2 hR p loose mean mg mb news dp un gd cn cs a ccd cl A₀ base h₀ L m s Q E hKb hTb hB hF hK hN hT hk hdp hun hret
theorem dueN (w : World) (mode : Int) (tm : Tok) (hm0 : 61440 ≤ mode) (hm1 : mode < 65536) (W : Addr) (x0 x1 x2 : Nat) (q0 q1 q2 : Tok) (kW : Nat) (hx0 : x0 < 7) (hx1 : x1 < 7) (hx2 : x2 < 7)
    (p : Program) (loose : List Str) (mean : ExcName → Option Value) (mg mb : Str → Option Value) (news : List (Addr × Obj)) (hW : (W, listOf #[.int (x0 : Int) q0, .int (x1 : Int) q1, .int (x2 : Int) q2] kW) ∈ news)
    (dp un : Nat) (gd : Option (List Code)) (cn : Str) (cs : Scope) (a : Addr) (ccd : Value) (cl : List (Str × Addr)) (outer : List Env) (A₀ : Around) (base h₀ : Heap) (L : Addr) (m : Str → Option Value) (s : Shared) (Q E : Value → Shared → Prop)
    (hBl : Below A₀ base outer h₀) (hF : Fr h₀ L s.heap m) (hK : (hd.heap_39 w.params).In h₀) (hN : News h₀ L s.heap news) (hT : Top p loose mean mg mb h₀) (hk : cs.kind = .function)
    (hdp : dp + 4 < recursionLimit) (hun : un + 32 < cLine)
    (hret : ∀ B a0 a1 a2 c s0 t0 s1 t1 s2 t2 h' tk', Fr h₀ L h' m → News h₀ L h' ((a2, tupO2 (Str.ofString "o") (due3 mode 2 x2) s2 t2) :: (a1, tupO2 (Str.ofString "G") (due3 mode 1 x1) s1 t1) :: (a0, tupO2 (Str.ofString "u") (due3 mode 0 x0) s0 t0) :: (B, listOf #[.ref a0, .ref a1, .ref a2] c) :: news) → (∀ q ∈ news, q.1 < B) → @LT.lt Nat instLTNat B a0 → @LT.lt Nat instLTNat a0 a1 → @LT.lt Nat instLTNat a1 a2 → Q (.ref B) { s with heap := h', toks := tk' }) :
      wpAny (model Challenge.rw_nq0068_01.row.prog w) (ktrTop dp un gd cn cs L a ccd cl outer) (call (.ref 129) [.int mode tm, .ref W]) Q E s :=
  dueI w mode tm hm0 hm1 W x0 x1 x2 q0 q1 q2 kW (by omega) (by omega) (by omega) p loose mean mg mb news hW dp un gd cn cs a ccd cl outer A₀ base h₀ L m s Q E hBl hF hK hN hT hk hdp hun hret
section
variable {i : Nat} {mode : Int} {w0 w1 w2 : Nat} {H : Str} {c : Nat} {cI : Int} {r o M : Int} {V : Str} {yn : Nat}
theorem turn_val (h : Good i mode w0 w1 w2 H) (hi : i ≤ 10) (ec : cI = (c : Int)) (hc : c < 3) (r0 : 0 ≤ r) (r1 : r < 8) (o0 : 0 ≤ o) (o1 : o < 2) (eM : M = setF mode cI r o) (ey : yn = 7) (eV : V = clauseT M cI yn) : RdOk (H ++ Str.ofString " ,\t" ++ V) 1 H H H := by
  subst eV eM ey ec
  exact h.val hi hc r0 r1 o0 o1 H H H
theorem turn_ind (h : Good i mode w0 w1 w2 H) (hi : i ≤ 10) (ec : cI = (c : Int)) (hc : c < 3) (r0 : 0 ≤ r) (r1 : r < 8) (o0 : 0 ≤ o) (o1 : o < 2) (hz : r + o = 0) (eM : M = setF mode cI r o) (ey : yn = 0) (eV : V = clauseT M cI yn) : RdOk (H ++ Str.ofString " ,\t" ++ V) 2 H H H := by
  subst eV eM ey ec
  exact h.ind hi hc r0 r1 o0 o1 hz H H H
theorem turn_good {y : Nat} (h : Good i mode w0 w1 w2 H) (ec : cI = (c : Int)) (hc : c < 3) (hw : y < 7) (r0 : 0 ≤ r) (r1 : r < 8) (o0 : 0 ≤ o) (o1 : o < 2) (hn : ¬ (y = 0 ∧ r + o = 0)) (eM : M = setF mode cI r o) (ey : yn = y) (eV : V = clauseT M cI yn) :
    Good (i + 1) M (put3 c y w0 w1 w2).1 (put3 c y w0 w1 w2).2.1 (put3 c y w0 w1 w2).2.2 (H ++ Str.ofString " ,\t" ++ V) := by
  subst eV eM ey ec
  exact h.step hc hw r0 r1 o0 o1 hn
end
theorem reads3 {h₀ h : Heap} {L : Addr} {news : List (Addr × Obj)} {B a0 a1 a2 : Addr} {c : Nat} {k0 k1 k2 v0 v1 v2 : Str} {s0 t0 s1 t1 s2 t2 : Tok} (N : News h₀ L h news) (m : (B, listOf #[.ref a0, .ref a1, .ref a2] c) ∈ news)
    (m0 : (a0, tupO2 k0 v0 s0 t0) ∈ news) (m1 : (a1, tupO2 k1 v1 s1 t1) ∈ news) (m2 : (a2, tupO2 k2 v2 s2 t2) ∈ news) : ∃ as, Reads h (.ref B) (.list [.tuple [.str k0, .str v0], .tuple [.str k1, .str v1], .tuple [.str k2, .str v2]]) as := by
  have r0 : Reads h (.ref a0) (.tuple [.str k0, .str v0]) [] := reads_tuple_at (News.get N m0) rfl rfl (readsAll_cons_val (.str _ _) (readsAll_cons_val (.str _ _) .nil))
  have r1 : Reads h (.ref a1) (.tuple [.str k1, .str v1]) [] := reads_tuple_at (News.get N m1) rfl rfl (readsAll_cons_val (.str _ _) (readsAll_cons_val (.str _ _) .nil))
  have r2 : Reads h (.ref a2) (.tuple [.str k2, .str v2]) [] := reads_tuple_at (News.get N m2) rfl rfl (readsAll_cons_val (.str _ _) (readsAll_cons_val (.str _ _) .nil))
  exact ⟨_, reads_list_at (News.get N m) rfl rfl (readsAll_cons_val r0 (readsAll_cons_val r1 (readsAll_cons_val r2 .nil)))⟩
theorem DT_ok : ∀ c < 3, ∀ wy < 7, ∀ r < 8, ∀ o < 2, PyData.canLay0 (.str (DT wy (SG c r o))) = true := by decide +kernel
theorem due_ok {m : Int} {c wy : Nat} (hc : c < 3) (hw : wy < 7) : PyData.canLay0 (.str (due3 m c wy)) = true := DT_ok c hc wy hw _ (RR_lt _ _) _ (OO_lt _ _)
theorem ne_same {prog : Program} {w : World} {A : Around} {E : Value → Shared → Prop} {s : Shared} {h₀ : Heap} {L : Addr} {news : List (Addr × Obj)} {B a0 a1 a2 B' b0 b1 b2 : Addr} {c c' : Nat} {v0 v1 v2 : Str} {s0 t0 s1 t1 s2 t2 s0' t0' s1' t1' s2' t2' : Tok} {Q : Value → Shared → Prop}
    (N : News h₀ L s.heap news) (m : (B, listOf #[.ref a0, .ref a1, .ref a2] c) ∈ news) (m0 : (a0, tupO2 (Str.ofString "u") v0 s0 t0) ∈ news) (m1 : (a1, tupO2 (Str.ofString "G") v1 s1 t1) ∈ news) (m2 : (a2, tupO2 (Str.ofString "o") v2 s2 t2) ∈ news)
    (m' : (B', listOf #[.ref b0, .ref b1, .ref b2] c') ∈ news) (m0' : (b0, tupO2 (Str.ofString "u") v0 s0' t0') ∈ news) (m1' : (b1, tupO2 (Str.ofString "G") v1 s1' t1') ∈ news) (m2' : (b2, tupO2 (Str.ofString "o") v2 s2' t2') ∈ news) (o0 : PyData.canLay0 (.str v0) = true) (o1 : PyData.canLay0 (.str v1) = true) (o2 : PyData.canLay0 (.str v2) = true) (hu : A.units + 64 < cLine) (h : Q (.bool false) s) :
    wpAny (model prog w) A (compareOp .NotEq (.ref B) (.ref B')) Q E s := by
  obtain ⟨as, ra⟩ := reads3 N m m0 m1 m2
  obtain ⟨bs, rb⟩ := reads3 N m' m0' m1' m2'
  have ku : PyData.canLay0 (.str (Str.ofString "u")) = true := by decide +kernel
  have kG : PyData.canLay0 (.str (Str.ofString "G")) = true := by decide +kernel
  have ko : PyData.canLay0 (.str (Str.ofString "o")) = true := by decide +kernel
  have hs : SeqAt.shaped (.list [.tuple [.str (Str.ofString "u"), .str v0], .tuple [.str (Str.ofString "G"), .str v1], .tuple [.str (Str.ofString "o"), .str v2]]) = true := by
    unfold SeqAt.shaped
    rw [Bool.and_eq_true]
    constructor
    · simp only [PyData.canLay0, PyData.canLayAll0] at o0 o1 o2 ku kG ko ⊢
      simp only [o0, o1, o2, ku, kG, ko, Bool.and_self]
    · simp [PyData.depth, PyData.depthAll]
  refine ne_dataH ra rb hs hs hu ?_
  simp only [PyData.eqv, PyData.eqvAll, beq_self_eq_true, Bool.and_true, Bool.not_true]
  exact h
theorem sub5 {a b c d e : Addr × Obj} {led : List (Addr × Obj)} (h1 : a ∈ led) (h2 : b ∈ led) (h3 : c ∈ led) (h4 : d ∈ led) (h5 : e ∈ led) : ∀ p ∈ [a, b, c, d, e], p ∈ led := by
  intro p hp
  simp only [List.mem_cons, List.not_mem_nil, or_false] at hp
  rcases hp with rfl | rfl | rfl | rfl | rfl
  · exact h1
  · exact h2
  · exact h3
  · exact h4
  · exact h5
end Mine

end
section
namespace Mine
set_option maxRecDepth 100000
set_option maxHeartbeats 8000000
noncomputable def OPost (h₀ : Heap) (L : Addr) (m : Str → Option Value) (led : List (Addr × Obj)) (c y w0 w1 w2 : Nat) (s : Shared) (v : Value) (s₂ : Shared) : Prop :=
  ∃ W q0 q1 q2 kW h' tk', v = .ref W ∧ s₂ = { s with heap := h', toks := tk' } ∧ Fr h₀ L h' m ∧ News h₀ L h' ((W, ways3 (put3 c y w0 w1 w2).1 (put3 c y w0 w1 w2).2.1 (put3 c y w0 w1 w2).2.2 q0 q1 q2 kW) :: led) ∧ ∀ p ∈ led, @Ne Nat p.1 W
theorem others_cut {prog : Program} {w : World} {A : Around} {t : Sem Value} {Q : Value → Shared → Prop} {E : Value → Shared → Prop} {s : Shared} {h₀ : Heap} {L : Addr} {m : Str → Option Value} {led : List (Addr × Obj)} (c y w0 w1 w2 : Nat) (F : Fr h₀ L s.heap m) (N : News h₀ L s.heap led)
    (h1 : wpAny (model prog w) A t (OPost h₀ L m led c y w0 w1 w2 s) E s)
    (h2 : ∀ W q0 q1 q2 kW h' tk', Fr h₀ L h' m → News h₀ L h' ((W, ways3 (put3 c y w0 w1 w2).1 (put3 c y w0 w1 w2).2.1 (put3 c y w0 w1 w2).2.2 q0 q1 q2 kW) :: led) → (∀ p ∈ led, @Ne Nat p.1 W) → Q (.ref W) { s with heap := h', toks := tk' }) : wpAny (model prog w) A t Q E s := by
  refine wpAny_mono h1 ?_ (fun _ _ e => e)
  rintro v s₂ ⟨W, q0, q1, q2, kW, h', tk', rfl, rfl, F', N', ne⟩
  exact h2 W q0 q1 q2 kW h' tk' F' N' ne
theorem OPost.go {h₀ : Heap} {L : Addr} {m : Str → Option Value} {led led' : List (Addr × Obj)} {c y w0 w1 w2 : Nat} {s : Shared} {W : Addr} {q0 q1 q2 : Tok} {kW : Nat} {h' : Heap} {tk' : Nat} (F : Fr h₀ L h' m) (N : News h₀ L h' led') (hm : (W, ways3 (put3 c y w0 w1 w2).1 (put3 c y w0 w1 w2).2.1 (put3 c y w0 w1 w2).2.2 q0 q1 q2 kW) ∈ led') (hs : ∀ p ∈ led, p ∈ led') (ne : ∀ p ∈ led, @Ne Nat p.1 W) :
    OPost h₀ L m led c y w0 w1 w2 s (.ref W) { s with heap := h', toks := tk' } :=
  ⟨W, q0, q1, q2, kW, h', tk', rfl, rfl, F, fun p hp => N p (by rcases List.mem_cons.mp hp with rfl | hp; exact hm; exact hs p hp), ne⟩
theorem ne5 {a b c d e : Addr × Obj} {W : Addr} (h1 : @Ne Nat a.1 W) (h2 : @Ne Nat b.1 W) (h3 : @Ne Nat c.1 W) (h4 : @Ne Nat d.1 W) (h5 : @Ne Nat e.1 W) : ∀ p ∈ [a, b, c, d, e], @Ne Nat p.1 W := by
  intro p hp
  simp only [List.mem_cons, List.not_mem_nil, or_false] at hp
  rcases hp with rfl | rfl | rfl | rfl | rfl
  · exact h1
  · exact h2
  · exact h3
  · exact h4
  · exact h5
noncomputable def TPost (s : Shared) (b : Bool) (s₂ : Shared) : Prop := b = false ∧ ∃ tk', s₂ = { s with toks := tk' }
theorem test_cut {prog : Program} {w : World} {A : Around} {t : Sem Bool} {Q : Bool → Shared → Prop} {E : Value → Shared → Prop} {s : Shared}
    (h1 : wpAny (model prog w) A t (TPost s) E s) (h2 : ∀ tk', Q false { s with toks := tk' }) : wpAny (model prog w) A t Q E s := by
  refine wpAny_mono h1 ?_ (fun _ _ e => e)
  rintro b s₂ ⟨rfl, tk', rfl⟩
  exact h2 tk'
theorem ite_no {c : Prop} {d : Decidable c} {p q : Prop} (hc : ¬ c) (hq : q) : @ite Prop c d p q := by rw [if_neg hc]; exact hq
theorem ite_yes {c : Prop} {d : Decidable c} {p q : Prop} (hc : c) (hp : p) : @ite Prop c d p q := by rw [if_pos hc]; exact hp
end Mine

end
section
namespace Mine
set_option maxRecDepth 100000
set_option maxHeartbeats 8000000
theorem sub4 {a b c d : Addr × Obj} {led : List (Addr × Obj)} (h1 : a ∈ led) (h2 : b ∈ led) (h3 : c ∈ led) (h4 : d ∈ led) : ∀ p ∈ [a, b, c, d], p ∈ led := by
  intro p hp
  simp only [List.mem_cons, List.not_mem_nil, or_false] at hp
  rcases hp with rfl | rfl | rfl | rfl
  · exact h1
  · exact h2
  · exact h3
  · exact h4
theorem ints_at : ∀ {us : List Value} {ws : List Int}, IntsAre us ws → ∀ (i : Nat) (v : Value), us[i]? = some v → ∃ n t, v = .int n t := by
  intro us ws h
  induction h with
  | nil => intro i v e; simp at e
  | cons y t _ ih =>
    intro i v e
    cases i with
    | zero => simp at e; exact ⟨y, t, e.symm⟩
    | succ i => simp at e; exact ih i v e
section
theorem law_holds : Challenge.rw_nq0068_01.Holds := by
  k_with_none
  (k_with "call ref" => (k_here; first
  | ((with_reducible show wpAny _ _ (call (Value.ref 115) [Value.int _ _, Value.int _ _, Value.int _ _]) _ _ _); k_dflt (refine' clauseI _ _ _ _ _ _ _ ?m0 ?m1 ?c0 ?c1 ?w0 ?w1 _ _ _ _ _ _ _ _ _ _ _ _ _ _ _ _ _ _ _ _ _ _ _ ?k1 ?k2 ?k3 ?k4 ?k5 ?k6 ?kd ?ku ?_; (case m0 => first | assumption | decide | exact fmod_lo _ (by decide) | exact fmod_hi _ (by decide) | omega); (case m1 => first | assumption | decide | exact fmod_lo _ (by decide) | exact fmod_hi _ (by decide) | omega); (case c0 => first | assumption | decide | exact fmod_lo _ (by decide) | exact fmod_hi _ (by decide) | omega); (case c1 => first | assumption | decide | exact fmod_lo _ (by decide) | exact fmod_hi _ (by decide) | omega); (case w0 => first | assumption | decide | exact fmod_lo _ (by decide) | exact fmod_hi _ (by decide) | omega); (case w1 => first | assumption | decide | exact fmod_lo _ (by decide) | exact fmod_hi _ (by decide) | omega); (case k1 => k_asm); (case k2 => k_asm); (case k3 => k_asm); (case k4 => k_asm); (case k5 => k_asm); (case k6 => exact rfl); (case kd => ktr_room); (case ku => ktr_units)); intro V9 t9 h9 tk9 hV9 hVl9 F9 N9)
  | ((with_reducible show wpAny _ _ (call (Value.ref 129) [Value.int _ _, Value.ref _]) _ _ _); k_dflt (refine' dueN _ _ _ ?m0 ?m1 _ _ _ _ _ _ _ _ ?x0 ?x1 ?x2 _ _ _ _ _ _ ?hW _ _ _ _ _ _ _ _ _ _ _ _ _ _ _ _ _ ?k1 ?k2 ?k3 ?k4 ?k5 ?k6 ?kd ?ku ?_; (case k1 => k_asm); (case k2 => k_asm); (case k3 => k_asm); (case k4 => k_asm); (case k5 => k_asm); (case k6 => exact rfl); (case kd => ktr_room); (case ku => ktr_units); (case hW => k_mem); (case m0 => assumption); (case m1 => assumption); (case x0 => assumption); (case x1 => assumption); (case x2 => assumption)); intro B9 a09 a19 a29 c9 s09 t09 s19 t19 s29 t29 h9 tk9 F9 N9 l9 l91 l92 l93; (try k_lt l9))
  | ((with_reducible show wpAny _ _ (call (Value.ref 129) [Value.int _ _, Value.ref _]) _ _ _); k_dflt (refine' dueI _ _ _ ?m0 ?m1 _ _ _ _ _ _ _ _ ?x0 ?x1 ?x2 _ _ _ _ _ _ ?hW _ _ _ _ _ _ _ _ _ _ _ _ _ _ _ _ _ ?k1 ?k2 ?k3 ?k4 ?k5 ?k6 ?kd ?ku ?_; (case k1 => k_asm); (case k2 => k_asm); (case k3 => k_asm); (case k4 => k_asm); (case k5 => k_asm); (case k6 => exact rfl); (case kd => ktr_room); (case ku => ktr_units); (case hW => k_mem); (case m0 => first | assumption | decide | exact fmod_lo _ (by decide) | exact fmod_hi _ (by decide) | omega); (case m1 => first | assumption | decide | exact fmod_lo _ (by decide) | exact fmod_hi _ (by decide) | omega); (case x0 => first | assumption | decide | exact fmod_lo _ (by decide) | exact fmod_hi _ (by decide) | omega); (case x1 => first | assumption | decide | exact fmod_lo _ (by decide) | exact fmod_hi _ (by decide) | omega); (case x2 => first | assumption | decide | exact fmod_lo _ (by decide) | exact fmod_hi _ (by decide) | omega)); intro B9 a09 a19 a29 c9 s09 t09 s19 t19 s29 t29 h9 tk9 F9 N9 l9 l91 l92 l93; (try k_lt l9))
  | ((with_reducible show wpAny _ _ (call (Value.ref 136) [Value.str _ _]) _ _ _); k_dflt (refine' read0 _ _ _ _ _ _ ?hR _ _ _ _ _ _ _ _ _ _ _ _ _ _ _ _ _ _ _ _ _ _ ?kb ?kt ?k1 ?k2 ?k3 ?k4 ?k5 ?k6 ?kd ?ku ?_; (case hR => assumption); (case kb => k_asm); (case kt => k_asm); (case k1 => k_asm); (case k2 => k_asm); (case k3 => k_asm); (case k4 => k_asm); (case k5 => k_asm); (case k6 => exact rfl); (case kd => ktr_room); (case ku => ktr_units)); intro B9 a09 a19 a29 c9 s09 t09 s19 t19 s29 t29 h9 tk9 F9 N9 n90 n91 n92 n9B l91 l92 l93)
  | ((with_reducible show wpAny _ _ (call (Value.ref 136) [Value.str _ _]) _ _ _); k_dflt (refine' readV _ _ _ _ _ _ ?hR _ _ _ _ _ _ _ _ _ _ _ _ _ _ _ _ _ _ _ _ _ _ ?kb ?kt ?k1 ?k2 ?k3 ?k4 ?k5 ?k6 ?kd ?ku ?_; (case hR => assumption); (case kb => k_asm); (case kt => k_asm); (case k1 => k_asm); (case k2 => k_asm); (case k3 => k_asm); (case k4 => k_asm); (case k5 => k_asm); (case k6 => exact rfl); (case kd => ktr_room); (case ku => ktr_units)); intro t9 h9 tk9 F9 N9)
  | ((with_reducible show wpAny _ _ (call (Value.ref 136) [Value.str _ _]) _ _ _); k_dflt (refine' readN _ _ _ _ _ _ ?hR _ _ _ _ _ _ _ _ _ _ _ _ _ _ _ _ _ _ _ _ _ _ ?kb ?kt ?k1 ?k2 ?k3 ?k4 ?k5 ?k6 ?kd ?ku ?_; (case hR => assumption); (case kb => k_asm); (case kt => k_asm); (case k1 => k_asm); (case k2 => k_asm); (case k3 => k_asm); (case k4 => k_asm); (case k5 => k_asm); (case k6 => exact rfl); (case kd => ktr_room); (case ku => ktr_units)); intro t9 h9 tk9 F9 N9)
  | ((with_reducible show wpAny _ _ (call (Value.ref 108) [Value.int _ _, Value.int _ _, Value.int _ _, Value.int _ _]) _ _ _); k_dflt (refine' setI _ _ _ _ _ _ _ _ _ ?m0 ?m1 ?c0 ?c1 ?r0 ?r1 ?o0 ?o1 _ _ _ _ _ _ _ _ _ _ _ _ _ _ _ _ _ _ _ _ _ _ _ ?k1 ?k2 ?k3 ?k4 ?k5 ?k6 ?kd ?ku ?_; (case m0 => first | assumption | decide | exact fmod_lo _ (by decide) | exact fmod_hi _ (by decide) | omega); (case m1 => first | assumption | decide | exact fmod_lo _ (by decide) | exact fmod_hi _ (by decide) | omega); (case c0 => first | assumption | decide | exact fmod_lo _ (by decide) | exact fmod_hi _ (by decide) | omega); (case c1 => first | assumption | decide | exact fmod_lo _ (by decide) | exact fmod_hi _ (by decide) | omega); (case r0 => first | assumption | decide | exact fmod_lo _ (by decide) | exact fmod_hi _ (by decide) | omega); (case r1 => first | assumption | decide | exact fmod_lo _ (by decide) | exact fmod_hi _ (by decide) | omega); (case o0 => first | assumption | decide | exact fmod_lo _ (by decide) | exact fmod_hi _ (by decide) | omega); (case o1 => first | assumption | decide | exact fmod_lo _ (by decide) | exact fmod_hi _ (by decide) | omega); (case k1 => k_asm); (case k2 => k_asm); (case k3 => k_asm); (case k4 => k_asm); (case k5 => k_asm); (case k6 => exact rfl); (case kd => ktr_room); (case ku => ktr_units)); intro M9 t9 h9 tk9 hM9 hM90 hM91 F9 N9)))
  (k_with "compareOp NotEq ref ref" => (k_here; (with_reducible show wpAny _ _ (compareOp CmpOp.NotEq (Value.ref _) (Value.ref _)) _ _ _); k_dflt (refine' ne_same ?N ?m ?m0 ?m1 ?m2 ?n ?n0 ?n1 ?n2 ?o0 ?o1 ?o2 ?u ?_; (case N => k_asm); (case m => k_mem); (case m0 => k_mem); (case m1 => k_mem); (case m2 => k_mem); (case n => k_mem); (case n0 => k_mem); (case n1 => k_mem); (case n2 => k_mem); (case o0 => exact due_ok (by decide) (by first | assumption | decide)); (case o1 => exact due_ok (by decide) (by first | assumption | decide)); (case o2 => exact due_ok (by decide) (by first | assumption | decide)); (case u => ke_room))))
  (k_with "eval ListComp" => (k_here; k_dflt (refine LCg.ListComp_U (F₀ := by k_asm) (by with_unfolding_all rfl) (by decide) (by rfl) (by decide) (by rfl) ?_)))
  (k_with "CompSrc" => (k_here; k_dflt (refine LCg.CompSrc.range (by rfl) (by k_asm) (by k_asm) (by assumption) (by first | decide | rfl) (by first | rfl | decide) (by exact Nat.le_of_ble_eq_true rfl) ?_; intro g'; lcg_lit)))
  refine hd ?_
  k_go0
  all_goals try k_fold
  iterate 70 (first | (k_unfold; (try dsimp only)) | (k_end; kc_close) | walk1 | (dsimp only; walk1) | (leave1; walk_say "STEP leave1"; (try dsimp only)))
  iterate 25 (first | (k_unfold; (try dsimp only)) | (k_end; kc_close) | walk1 | (dsimp only; walk1) | (leave1; walk_say "STEP leave1"; (try dsimp only)))
  generalize hH : Txt.join (Str.ofString " ,\t") _ = H at *
  have hG : Good 0 63471 2 1 3 H := by
    subst hH
    exact start_of (by assumption) (by assumption) (by assumption) rfl rfl rfl rfl rfl rfl
  have hR := hG.reads (by omega)
  have hHl : H.length ≤ 1000 := hR.1
  clear hH
  iterate 20 (first | (k_unfold; (try dsimp only)) | (k_end; kc_close) | walk1 | (dsimp only; walk1) | (leave1; walk_say "STEP leave1"; (try dsimp only)))
  (first | (k_unfold; (try dsimp only)) | (k_end; kc_close) | walk1 | (dsimp only; walk1) | (leave1; walk_say "STEP leave1"; (try dsimp only)))
  (first | (k_unfold; (try dsimp only)) | (k_end; kc_close) | walk1 | (dsimp only; walk1) | (leave1; walk_say "STEP leave1"; (try dsimp only)))
  iterate 4 (first | (k_unfold; (try dsimp only)) | (k_end; kc_close) | walk1 | (dsimp only; walk1) | (leave1; walk_say "STEP leave1"; (try dsimp only)))
  (rename Fr _ _ _ _ => lF')
  (rename News _ _ _ _ => lN')
  (with_unfolding_all refine' For_invVF lF' ?k1 ?k2 ?_; (case k1 => exact rfl); (case k2 => exact rfl); k_whole)
  iterate 7 (first | (k_unfold; (try dsimp only)) | (k_end; kc_close) | walk1 | (dsimp only; walk1) | (leave1; walk_say "STEP leave1"; (try dsimp only)))
  (first | (k_unfold; (try dsimp only)) | (k_end; kc_close) | walk1 | (dsimp only; walk1) | (leave1; walk_say "STEP leave1"; (try dsimp only)))
  (rename Fr _ _ _ _ => lF)
  (rename News _ _ _ _ => lN)
  (rename IntsAre _ (List.take 5 _) => hI5)
  (rename (List.take 5 _).length = _ => hC5)
  k_dflt (refine' law_for (w0 := 2) (w1 := 1) (w2 := 3) (mode := 63471) ?F ?N ?hm ?hW ?hM hG ?n2 ?n3 ?n4 ?n5 ?n6 ?n7 ?_ ?_)
  case F => exact lF
  case N => exact (cb_drop lN (sub4 (List.mem_of_getElem? (i := 0) rfl) (List.mem_of_getElem? (i := 10) rfl) (List.mem_of_getElem? (i := 11) rfl) (List.mem_of_getElem? (i := 12) rfl)))
  case hm => exact if_pos rfl
  case hW => assumption
  case hM => assumption
  case n2 => show (_ : Nat) ≠ _; k_ne
  case n3 => show (_ : Nat) ≠ _; k_ne
  case n4 => show (_ : Nat) ≠ _; k_ne
  case n5 => show (_ : Nat) ≠ _; k_ne
  case n6 => show (_ : Nat) ≠ _; k_ne
  case n7 => show (_ : Nat) ≠ _; k_ne
  · intro i v m₁ mode w0 w1 w2 H9 tm th W q0 q1 q2 kW oW oM h tk I oI hv hG9 d1 d2 d3 d4 d5 d6 d7 hW hM F1 N1
    clear lF lN hR hG
    obtain ⟨n, tn, rfl⟩ := ints_at hI5 i v hv
    have hi5 : i < 5 := by
      have h1 := hI5.length
      have h2 := (List.getElem?_eq_some_iff.mp hv).1
      exact Nat.lt_of_lt_of_le (Nat.lt_of_lt_of_eq h2 h1) (List.length_take_le 5 _)
    have hi10 : i ≤ 10 := Nat.le_trans (Nat.le_of_lt hi5) (by decide)
    obtain ⟨g0, g1, g2, g3, g4, g5⟩ := id hG9
    have hHl9 : H9.length ≤ 1000 := (hG9.reads hi10).1
    iterate 6 (first | (k_unfold; (try dsimp only)) | (k_end; kc_close) | walk1 | (dsimp only; walk1) | (leave1; walk_say "STEP leave1"; (try dsimp only)))
    have c0 := fmod_lo n (show (0:Int) < 3 by decide)
    have c1 := fmod_hi n (show (0:Int) < 3 by decide)
    have hy8 : ∃ y : Nat, n.fmod 8 = (y : Int) ∧ y < 8 := by
      have e1 := fmod_lo n (show (0:Int) < 8 by decide)
      have e2 := fmod_hi n (show (0:Int) < 8 by decide)
      exact natOf e1 e2
    obtain ⟨y, hy, hy8⟩ := hy8
    have r0 := fmod_lo (n.fdiv 8) (show (0:Int) < 8 by decide)
    have r1 := fmod_hi (n.fdiv 8) (show (0:Int) < 8 by decide)
    have o0 := fmod_lo (n.fdiv 192) (show (0:Int) < 2 by decide)
    have o1 := fmod_hi (n.fdiv 192) (show (0:Int) < 2 by decide)
    generalize n.fmod 3 = cI at c0 c1 ⊢
    iterate 7 (first | (k_unfold; (try dsimp only)) | (k_end; kc_close) | walk1 | (dsimp only; walk1) | (leave1; walk_say "STEP leave1"; (try dsimp only)))
    rw [hy]
    iterate 10 (first | (k_unfold; (try dsimp only)) | (k_end; kc_close) | walk1 | (dsimp only; walk1) | (leave1; walk_say "STEP leave1"; (try dsimp only)))
    generalize (n.fdiv 8).fmod 8 = r at r0 r1 ⊢
    iterate 10 (first | (k_unfold; (try dsimp only)) | (k_end; kc_close) | walk1 | (dsimp only; walk1) | (leave1; walk_say "STEP leave1"; (try dsimp only)))
    generalize (n.fdiv 192).fmod 2 = o at o0 o1 ⊢
    iterate 20 (first | (k_unfold; (try dsimp only)) | (k_end; kc_close) | walk1 | (dsimp only; walk1) | (leave1; walk_say "STEP leave1"; (try dsimp only)))
    (first | (k_unfold; (try dsimp only)) | (k_end; kc_close) | walk1 | (dsimp only; walk1) | (leave1; walk_say "STEP leave1"; (try dsimp only)))
    (rename Fr _ _ _ _ => lF)
    (rename News _ _ _ _ => lN)
    clear F1 N1
    k_dflt (refine' others_cut cI.toNat y w0 w1 w2 ?F ?N ?_ ?_)
    case F => exact lF
    case N => exact lN
    · rcases three c0 c1 with rfl | rfl | rfl
      all_goals
        iterate 28 (first | (k_unfold; (try dsimp only)) | (k_end; kc_close) | walk1 | (dsimp only; walk1) | (leave1; walk_say "STEP leave1"; (try dsimp only)))
        k_dflt (refine' OPost.go ?F ?N ?hm ?hs ?ne)
        case F => k_asm
        case N => k_asm
        case hm => k_mem
        case hs => exact sub5 (by k_mem) (by k_mem) (by k_mem) (by k_mem) (by k_mem)
        case ne => exact ne5 (by show (_ : Nat) ≠ _; k_ne) (by show (_ : Nat) ≠ _; k_ne) (by show (_ : Nat) ≠ _; k_ne) (by show (_ : Nat) ≠ _; k_ne) (by show (_ : Nat) ≠ _; k_ne)
    clear lF lN
    intro W' p0 p1 p2 kW' h' tk' F2 N2 ne2
    have e1 := ne2 _ (.head _)
    have e2 := ne2 _ (.tail _ (.head _))
    have e3 := ne2 _ (.tail _ (.tail _ (.head _)))
    have e4 := ne2 _ (.tail _ (.tail _ (.tail _ (.head _))))
    have e5 := ne2 _ (.tail _ (.tail _ (.tail _ (.tail _ (.head _)))))
    clear ne2
    dsimp only at e1 e2 e3 e4 e5
    iterate 24 (first | (k_unfold; (try dsimp only)) | (k_end; kc_close) | walk1 | (dsimp only; walk1) | (leave1; walk_say "STEP leave1"; (try dsimp only)))
    (rename _ = setF _ _ _ _ => eM)
    (rename _ = clauseT _ _ _ => eV)
    (rename 61440 ≤ _ => eM0)
    (rename _ < 65536 => eM1)
    have hcase : y = 7 ∨ (y = 0 ∧ r + o = 0) ∨ (y < 7 ∧ ¬ (y = 0 ∧ r + o = 0)) := way3 hy8
    have hcT : cI = (cI.toNat : Int) := (Int.toNat_of_nonneg c0).symm
    have hcL : cI.toNat < 3 := nat_lt c0 c1
    rcases hcase with rfl | ⟨rfl, hz⟩ | ⟨hy7, hyz⟩
    · have hR := turn_val hG9 hi10 (c := cI.toNat) hcT hcL r0 r1 o0 o1 eM rfl eV
      k_steps
      k_dflt (refine' LTurn.go (.inl rfl) ?F ?N ?hm ?hW ?hM (hG9.mono (Nat.le_succ _)) ?hs ?n1 ?n2 ?n3 ?n4)
      case F => k_asm
      case N => k_asm
      case hm => exact rfl
      case hW => assumption
      case hM => assumption
      case hs => exact sub5 (by k_mem) (by k_mem) (by k_mem) (by k_mem) (by k_mem)
      case n1 => show (_ : Nat) ≠ _; k_ne
      case n2 => show (_ : Nat) ≠ _; k_ne
      case n3 => show (_ : Nat) ≠ _; k_ne
      case n4 => show (_ : Nat) ≠ _; k_ne
    · have hR := turn_ind hG9 hi10 (c := cI.toNat) hcT hcL r0 r1 o0 o1 hz eM rfl eV
      iterate 30 (first | (k_unfold; (try dsimp only)) | (k_end; kc_close) | walk1 | (dsimp only; walk1) | (leave1; walk_say "STEP leave1"; (try dsimp only)))
      rotate_left
      · exfalso; omega
      k_steps
      k_dflt (refine' LTurn.go (.inl rfl) ?F ?N ?hm ?hW ?hM (hG9.mono (Nat.le_succ _)) ?hs ?n1 ?n2 ?n3 ?n4)
      case F => k_asm
      case N => k_asm
      case hm => exact rfl
      case hW => assumption
      case hM => assumption
      case hs => exact sub5 (by k_mem) (by k_mem) (by k_mem) (by k_mem) (by k_mem)
      case n1 => show (_ : Nat) ≠ _; k_ne
      case n2 => show (_ : Nat) ≠ _; k_ne
      case n3 => show (_ : Nat) ≠ _; k_ne
      case n4 => show (_ : Nat) ≠ _; k_ne
    · iterate 6 (first | (k_unfold; (try dsimp only)) | (k_end; kc_close) | walk1 | (dsimp only; walk1) | (leave1; walk_say "STEP leave1"; (try dsimp only)))
      refine ite_no (fun e => by have := eq_of_beq e; omega) ?_
      iterate 3 (first | (k_unfold; (try dsimp only)) | (k_end; kc_close) | walk1 | (dsimp only; walk1) | (leave1; walk_say "STEP leave1"; (try dsimp only)))
      k_dflt (refine test_cut ?_ ?_)
      · k_steps
        all_goals first | (exfalso; omega) | exact ⟨rfl, _, rfl⟩
      intro tk'
      refine ite_no (by decide) ?_
      dsimp only
      have hG' := turn_good hG9 (c := cI.toNat) hcT hcL hy7 r0 r1 o0 o1 hyz eM rfl eV
      generalize (put3 cI.toNat y w0 w1 w2).1 = v0 at *
      generalize (put3 cI.toNat y w0 w1 w2).2.1 = v1 at *
      generalize (put3 cI.toNat y w0 w1 w2).2.2 = v2 at *
      obtain ⟨b0, b1, b2, b3, b4, b5⟩ := id hG'
      have hR := hG'.reads (Nat.le_trans hi5 (by decide))
      k_steps
      k_dflt (refine' LTurn.go (.inl rfl) ?F ?N ?hm ?hW ?hM hG' ?hs ?n1 ?n2 ?n3 ?n4)
      case F => k_asm
      case N => k_asm
      case hm => exact rfl
      case hW => assumption
      case hM => assumption
      case hs => exact sub5 (by k_mem) (by k_mem) (by k_mem) (by k_mem) (by k_mem)
      case n1 => show (_ : Nat) ≠ _; k_ne
      case n2 => show (_ : Nat) ≠ _; k_ne
      case n3 => show (_ : Nat) ≠ _; k_ne
      case n4 => show (_ : Nat) ≠ _; k_ne
  · intro m₁ h tk nx F1 N1
    clear lF lN
    iterate 4 (first | (k_unfold; (try dsimp only)) | (k_end; kc_close) | walk1 | (dsimp only; walk1) | (leave1; walk_say "STEP leave1"; (try dsimp only)))
end
end Mine

end
set_option maxRecDepth 100000 in
theorem PySem.Challenge.cw_nq0068_01_holds : PySem.Challenge.rw_nq0068_01.Holds := by
  exact Mine.law_holds
