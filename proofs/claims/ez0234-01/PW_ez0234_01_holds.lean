import PyProof.Rows.All
import Wide.All
import OpenK.AllK
import Wide.FinOn
import PySem.Challenge.RW_ez0234_01
set_option Elab.async false
section
open PySem PySem.W PyProof.Rows
namespace Mine
set_option maxRecDepth 100000
set_option maxHeartbeats 8000000
open_top hd for PySem.Challenge.rw_ez0234_01
end Mine
end
section
open PySem PySem.W PyProof.Rows
namespace Mine
def STOP (P : Prop) : Prop := P
theorem STOP.out {P : Prop} (h : STOP P) : P := h
theorem STOP.mk {P : Prop} (h : P) : STOP P := h
section
variable {prog : Program} {w : World} {A : Around} {E : Value → Shared → Prop} {s : Shared} {env : Env} {h₀ : Heap} {target : Expr} {x : Str} {body : List Stmt} {Q : Flow → Shared → Prop}

theorem fr_know {L : Addr} {h : Heap} {m : Str → Option Value} {y : Str} {v : Value} (hy : m y = some v) (F : Fr h₀ L h m) : Fr h₀ L h (fun z => if z = y then some v else m z) := by
  have e : (fun z => if z = y then some v else m z) = m := by
    funext z
    by_cases h1 : z = y
    · rw [if_pos h1, h1, hy]
    · rw [if_neg h1]
  rw [e]; exact F

theorem fr_know2 {L : Addr} {h : Heap} {m : Str → Option Value} {y1 y2 : Str} {v1 v2 : Value} (h1 : m y1 = some v1) (h2 : m y2 = some v2) (F : Fr h₀ L h m) : Fr h₀ L h (fun z => if z = y1 then some v1 else if z = y2 then some v2 else m z) := by
  have e : (fun z => if z = y1 then some v1 else if z = y2 then some v2 else m z) = m := by
    funext z
    by_cases e1 : z = y1
    · rw [if_pos e1, e1, h1]
    · rw [if_neg e1]
      by_cases e2 : z = y2
      · rw [if_pos e2, e2, h2]
      · rw [if_neg e2]
  rw [e]; exact F
theorem fr_know3 {L : Addr} {h : Heap} {m : Str → Option Value} {y1 y2 y3 : Str} {v1 v2 v3 : Value} (h1 : m y1 = some v1) (h2 : m y2 = some v2) (h3 : m y3 = some v3) (F : Fr h₀ L h m) :
    Fr h₀ L h (fun z => if z = y1 then some v1 else if z = y2 then some v2 else if z = y3 then some v3 else m z) := by
  have e : (fun z => if z = y1 then some v1 else if z = y2 then some v2 else if z = y3 then some v3 else m z) = m := by
    funext z
    by_cases e1 : z = y1
    · rw [if_pos e1, e1, h1]
    · rw [if_neg e1]
      by_cases e2 : z = y2
      · rw [if_pos e2, e2, h2]
      · rw [if_neg e2]
        by_cases e3 : z = y3
        · rw [if_pos e3, e3, h3]
        · rw [if_neg e3]
  rw [e]; exact F

theorem allObj_mono : ∀ {ws : List (Addr × String)} {k k' : List (Addr × Obj) → Prop}, (∀ its, k its → k' its) → AllObj ws k → AllObj ws k'
  | [], _, _, h, a => h _ a
  | _ :: _, _, _, h, a => fun o ho => allObj_mono (fun its hk => h _ hk) (a o ho)

theorem unrPostW_mono {L : Addr} {s₁ : Shared} {its : List (Addr × Obj)} {r r' : (Str → Option Value) → List (Addr × Obj) → Prop} (h : ∀ m n, r m n → r' m n) {f : Flow} {s₂ : Shared} (p : UnrPostW h₀ L s₁ its r Q f s₂) : UnrPostW h₀ L s₁ its r' Q f s₂ := by
  have up : UnrEndW h₀ L s₁ its r s₂ → UnrEndW h₀ L s₁ its r' s₂ := by
    rintro ⟨h', tk, m', news', e, F, N, o, k⟩
    exact ⟨h', tk, m', news', e, F, N, o, h _ _ k⟩
  cases f with
  | ret v => exact p
  | brk => exact p
  | next => exact up p
  | cont => exact up p

theorem unrPost_mono {L I : Addr} {it : Obj} {s₁ : Shared} {r r' : (Str → Option Value) → List (Addr × Obj) → Prop} (h : ∀ m n, r m n → r' m n) {f : Flow} {s₂ : Shared} (p : UnrPost h₀ L s₁ I it r Q f s₂) : UnrPost h₀ L s₁ I it r' Q f s₂ := by
  have up : UnrEnd h₀ L s₁ I it r s₂ → UnrEnd h₀ L s₁ I it r' s₂ := by
    rintro ⟨h', tk, m', news', e, F, N, o, k⟩
    exact ⟨h', tk, m', news', e, F, N, o, h _ _ k⟩
  cases f with
  | ret v => exact p
  | brk => exact p
  | next => exact up p
  | cont => exact up p

/-- a loop over written items, by an invariant of what is left -/
theorem items_inv {ws : List (Addr × String)} {keep : List (Addr × Obj)} (J : List Itm → (Str → Option Value) → List (Addr × Obj) → Prop)
    (turn : ∀ a r m news, J (a :: r) m news → ∀ v h tk, a.Is v h → Fr h₀ env.locals h m → AllObj ws (fun its => News h₀ env.locals h (its ++ news) →
      wpAny (model prog w) A (assign target env v) (fun _ s₂ => wpAny (model prog w) A (execs body env) (UnrPostW h₀ env.locals { s with heap := h, toks := tk } its (fun m' n' => SubL keep n' ∧ J r m' n') Q) E s₂) E { s with heap := h, toks := tk }))
    (done : ∀ m news, J [] m news → ∀ h tk, Fr h₀ env.locals h m → News h₀ env.locals h news → Q .next { s with heap := h, toks := tk }) :
    ∀ xs m news, J xs m news → ItemsRest prog w A E h₀ env target body Q s ws keep xs m news
  | [], m, news, hj => done m news hj
  | a :: r, m, news, hj => fun v h tk hv F => allObj_mono (fun its k N =>
      wpAny_mono (k N) (fun _ _ p => wpAny_mono p (fun _ _ q => unrPostW_mono (fun m' n' z => ⟨z.1, items_inv J turn done r m' n' z.2⟩) q) fun _ _ e => e) fun _ _ e => e) (turn a r m news hj v h tk hv F)

/-- a loop over a list of the ledger -/
theorem list_inv {I : Addr} {lp : Addr × Obj} (J : List Value → (Str → Option Value) → List (Addr × Obj) → Prop)
    (turn : ∀ v r m news, J (v :: r) m news → ∀ (it : Obj) h tk, it.cls = .type "list_iterator" → Fr h₀ env.locals h (fun y => if y = x then some v else m y) → News h₀ env.locals h ((I, it) :: news) →
      wpAny (model prog w) A (execs body env) (UnrPost h₀ env.locals { s with heap := h, toks := tk } I it (fun m' n' => lp ∈ n' ∧ J r m' n') Q) E { s with heap := h, toks := tk })
    (done : ∀ m news, J [] m news → ∀ h tk, Fr h₀ env.locals h m → News h₀ env.locals h news → Q .next { s with heap := h, toks := tk }) :
    ∀ xs m news, J xs m news → ListRest prog w A E h₀ env x body Q s I lp xs m news
  | [], m, news, hj => done m news hj
  | a :: r, m, news, hj => fun it h tk hc F N =>
      wpAny_mono (turn a r m news hj it h tk hc F N) (fun _ _ q => unrPost_mono (fun m' n' z => ⟨z.1, list_inv J turn done r m' n' z.2⟩) q) fun _ _ e => e

/-- a loop over a range -/
theorem range_inv {I : Addr} {a : Int} {n : Nat} (J : Nat → (Str → Option Value) → List (Addr × Obj) → Prop)
    (turn : ∀ i m news, i < n → J i m news → ∀ t h tk, Fr h₀ env.locals h (fun y => if y = x then some (.int (a + (i : Int)) t) else m y) →
      News h₀ env.locals h ((I, itR (a + ((i + 1 : Nat) : Int)) ((n : Int) - ((i + 1 : Nat) : Int))) :: news) →
      wpAny (model prog w) A (execs body env) (UnrPost h₀ env.locals { s with heap := h, toks := tk } I (itR (a + ((i + 1 : Nat) : Int)) ((n : Int) - ((i + 1 : Nat) : Int))) (J (i + 1)) Q) E { s with heap := h, toks := tk })
    (done : ∀ m news, J n m news → ∀ h tk, Fr h₀ env.locals h m → News h₀ env.locals h news → Q .next { s with heap := h, toks := tk }) :
    ∀ k i m news, i + k = n → J i m news → RangeRest prog w A E h₀ env x body Q s I a n k i m news
  | 0, i, m, news, hk, hj => done m news (by have : i = n := by omega
                                             subst this; exact hj)
  | k + 1, i, m, news, hk, hj => fun t h tk F N =>
      wpAny_mono (turn i m news (by omega) hj t h tk F N) (fun _ _ q => unrPost_mono (fun m' n' z => range_inv J turn done k (i + 1) m' n' (by omega) z) q) fun _ _ e => e
end
end Mine
namespace Mine
theorem fd_facts {n off : Int} (h0 : 0 ≤ n) (h1 : 0 < off) : 0 ≤ n.fdiv off ∧ n.fdiv off ≤ n ∧ 0 ≤ n.fmod off ∧ n.fmod off < off ∧ n.fmod off ≤ n ∧ n = off * n.fdiv off + n.fmod off := by
  rw [Int.fdiv_eq_ediv_of_nonneg n (Int.le_of_lt h1), Int.fmod_eq_emod_of_nonneg n (Int.le_of_lt h1)]
  refine ⟨Int.ediv_nonneg h0 (Int.le_of_lt h1), Int.ediv_le_self _ h0, Int.emod_nonneg _ (by omega), Int.emod_lt_of_pos _ h1, ?_, (Int.mul_ediv_add_emod n off).symm⟩
  have h2 := Int.mul_ediv_add_emod n off
  have h3 : 0 ≤ off * (n / off) := Int.mul_nonneg (Int.le_of_lt h1) (Int.ediv_nonneg h0 (Int.le_of_lt h1))
  omega
end Mine
namespace Mine
theorem divmod_K {prog : Program} {w : World} {A : Around} {E : Value → Shared → Prop} {s : Shared} {Q : Value → Shared → Prop} {a b : Int} {t u : Tok} {h₀ : Heap} {L : Addr} {m : Str → Option Value} {news : List (Addr × Obj)} (F : Fr h₀ L s.heap m) (N : News h₀ L s.heap news) (hb : b ≠ 0)
    (hp : Builtin.divisionGoesByPylong a b = false)
    (h : ∀ D h', Fr h₀ L h' m → News h₀ L h' ((D, { cls := .type "tuple", data := .seq #[.int (a.fdiv b) s.toks, .int (a.fmod b) (s.toks + 1)] }) :: news) → (∀ p ∈ news, p.1 < D) →
      Q (.ref D) { s with toks := s.toks + 1 + 1, heap := h' }) :
    wpAny (model prog w) A (call (.builtin "divmod") [.int a t, .int b u]) Q E s :=
  divmod_N F N hb (fun h' F' N' => h _ h' F' N' fun p hp => Heap.lt_size (N p hp).1) (.inl hp)
end Mine
namespace Mine
theorem news_sub {h₀ h : Heap} {L : Addr} {nx nx' : List (Addr × Obj)} (N : News h₀ L h nx) (hs : ∀ q ∈ nx', q ∈ nx) : News h₀ L h nx' := fun q hq => N q (hs q hq)
theorem news_sub1 {h₀ h : Heap} {L : Addr} {p : Addr × Obj} {nx nx' : List (Addr × Obj)} (N : News h₀ L h (p :: nx)) (hs : ∀ q ∈ nx', q ∈ nx) : News h₀ L h (p :: nx') := fun q hq => by
  rcases List.mem_cons.mp hq with rfl | hq
  · exact N _ (List.mem_cons_self ..)
  · exact N _ (List.mem_cons_of_mem _ (hs _ hq))
end Mine
namespace Mine
theorem sum_len_le {k : Nat} : ∀ {ps : List Str}, (∀ p ∈ ps, p.length ≤ k) → (ps.map (·.length)).sum ≤ k * ps.length
  | [], _ => by simp
  | p :: r, h => by
    have h1 := h p (.head _)
    have h2 := sum_len_le fun q hq => h q (.tail _ hq)
    simp only [List.map_cons, List.sum_cons, List.length_cons, Nat.mul_succ]
    omega
theorem join_K {prog : Program} {w : World} {A : Around} {E : Value → Shared → Prop} {s : Shared} {Q : Value → Shared → Prop} {h₀ : Heap} {L D : Addr} {news : List (Addr × Obj)} {vs : List Value} {ys : List Str} {c k : Nat} {x : Str} {t : Tok}
    (N : News h₀ L s.heap news) (hm : (D, listOf vs.toArray c) ∈ news) (hS : StrsAre vs ys) (hx : x.length ≤ 16) (hl : ∀ y ∈ ys, y.length ≤ k) (hk : k * ys.length + ys.length ≤ 1048576)
    (h : ∀ t' k, Q (.str (Txt.join x ys) t') { s with toks := k }) : wpAny (model prog w) A (call (.builtin "str.join") [.str x t, .ref D]) Q E s :=
  join_listW (items := vs.toArray) ⟨_, (N _ hm).1, rfl, c, rfl⟩ (by simpa using hS) hx (by have := sum_len_le hl; omega) h
end Mine
namespace Mine
theorem sub_cons {p : Addr × Obj} {rest nx : List (Addr × Obj)} (h1 : p ∈ nx) (h2 : ∀ q ∈ rest, q ∈ nx) : ∀ q ∈ p :: rest, q ∈ nx := fun q hq => by
  rcases List.mem_cons.mp hq with rfl | hq
  · exact h1
  · exact h2 q hq
theorem sub_nil {nx : List (Addr × Obj)} : ∀ q ∈ ([] : List (Addr × Obj)), q ∈ nx := fun _ h => nomatch h
end Mine
namespace Mine
theorem fr_under2 {h₀ : Heap} {L : Addr} {h : Heap} {m : Str → Option Value} {x y1 y2 : Str} {v v1 v2 : Value} (h1 : m y1 = some v1) (h2 : m y2 = some v2) (F : Fr h₀ L h (fun y => if y = x then some v else m y)) :
    Fr h₀ L h (fun z => if z = x then some v else if z = y1 then some v1 else if z = y2 then some v2 else m z) := by
  have e : (fun z => if z = x then some v else if z = y1 then some v1 else if z = y2 then some v2 else m z) = fun y => if y = x then some v else m y := by
    funext z
    by_cases e0 : z = x
    · rw [if_pos e0, if_pos e0]
    · rw [if_neg e0, if_neg e0]
      by_cases e1 : z = y1
      · rw [if_pos e1, e1, h1]
      · rw [if_neg e1]
        by_cases e2 : z = y2
        · rw [if_pos e2, e2, h2]
        · rw [if_neg e2]
  rw [e]; exact F
end Mine
namespace Mine
/-- what a call of a def of the top gives back: the frame and the ledger as they were -/
abbrev Claim (prog : Program) (w : World) (K : Frag) (p : Program) (loose : List Str) (mean : ExcName → Option Value) (mg mb : Str → Option Value) (f : Addr) (news : List (Addr × Obj)) (pre : Prop) (vs : List Value) (R : Tok → Value) : Prop :=
  ∀ (dp un : Nat) (gd : Option (List Code)) (cn : Str) (cs : Scope) (a : Addr) (ccd : Value) (cl : List (Str × Addr)) (outer : List Env) (A₀ : Around) (base h₀ : Heap) (L : Addr) (m : Str → Option Value) (s : Shared) (Q E : Value → Shared → Prop),
    Below A₀ base outer h₀ → Fr h₀ L s.heap m → K.In h₀ → News h₀ L s.heap news → Top p loose mean mg mb h₀ → cs.kind = .function →
    pre → dp + 10 < recursionLimit → un + 100 < cLine → CbRet h₀ L m news s Q R →
      wpAny (model prog w) (ktrTop dp un gd cn cs L a ccd cl outer) (call (.ref f) vs) Q E s
end Mine
namespace Mine
theorem item_K {prog : Program} {w : World} {A : Around} {E : Value → Shared → Prop} {s : Shared} {value slice : Expr} {h₀ : Heap} {L : Addr} {news : List (Addr × Obj)} {l : Addr} {vs : List Value} {c : Nat} {k : Int} {u : Tok} {v : Value} {Q : Value → Shared → Prop}
    (N : News h₀ L s.heap news) (hm : (l, listOf vs.toArray c) ∈ news) (h0 : 0 ≤ k) (hhi : k < 2 ^ 63) (hx : vs[k.toNat]? = some v) (h : Q v s)
    (hs : subscripted slice false (.ref l) (.int k u) = operate [.ref l, .int k u] (getItem (.ref l) (.int k u)) := by with_unfolding_all rfl) :
    wpAny (model prog w) A (subscriptTail value slice (.ref l) (.int k u)) Q E s :=
  have hl : s.heap.IsList l vs.toArray := ⟨_, (N _ hm).1, rfl, c, rfl⟩
  tail_any hl.typeIs slot_list_getitem.lookup (wpAny_getItem_list hl h0 hhi (by simpa using hx) h) hs
end Mine
namespace Mine
theorem led_cut {h₀ h : Heap} {L D : Addr} {oD : Obj} {news nx : List (Addr × Obj)} (N : News h₀ L h ((D, oD) :: news)) (l : ∀ q ∈ news, q.1 < D) (hs : ∀ p ∈ nx, p ∈ news) : News h₀ L h ((D, oD) :: nx) ∧ ∀ p ∈ nx, p.1 < D :=
  ⟨news_sub1 N hs, fun p hp => l p (hs p hp)⟩
end Mine
end
section
open PySem PySem.W PyProof.Rows
namespace Mine
def txt (v : Int) (nm : Str) : Str := Str.empty ++ Str.ofString (toString v) ++ Str.ofString " " ++ nm ++ (if v = 1 then Str.ofString "" else Str.ofString "s")
def parts : List (Int × Str) → Int → List Str
  | [], _ => []
  | (off, nm) :: r, n => (if n.fdiv off = 0 then [] else [txt (n.fdiv off) nm]) ++ parts r (n.fmod off)
def hdTab : List (Int × Str) := [(31536000, Str.ofString "year"), (2592000, Str.ofString "month"), (604800, Str.ofString "week"), (86400, Str.ofString "day"), (3600, Str.ofString "hour"), (60, Str.ofString "minute"), (1, Str.ofString "second")]
def hdText (n : Int) (g : Str) : Str := if parts hdTab n = [] then Str.ofString "0 seconds" else Txt.join g (parts hdTab n)

def trip : List (Int × Str) → Int → List (Int × Int × Str)
  | [], _ => []
  | (off, nm) :: r, n => (if n.fdiv off = 0 then [] else [(n.fdiv off, off, nm)]) ++ trip r (n.fmod off)
def PL (n : Int) : List (Int × Int × Str) := if trip hdTab n = [] then [(0, 1, Str.ofString "second")] else trip hdTab n
abbrev tx (q : Int × Int × Str) : Str := txt q.1 q.2.2

theorem parts_trip : ∀ (tab : List (Int × Str)) (n : Int), parts tab n = (trip tab n).map tx
  | [], _ => rfl
  | (off, nm) :: r, n => by
    unfold parts trip
    rw [parts_trip r]
    split <;> simp [tx]

theorem txt0 : txt 0 (Str.ofString "second") = Str.ofString "0 seconds" := by decide +kernel
theorem hdText_eq (n : Int) (g : Str) : hdText n g = Txt.join g ((PL n).map tx) := by
  unfold hdText PL
  rw [parts_trip]
  by_cases h : trip hdTab n = []
  · rw [h]
    simp only [List.map_nil, if_true]
    show _ = Txt.join g [txt 0 (Str.ofString "second")]
    rw [txt0, Txt.join, StrLaws.glued_eq_join]
    rfl
  · rw [if_neg (by simpa using h), if_neg h]

/-- the pieces are each below the one ahead -/
def OkP : Option Int → List (Int × Int × Str) → Prop
  | _, [] => True
  | m, (v, off, nm) :: r => (off, nm) ∈ hdTab ∧ 0 < off ∧ 0 ≤ v ∧ v < 100000000 ∧ (∀ k, m = some k → v * off < k) ∧ OkP (some off) r
def worth : List (Int × Int × Str) → Int
  | [] => 0
  | (v, off, _) :: r => v * off + worth r

theorem trip_ok : ∀ (tab : List (Int × Str)) (n : Int) (m : Option Int), (∀ p ∈ tab, p ∈ hdTab ∧ 0 < p.1) → 0 ≤ n → n < 100000000 → (∀ k, m = some k → n < k) → OkP m (trip tab n)
  | [], _, _, _, _, _, _ => trivial
  | (off, nm) :: r, n, m, hp, h0, h1, hm => by
    obtain ⟨⟨hin, hoff⟩, hr⟩ := List.forall_mem_cons.mp hp
    replace hoff : 0 < off := hoff
    obtain ⟨a0, a1, a2, a3, a4, a5⟩ := fd_facts h0 hoff
    have e : n.fdiv off * off = off * n.fdiv off := Int.mul_comm _ _
    unfold trip
    by_cases h : n.fdiv off = 0
    · rw [if_pos h, List.nil_append]
      exact trip_ok r _ m hr a2 (by omega) fun k hk => by have := hm k hk; omega
    · rw [if_neg h]
      refine ⟨hin, hoff, a0, by omega, fun k hk => by have := hm k hk; omega, ?_⟩
      exact trip_ok r _ (some off) hr a2 (by omega) fun k hk => by cases hk; exact a3

def leftover : List (Int × Str) → Int → Int
  | [], n => n
  | (off, _) :: r, n => leftover r (n.fmod off)
theorem trip_worth : ∀ (tab : List (Int × Str)) (n : Int), (∀ p ∈ tab, 0 < p.1) → 0 ≤ n → worth (trip tab n) + leftover tab n = n
  | [], n, _, _ => by show 0 + n = n; omega
  | (off, nm) :: r, n, hp, h0 => by
    obtain ⟨hoff, hr⟩ := List.forall_mem_cons.mp hp
    replace hoff : 0 < off := hoff
    obtain ⟨a0, a1, a2, a3, a4, a5⟩ := fd_facts h0 hoff
    have e : n.fdiv off * off = off * n.fdiv off := Int.mul_comm _ _
    have ih := trip_worth r (n.fmod off) hr a2
    unfold trip leftover
    by_cases h : n.fdiv off = 0
    · rw [if_pos h, List.nil_append, ih]
      rw [h] at a5
      omega
    · rw [if_neg h]
      show n.fdiv off * off + worth (trip r (n.fmod off)) + leftover r (n.fmod off) = n
      omega
theorem fmod_one (n : Int) : n.fmod 1 = 0 := by rw [Int.fmod_eq_emod_of_nonneg n (by decide)]; omega
theorem worth_PL {n : Int} (h0 : 0 ≤ n) : worth (PL n) = n := by
  have h := trip_worth hdTab n (by decide +kernel) h0
  have h2 : leftover hdTab n = 0 := fmod_one _
  rw [h2] at h
  unfold PL
  by_cases e : trip hdTab n = []
  · rw [if_pos e]
    rw [e] at h
    show 0 * 1 + 0 = n
    have : worth [] = 0 := rfl
    omega
  · rw [if_neg e]; omega
theorem ok_PL {n : Int} (h0 : 0 ≤ n) (h1 : n < 100000000) : OkP none (PL n) := by
  unfold PL
  by_cases e : trip hdTab n = []
  · rw [if_pos e]
    exact ⟨by decide +kernel, by decide, by decide, by decide, (fun k hk => nomatch hk), trivial⟩
  · rw [if_neg e]
    exact trip_ok hdTab n none (by decide +kernel) h0 h1 fun k hk => nomatch hk
theorem PL_len (n : Int) : (PL n).length ≤ 7 := by
  have : ∀ (tab : List (Int × Str)) (n : Int), (trip tab n).length ≤ tab.length := by
    intro tab
    induction tab with
    | nil => intro n; exact Nat.le_refl _
    | cons p r ih =>
      obtain ⟨off, nm⟩ := p
      intro n
      unfold trip
      have := ih (n.fmod off)
      split <;> simp only [List.length_append, List.length_cons, List.length_nil] <;> omega
  unfold PL
  split
  · simp
  · exact this hdTab n
theorem PL_ne (n : Int) : PL n ≠ [] := by
  unfold PL
  split
  · simp
  · assumption

/-! cutting what was joined -/
open StrLaws Builtin Builtin.Str in
theorem at_iff (x y : Str) (k : Nat) : At x y x.length k ↔ k + y.length ≤ x.length ∧ (x.cps.toList.drop k).take y.length = y.cps.toList := by
  unfold At
  rw [subAt_eq]
  simp

theorem join_cps (y p q : Str) (r : List Str) : (Str.join y (p :: q :: r)).cps.toList = p.cps.toList ++ (y.cps.toList ++ (Str.join y (q :: r)).cps.toList) := by
  show ((p ++ y ++ Str.join y (q :: r)).cps).toList = _
  simp [Str.cps_append]

/-- a sign of the separator that stands in no part and not ahead in the separator -/
structure Marks (y : Str) (i c : Nat) (ps : List Str) : Prop where
  here : y.cps.toList[i]? = some c
  first : ∀ j, j < i → y.cps.toList[j]? ≠ some c
  free : ∀ p ∈ ps, c ∉ p.cps.toList

open StrLaws Builtin Builtin.Str in
theorem cut_joined {x y : Str} {i c : Nat} : ∀ {ps : List Str} {a f : Nat} {cuts : List Nat}, ps ≠ [] → Marks y i c ps → a ≤ x.length → x.cps.toList.drop a = (Str.join y ps).cps.toList →
    ChainG x y x.length a cuts f → (∀ k, f ≤ k → ¬ At x y x.length k) → partsFrom x y.length a cuts = ps
  | [], _, _, _, h, _, _, _, _, _ => absurd rfl h
  | [p], a, f, cuts, _, hM, ha, hx, hc, hf => by
    have hlen : x.length = x.cps.toList.length := by simp [Str.length]
    have hi : i < y.cps.toList.length := (List.getElem?_eq_some_iff.mp hM.here).1
    have hyl : y.length = y.cps.toList.length := by simp [Str.length]
    have no : ∀ k, a ≤ k → ¬ At x y x.length k := by
      intro k hk hA
      obtain ⟨h1, h2⟩ := (at_iff x y k).mp hA
      have h3 : (x.cps.toList.drop k)[i]? = some c := by
        have := hM.here
        rw [← h2, List.getElem?_take_of_lt (by omega)] at this
        exact this
      rw [List.getElem?_drop] at h3
      have h4 : x.cps.toList[k + i]? = (x.cps.toList.drop a)[k + i - a]? := by rw [List.getElem?_drop]; congr 1; omega
      rw [h4, hx] at h3
      exact hM.free p (.head _) (List.mem_of_getElem? h3)
    cases cuts with
    | cons d r => exact absurd hc.2.1 (no d hc.1)
    | nil =>
      show [strSub x a x.length] = [p]
      congr 1
      apply Str.ext'
      apply Array.toList_inj.mp
      rw [strSub_toList, hx]
      have hl : (x.cps.toList.drop a).length = x.length - a := by rw [List.length_drop]; omega
      rw [← hl, hx]
      exact List.take_of_length_le (Nat.le_refl _)
  | p :: q :: r, a, f, cuts, _, hM, ha, hx, hc, hf => by
    rw [join_cps] at hx
    have hlen : x.length = x.cps.toList.length := by simp [Str.length]
    have hi : i < y.cps.toList.length := (List.getElem?_eq_some_iff.mp hM.here).1
    have hyl : y.length = y.cps.toList.length := by simp [Str.length]
    have hpl : p.length = p.cps.toList.length := by simp [Str.length]
    have hdl : x.length - a = p.length + (y.length + (Str.join y (q :: r)).cps.toList.length) := by
      have := congrArg List.length hx
      rw [List.length_drop, List.length_append, List.length_append] at this
      omega
    have hAt : At x y x.length (a + p.length) := by
      refine (at_iff x y _).mpr ⟨by omega, ?_⟩
      rw [← List.drop_drop, hx, List.drop_left' (by omega), List.take_left' (by omega)]
    have no : ∀ k, a ≤ k → k < a + p.length → ¬ At x y x.length k := by
      intro k hk hk2 hA
      obtain ⟨h1, h2⟩ := (at_iff x y k).mp hA
      have h3 : (x.cps.toList.drop k)[i]? = some c := by
        have := hM.here
        rw [← h2, List.getElem?_take_of_lt (by omega)] at this
        exact this
      rw [List.getElem?_drop] at h3
      have h4 : x.cps.toList[k + i]? = (x.cps.toList.drop a)[k + i - a]? := by rw [List.getElem?_drop]; congr 1; omega
      rw [h4, hx] at h3
      by_cases hlt : k + i - a < p.cps.toList.length
      · rw [List.getElem?_append_left hlt] at h3
        exact hM.free p (.head _) (List.mem_of_getElem? h3)
      · rw [List.getElem?_append_right (by omega), List.getElem?_append_left (by omega)] at h3
        exact hM.first _ (by omega) h3
    cases cuts with
    | nil =>
      have e : f = a := hc
      exact absurd hAt (hf _ (by omega))
    | cons d rr =>
      have hd : d = a + p.length := by
        rcases Nat.lt_trichotomy d (a + p.length) with h | h | h
        · exact absurd hc.2.1 (no d hc.1 h)
        · exact h
        · exact absurd hAt (hc.2.2.1 _ (by omega) h)
      subst hd
      show strSub x a (a + p.length) :: partsFrom x y.length (a + p.length + y.length) rr = _
      rw [cut_joined (by simp) ⟨hM.here, hM.first, fun p' hp' => hM.free p' (.tail _ hp')⟩ (by omega) ?_ hc.2.2.2 hf]
      · congr 1
        apply Str.ext'
        apply Array.toList_inj.mp
        rw [strSub_toList, hx, List.take_left' (by omega)]
      · rw [Nat.add_assoc, ← List.drop_drop, hx, ← List.append_assoc, List.drop_left' (by rw [List.length_append]; omega)]

open StrLaws Builtin Builtin.Str in
theorem split_join {y : Str} {i c : Nat} {ps : List Str} (hne : ps ≠ []) (hM : Marks y i c ps) (hk : Builtin.Str.strKind y = 1) : Txt.split (Txt.join y ps) y = ps := by
  have hi : i < y.cps.toList.length := (List.getElem?_eq_some_iff.mp hM.here).1
  have hyl : y.length = y.cps.toList.length := by simp [Str.length]
  have hj : Txt.join y ps = Str.join y ps := by rw [Txt.join, glued_eq_join]
  rw [hj]
  obtain ⟨f, hG, hf⟩ := occ_tight (Str.join y ps) y (by omega)
  have key := cut_joined (x := Str.join y ps) hne hM (Nat.zero_le _) (by rw [List.drop_zero]) hG hf
  unfold Txt.split
  by_cases h1 : (decide ((Str.join y ps).length < y.length) || decide (Builtin.Str.strKind (Str.join y ps) < Builtin.Str.strKind y)) = true
  · rw [if_pos h1]
    rw [Bool.or_eq_true, decide_eq_true_eq, decide_eq_true_eq, hk] at h1
    have h3 : ¬ Builtin.Str.strKind (Str.join y ps) < 1 := by
      unfold Builtin.Str.strKind
      split
      · omega
      · split <;> omega
    have h2 : (Str.join y ps).length < y.length := by rcases h1 with h | h; exact h; exact absurd h h3
    match ps, hne with
    | [p], _ => rfl
    | p :: q :: r, _ =>
      exfalso
      have := congrArg List.length (join_cps y p q r)
      rw [List.length_append, List.length_append] at this
      simp only [Str.length, Array.length_toList] at this h2
      omega
  · rw [if_neg h1]
    by_cases h2 : (occurrences (Str.join y ps) y 0 (Str.join y ps).length ((Str.join y ps).length + 1)).isEmpty = true
    · rw [if_pos h2]
      rw [List.isEmpty_iff] at h2
      rw [h2] at key
      have e : partsFrom (Str.join y ps) y.length 0 [] = [strSub (Str.join y ps) 0 (Str.join y ps).length] := rfl
      rw [e, sub_whole] at key
      exact key
    · rw [if_neg h2, partsBetween_eq]
      exact key

/-! the parts' signs -/
theorem digits_free {v : Int} (h0 : 0 ≤ v) {c : Nat} (hc : c ∈ (Str.ofString (toString v)).cps.toList) : 48 ≤ c ∧ c ≤ 57 := by
  obtain ⟨m, rfl⟩ := Int.eq_ofNat_of_zero_le h0
  rw [KIN.signs_num] at hc
  obtain ⟨ch, hch, e⟩ := List.mem_map.mp hc
  have r := digit_range (Nat.isDigit_of_mem_toDigits (by decide) (by decide) hch)
  rw [← e]
  exact r
theorem tab_names : ∀ p ∈ hdTab, ∀ c ∈ p.2.cps.toList, 97 ≤ c ∧ c ≤ 122 := by decide +kernel
theorem tab_len : ∀ p ∈ hdTab, p.2.length ≤ 6 := by decide +kernel
def tail1 (v : Int) (nm : Str) : Str := nm ++ (if v = 1 then Str.ofString "" else Str.ofString "s")
theorem txt_join (v : Int) (nm : Str) : txt v nm = Txt.join (Str.ofString " ") [Str.ofString (toString v), tail1 v nm] := by
  rw [Txt.join, StrLaws.glued_eq_join]
  show Str.empty ++ _ ++ _ ++ nm ++ _ = _ ++ _ ++ (nm ++ _)
  simp only [Str.empty_append, Str.append_assoc]
theorem tail_signs {v off : Int} {nm : Str} (h : (off, nm) ∈ hdTab) {c : Nat} (hc : c ∈ (tail1 v nm).cps.toList) : 97 ≤ c ∧ c ≤ 122 := by
  unfold tail1 at hc
  rw [Str.cps_append, Array.toList_append] at hc
  rcases List.mem_append.mp hc with h1 | h1
  · exact tab_names _ h c h1
  · have : ∀ b : Bool, ∀ c ∈ (if b = true then Str.ofString "" else Str.ofString "s").cps.toList, 97 ≤ c ∧ c ≤ 122 := by decide +kernel
    exact this (decide (v = 1)) c (by simpa using h1)
theorem split_txt {v off : Int} {nm : Str} (h0 : 0 ≤ v) (h : (off, nm) ∈ hdTab) : Txt.split (txt v nm) (Str.ofString " ") = [Str.ofString (toString v), tail1 v nm] := by
  rw [txt_join]
  refine split_join (i := 0) (c := 32) (by simp) ⟨by decide +kernel, (fun j hj => absurd hj (Nat.not_lt_zero _)), ?_⟩ (by decide +kernel)
  intro p hp hc
  rcases List.mem_cons.mp hp with rfl | hp
  · have := digits_free h0 hc; omega
  · rw [List.mem_singleton.mp hp] at hc
    have := tail_signs h hc; omega
theorem txt_signs {v off : Int} {nm : Str} (h0 : 0 ≤ v) (h : (off, nm) ∈ hdTab) {c : Nat} (hc : c ∈ (txt v nm).cps.toList) : c = 32 ∨ (48 ≤ c ∧ c ≤ 57) ∨ (97 ≤ c ∧ c ≤ 122) := by
  have e : txt v nm = Str.ofString (toString v) ++ Str.ofString " " ++ tail1 v nm := by rw [txt_join, Txt.join, StrLaws.glued_eq_join]; rfl
  rw [e, Str.cps_append, Str.cps_append, Array.toList_append, Array.toList_append] at hc
  rcases List.mem_append.mp hc with h1 | h1
  · rcases List.mem_append.mp h1 with h2 | h2
    · exact .inr (.inl (digits_free h0 h2))
    · left
      have : ∀ c ∈ (Str.ofString " ").cps.toList, c = 32 := by decide +kernel
      exact this c h2
  · exact .inr (.inr (tail_signs h h1))
theorem ok_mem : ∀ {l : List (Int × Int × Str)} {m : Option Int}, OkP m l → ∀ q ∈ l, (q.2.1, q.2.2) ∈ hdTab ∧ 0 ≤ q.1 ∧ q.1 < 100000000
  | [], _, _, _, h => nomatch h
  | (v, off, nm) :: r, _, h, q, hq => by
    rcases List.mem_cons.mp hq with rfl | hq
    · exact ⟨h.1, h.2.2.1, h.2.2.2.1⟩
    · exact ok_mem h.2.2.2.2.2 q hq
structure Between (g : Str) : Prop where
  is : g = Str.ofString ", " ∨ g = Str.ofString " + " ∨ g = Str.ofString "/"
theorem split_hd {n : Int} {g : Str} (h0 : 0 ≤ n) (h1 : n < 100000000) (hg : Between g) : Txt.split (hdText n g) g = (PL n).map tx := by
  rw [hdText_eq]
  have hne : (PL n).map tx ≠ [] := by simpa using PL_ne n
  have fr : ∀ c : Nat, c ≠ 32 → ¬ (48 ≤ c ∧ c ≤ 57) → ¬ (97 ≤ c ∧ c ≤ 122) → ∀ p ∈ (PL n).map tx, c ∉ p.cps.toList := by
    intro c a1 a2 a3 p hp hc
    obtain ⟨q, hq, rfl⟩ := List.mem_map.mp hp
    obtain ⟨b1, b2, _⟩ := ok_mem (ok_PL h0 h1) q hq
    rcases txt_signs b2 b1 hc with h | h | h
    · exact a1 h
    · exact a2 h
    · exact a3 h
  rcases hg.is with rfl | rfl | rfl
  · exact split_join (i := 0) (c := 44) hne ⟨by decide +kernel, (fun j hj => absurd hj (Nat.not_lt_zero _)), fr 44 (by decide) (by decide) (by decide)⟩ (by decide +kernel)
  · exact split_join (i := 1) (c := 43) hne ⟨by decide +kernel, (by decide +kernel), fr 43 (by decide) (by decide) (by decide)⟩ (by decide +kernel)
  · exact split_join (i := 0) (c := 47) hne ⟨by decide +kernel, (fun j hj => absurd hj (Nat.not_lt_zero _)), fr 47 (by decide) (by decide) (by decide)⟩ (by decide +kernel)
theorem one_text {v : Int} (h0 : 0 ≤ v) (h1 : v < 100000000) (h : Str.ofString (toString v) = Str.ofString "1") : v = 1 := by
  have e := KIN.num_reads h0 (by omega : v < 10 ^ 10)
  rw [h] at e
  have e2 : PySem.intText? (Str.ofString "1") = some 1 := by decide +kernel
  rw [e2] at e
  exact (Option.some.inj e).symm
theorem txt_len {v : Int} {nm : Str} (h0 : 0 ≤ v) (h1 : v < 100000000) (hn : nm.length ≤ 6) : (txt v nm).length ≤ 30 := by
  have h2 : (toString v).length ≤ 8 + 1 := int_text_length_le10 (by decide) (by omega)
  have h3 : (Str.ofString (toString v)).length = (toString v).length := PySem.ofString_length _
  have h4 : (Str.ofString " ").length = 1 := by decide +kernel
  have h5 : (if v = 1 then Str.ofString "" else Str.ofString "s").length ≤ 1 := by split <;> decide +kernel
  have h6 : Str.empty.length = 0 := by decide +kernel
  unfold txt
  simp only [Str.length_append]
  omega
end Mine
namespace Mine
theorem hdText_len {n : Int} {g : Str} (h0 : 0 ≤ n) (h1 : n < 100000000) (hg : g.length ≤ 8) : (hdText n g).length ≤ 300 := by
  rw [hdText_eq, Txt.join, StrLaws.glued_eq_join]
  have h2 := StrLaws.join_length_le g ((PL n).map tx)
  have h3 : ∀ p ∈ (PL n).map tx, p.length ≤ 30 := by
    intro p hp
    obtain ⟨q, hq, rfl⟩ := List.mem_map.mp hp
    obtain ⟨b1, b2, b3⟩ := ok_mem (ok_PL h0 h1) q hq
    exact txt_len b2 b3 (tab_len _ b1)
  have h4 := sum_len_le h3
  have h5 := PL_len n
  simp only [List.length_map] at h2 h4
  have h6 : (PL n).length * g.length ≤ 7 * 8 := Nat.mul_le_mul h5 hg
  omega
theorem between_len {g : Str} (h : Between g) : g.length ≤ 3 ∧ (g.length == 0) = false := by
  rcases h.is with rfl | rfl | rfl <;> decide +kernel
theorem split_K {prog : Program} {w : World} {A : Around} {E : Value → Shared → Prop} {s : Shared} {Q : Value → Shared → Prop} {h₀ : Heap} {L : Addr} {m : Str → Option Value} {news : List (Addr × Obj)} {x y : Str} {t u : Tok} {ys : List Str}
    (F : Fr h₀ L s.heap m) (N : News h₀ L s.heap news) (hy : (y.length == 0) = false) (hx : x.length + 2 ≤ 1000) (he : Txt.split x y = ys)
    (h : ∀ D vs h' k, StrsAre vs ys → Fr h₀ L h' m → News h₀ L h' ((D, listOf vs.toArray 0) :: news) → (∀ p ∈ news, p.1 < D) → Q (.ref D) { s with heap := h', toks := k }) :
    wpAny (model prog w) A (call (.builtin "str.split") [.str x t, .str y u]) Q E s :=
  KSpl.split1 F N hy (fun D l h' k e a F' N' l1 => h D _ h' k (by rw [e, he] at a; exact a) F' N' l1) (by rw [PySem.sizeLine_eq]; omega)
end Mine
namespace Mine
theorem tail_one (nm : Str) : tail1 1 nm = nm := by
  show nm ++ Str.ofString "" = nm
  exact Str.append_empty nm
theorem tail_many {v : Int} (h : v ≠ 1) (nm : Str) : tail1 v nm = nm ++ Str.ofString "s" := by
  unfold tail1; rw [if_neg h]
end Mine
namespace Mine
theorem slice_word {off : Int} {nm : Str} (h : (off, nm) ∈ hdTab) : Txt.slice (nm ++ Str.ofString "s") none (some (-1)) = nm := by
  simp only [hdTab, List.mem_cons, List.not_mem_nil, or_false, Prod.mk.injEq] at h
  rcases h with ⟨_, rfl⟩ | ⟨_, rfl⟩ | ⟨_, rfl⟩ | ⟨_, rfl⟩ | ⟨_, rfl⟩ | ⟨_, rfl⟩ | ⟨_, rfl⟩ <;> decide +kernel
theorem slice_last {off : Int} {nm : Str} (h : (off, nm) ∈ hdTab) : Txt.slice (nm ++ Str.ofString "s") (some (-1)) none = Str.ofString "s" := by
  simp only [hdTab, List.mem_cons, List.not_mem_nil, or_false, Prod.mk.injEq] at h
  rcases h with ⟨_, rfl⟩ | ⟨_, rfl⟩ | ⟨_, rfl⟩ | ⟨_, rfl⟩ | ⟨_, rfl⟩ | ⟨_, rfl⟩ | ⟨_, rfl⟩ <;> decide +kernel
section
variable {prog : Program} {w : World} {A : Around} {E : Value → Shared → Prop} {s : Shared} {Q : Value → Shared → Prop} {h₀ : Heap} {L : Addr} {m : Str → Option Value} {news : List (Addr × Obj)} {x y : Str} {t : Tok} {value slice : Expr}
theorem slice_ns_eq {j : Int} {uj : Tok} (hF : Fr h₀ L s.heap m) (hN : News h₀ L s.heap news) (he : Txt.slice x none (some j) = y) (hx : x.length ≤ 1000) (h : ∀ h' t' k, Fr h₀ L h' m → News h₀ L h' news → Q (.str y t') { s with heap := h', toks := k })
    (hs : subscripted slice false (.str x t) (.ref s.heap.objs.size) = operate [.ref s.heap.objs.size, .str x t] (getItem (.str x t) (.ref s.heap.objs.size)) := by with_unfolding_all rfl)
    (ht : ∀ r, letTemporaryGo value (.str x t) r = pure () := by intro _; with_unfolding_all rfl) :
    wpAny (model prog w) A (subscriptTail value slice (.str x t) (.ref s.heap.objs.size)) Q E { s with heap := s.heap.push { cls := .type "slice", data := .fields #[.none, .int j uj, .none] } } :=
  slice_strN_ns hF hN (fun h' t' k a b => he ▸ h h' t' k a b) hs ht (by rw [PySem.sizeLine_eq]; omega)
theorem slice_sn_eq {i : Int} {ui : Tok} (hF : Fr h₀ L s.heap m) (hN : News h₀ L s.heap news) (he : Txt.slice x (some i) none = y) (hx : x.length ≤ 1000) (h : ∀ h' t' k, Fr h₀ L h' m → News h₀ L h' news → Q (.str y t') { s with heap := h', toks := k })
    (hs : subscripted slice false (.str x t) (.ref s.heap.objs.size) = operate [.ref s.heap.objs.size, .str x t] (getItem (.str x t) (.ref s.heap.objs.size)) := by with_unfolding_all rfl)
    (ht : ∀ r, letTemporaryGo value (.str x t) r = pure () := by intro _; with_unfolding_all rfl) :
    wpAny (model prog w) A (subscriptTail value slice (.str x t) (.ref s.heap.objs.size)) Q E { s with heap := s.heap.push { cls := .type "slice", data := .fields #[.int i ui, .none, .none] } } :=
  slice_strN_sn hF hN (fun h' t' k a b => he ▸ h h' t' k a b) hs ht (by rw [PySem.sizeLine_eq]; omega)
end
theorem plural_len {off : Int} {nm : Str} (h : (off, nm) ∈ hdTab) : (nm ++ Str.ofString "s").length ≤ 1000 := by
  have h1 : nm.length ≤ 6 := tab_len _ h
  have h2 : (Str.ofString "s").length = 1 := by decide +kernel
  rw [Str.length_append]
  omega
end Mine

namespace Mine
theorem tab_off : ∀ p ∈ hdTab, p.1 ≤ 31536000 := by decide +kernel
end Mine
end
section
open PySem PySem.W PyProof.Rows PyProof.Rows.LCg
namespace Mine
/-- a row of the table: where it stands, its text, its int -/
structure Row where
  at_ : Addr
  text : Str
  tokT : Tok
  num : Int
  tokN : Tok
abbrev Row.obj (q : Row) : Obj := { cls := .type "tuple", data := .seq #[.str q.text q.tokT, .int q.num q.tokN] }
def picked (word : Str) (ls : List Row) : List Value := (ls.filter fun q => q.text == word).map fun q => Value.int q.num q.tokN
section
variable {prog : Program} {w : World} {A : Around} {E : Value → Shared → Prop} {s : Shared} {h₀ : Heap} {L : Addr} {m : Str → Option Value} {env : Env}

/-- what the loop of the comprehension keeps -/
structure Mid (s₀ : Heap) (I ax D C : Addr) (ls : List Row) (word : Str) (i : Nat) (h : Heap) : Prop where
  it : h.IsListIter I ax i
  src : h.IsList ax (ls.map fun q => Value.ref q.at_).toArray
  acc : h.get? D = some (lst (picked word (ls.take i)))
  ns : ∃ m', h.Ns C m'
  old : ∀ b o, b ≠ I → b ≠ C → b ≠ D → s₀.get? b = some o → h.get? b = some o

theorem picked_len (word : Str) (ls : List Row) : (picked word ls).length ≤ ls.length := by
  unfold picked
  rw [List.length_map]
  exact List.length_filter_le _ _

theorem name_eq_word {a wd : Str} {pa pw pc : Pos} {cw : Addr} {ow : Obj} {m' : Str → Option Value} {x word : Str} {tx tw : Tok} {cenv : Env} {Q : Bool → Shared → Prop} (hk : cenv.scope.kind = .function)
    (ha : cenv.kindOf a = some .local) (hw : cenv.kindOf wd = some .cell) (hcw : cenv.cells.lookup wd = some cw) (hda : (a == ("__debug__" : Str)) = false) (hdw : (wd == ("__debug__" : Str)) = false)
    (hn : s.heap.Ns cenv.locals m') (hx : m' a = some (.str x tx)) (hg : s.heap.get? cw = some ow) (hd : ow.data = .cell (some (.str word tw)))
    (h : Q (x == word) s) :
    wpAny (model prog w) A (isTrue (.Compare (.Name a pa) [.Eq] [.Name wd pw] pc) cenv (eval (.Compare (.Name a pa) [.Eq] [.Name wd pw] pc) cenv)) Q E s := by
  refine wpAny_isTrue_Compare1 (wpAny_Name (wpAny_loadName_local hk ha hn hx (wpAny_Name (wpAny_loadName_cell hk hw hcw ⟨ow, hg, hd⟩ ?_) hdw)) hda)
  exact PyProof.Rows.eq_str (wpAny_truthy_bool h)

theorem picked_snoc {word : Str} {ls : List Row} {i : Nat} {q : Row} (hq : ls[i]? = some q) :
    picked word (ls.take (i + 1)) = if (q.text == word) = true then picked word (ls.take i) ++ [.int q.num q.tokN] else picked word (ls.take i) := by
  have hs : ls.take (i + 1) = ls.take i ++ [q] := by simp [List.take_add_one, hq]
  rw [hs]
  unfold picked
  rw [List.filter_append, List.map_append]
  by_cases h : (q.text == word) = true
  · rw [if_pos h]; simp [h]
  · rw [if_neg h]; simp [h]

theorem assign_pairs {iter : Expr} {a b y wd : Str} {pa pb tp pe pn pw pc py pos spos : Pos} {kk : Nat} {scope : Scope} {cl : List (Str × Addr)} {Q : Flow → Shared → Prop} (F₀ : Fr h₀ L s.heap m) (hLe : env.locals = L) (hh : A.handled = none)
    (hsw : swapsWith (.ListComp (.Name b pe) [⟨.Tuple [.Name a pa, .Name b pb] kk tp, iter, [.Compare (.Name a pn) [.Eq] [.Name wd pw] pc], 0⟩] scope pos) (some (.Name y py)) spos.line env = pure true)
    (hclos : closureFor scope env = pure cl) (hcell : ∀ z ∈ scope.names, z.2 ≠ .cell) (hkind : scope.kind = .function)
    (hnames : ∀ z ∈ scope.names, z.2 = .local → scope.names.lookup z.1 = some .local) (hxa : scope.names.lookup a = some .local) (hxb : scope.names.lookup b = some .local) (hab : ¬ a = b)
    (hkw : ∀ C, (compEnvC scope cl C env).kindOf wd = some .cell) {cw : Addr} (hcw : cl.lookup wd = some cw)
    (hda : (a == ("__debug__" : Str)) = false) (hdb : (b == ("__debug__" : Str)) = false) (hdw : (wd == ("__debug__" : Str)) = false)
    (hy : env.kindOf y = some .local) (hp : (env.scope.kind == .class || (env.scope.kind == .module && env.locals != env.globals)) = false)
    (h : wpAny (model prog w) A (eval iter env) (fun xv s₁ => STOP (∃ ax ls k news word tw ow, xv = .ref ax ∧ Fr h₀ L s₁.heap m ∧ News h₀ L s₁.heap news ∧
      (ax, listOf (ls.map fun q => Value.ref q.at_).toArray k) ∈ news ∧ ls.length ≤ 1000 ∧ (∀ q ∈ ls, (q.at_, Row.obj q) ∈ news) ∧ (cw, ow) ∈ news ∧ ow.data = .cell (some (.str word tw)) ∧
      (∀ D h' tk, Fr h₀ L h' (fun z => if z = y then some (.ref D) else m z) → News h₀ L h' ((D, listOf (picked word ls).toArray (picked word ls).length) :: news) → (∀ q ∈ news, q.1 < D) → Q .next { s₁ with heap := h', toks := tk }))) E s)
    (hs : ∀ x, foldedSetIterable iter env x = pure x := by intro _; rfl) :
    wpAny (model prog w) A (exec (.Assign [.Name y py] (.ListComp (.Name b pe) [⟨.Tuple [.Name a pa, .Name b pb] kk tp, iter, [.Compare (.Name a pn) [.Eq] [.Name wd pw] pc], 0⟩] scope pos) spos) env) Q E s := by
  subst hLe
  rw [exec_Assign_Name_used _ _ _ _ hsw]
  refine wpAny_bind (wpAny_standAt (wpAny_bind ?_))
  show wpAny _ A (do let _ ← comprehension (.ListComp (.Name b pe) [⟨.Tuple [.Name a pa, .Name b pb] kk tp, iter, [.Compare (.Name a pn) [.Eq] [.Name wd pw] pc], 0⟩] scope pos) scope env _ (newList []) false (eval iter env) (some (assign (.Name y py) env))) _ _ s
  refine wpAny_bind (wpAny_mono (wpAny_comprehension_free (use := some (assign (.Name y py) env)) (Q := fun _ s' => Q .next s') rfl hs hclos hkind hnames
    (wpAny_mono h (fun xv s₁ h₁ => ?_) fun _ _ e => e)) (fun _ s' hq => wpAny_pure (wpAny_pure hq)) fun _ _ e => e)
  obtain ⟨ax, ls, k, news, word, tw, ow, rfl, F, N, hax, hlen, hrows, hcell', how, hQ⟩ := STOP.out h₁
  have hl : s₁.heap.IsList ax (ls.map fun q => Value.ref q.at_).toArray := ⟨_, (N _ hax).1, rfl, k, rfl⟩
  have hlt : ax < s₁.heap.objs.size := Heap.lt_size (N _ hax).1
  refine wpAny_pyIter_list hl ?_
  -- the list that grows, the block's own names
  refine wpAny_newObj_type (wpAny_newFunctionEnv hcell (by intro z hz; simp at hz) (fun h₁ hns₁ hsb₁ => ?_) hkind)
  dsimp only at hns₁ hsb₁ ⊢
  simp only [Heap.size_push] at hns₁ hsb₁ ⊢
  generalize hI : s₁.heap.objs.size = I at *
  have low : ∀ c o, s₁.heap.get? c = some o → @LT.lt Nat _ c I := fun c o e => hI ▸ Heap.lt_size e
  have hL : @LT.lt Nat _ env.locals I := hI ▸ F.ns.lt
  have up0 : ∀ c o, s₁.heap.get? c = some o → h₁.get? c = some o := fun c o e => hsb₁.extBut c o (neN (by have := low c o e; omega)) (Heap.get?_push_of_some _ (Heap.get?_push_of_some _ (Heap.get?_push_of_some _ e)))
  have hit0 : h₁.IsListIter I ax 0 := by
    refine ⟨{ cls := .type "list_iterator", data := .fields #[.ref ax, .int 0 0] }, hsb₁.extBut I _ (neN (by omega)) (Heap.get?_push_of_some _ (Heap.get?_push_of_some _ ?_)), rfl, rfl⟩
    rw [← hI]; exact Heap.get?_push_size _ rfl
  have hac0 : h₁.get? (I + 1) = some (lst []) := by
    refine hsb₁.extBut (I + 1) _ (neN (by omega)) (Heap.get?_push_of_some _ ?_)
    have e : (s₁.heap.push { cls := .type "list_iterator", data := .fields #[.ref ax, .int 0 0] }).objs.size = I + 1 := by rw [Heap.size_push, hI]
    rw [← e]; exact Heap.get?_push_size _ rfl
  have hlt' : @LT.lt Nat _ ax I := hlt
  have W := Walks.list (prog := prog) (w := w) hh I ax (neN (by omega)) (ls.map fun q => Value.ref q.at_).toArray
  have hn : (ls.map fun q => Value.ref q.at_).toArray.size = ls.length := by simp
  rw [hn] at W
  have mid0 : Mid s₁.heap I ax (I + 1) (I + 2) ls word 0 h₁ := ⟨hit0, hl.at fun o e => up0 _ o e, by rw [List.take_zero]; exact hac0, ⟨_, hns₁⟩, fun c o _ _ _ e => up0 c o e⟩
  have loop : ∀ s₃ : Shared, s₃ = { s₁ with heap := h₁, toks := s₁.toks + ([] : List (Str × Value)).length } →
      codeAny (model prog w) A (.compLoop (.ListComp (.Name b pe) [⟨.Tuple [.Name a pa, .Name b pb] kk tp, iter, [.Compare (.Name a pn) [.Eq] [.Name wd pw] pc], 0⟩] scope pos) 0 (.ref I) (.ref (I + 1)) (compEnvC scope cl (I + 2) env))
        (compPost (model prog w) A E (some (assign (.Name y py) env)) (fun _ s' => Q .next s') (.ref (I + 1)) (I + 2)) s₃ := by
    rintro s₃ rfl
    refine kct_loop (fun c s' => ∃ h' tk i, s' = { s₁ with heap := h', toks := tk } ∧ i ≤ ls.length ∧ c = ls.length + 1 - i ∧ Mid s₁.heap I ax (I + 1) (I + 2) ls word i h') ?_ (ls.length + 1)
      ⟨h₁, _, 0, rfl, Nat.zero_le _, rfl, mid0⟩
    rintro c s' ⟨h', tk, i, rfl, hi, rfl, md⟩
    obtain ⟨m', hm'⟩ := md.ns
    by_cases hin : i < ls.length
    · refine W.item i _ _ _ hin ⟨md.it, md.src⟩ fun v h₂ tk₂ hP hst hk₂ => ?_
      obtain ⟨q, hq⟩ : ∃ q, ls[i]? = some q := ⟨ls[i], List.getElem?_eq_getElem hin⟩
      have hv : v = .ref q.at_ := by
        have e : (ls.map fun q => Value.ref q.at_)[i]? = some (Value.ref q.at_) := by rw [List.getElem?_map, hq]; rfl
        have e2 : (ls.map fun q => Value.ref q.at_)[i]? = some v := by simpa using hP
        rw [e] at e2; exact (Option.some.inj e2).symm
      subst hv
      have hqm := N _ (hrows q (List.mem_of_getElem? hq))
      have up2 : ∀ c o, s₁.heap.get? c = some o → h₂.get? c = some o := fun c o e => by
        have hc := low c o e
        exact hk₂ c o (by simpa using Nat.ne_of_lt hc) (md.old c o (neN (by omega)) (neN (by omega)) (neN (by omega)) e)
      refine letGo_listiter hst.1 ?_
      have hT : h₂.IsTuple q.at_ #[.str q.text q.tokT, .int q.num q.tokN] := ⟨_, up2 _ _ hqm.1, rfl, _, rfl⟩
      refine kcp_assign (env := compEnvC scope cl (I + 2) env) hh hT (lookup_relabel_local hxa) (lookup_relabel_local hxb) (by simp [compEnvC, relabel, hkind]) (hm'.at' fun o e => hk₂ _ o (by simpa using neN (by omega : I + 2 ≠ I)) e) fun h₃ tk₃ hn₃ hk₃ => ?_
      have up3 : ∀ c o, s₁.heap.get? c = some o → h₃.get? c = some o := fun c o e => hk₃ c o (ktu_ne 2 (low c o e)) (up2 c o e)
      have it3 : h₃.IsListIter I ax (i + 1) := hst.1.at fun o e => hk₃ I o (neN (by show I ≠ I + 2; omega)) e
      have ac3 : h₃.get? (I + 1) = some (lst (picked word (ls.take i))) := hk₃ _ _ (neN (by show I + 1 ≠ I + 2; omega)) (hk₂ _ _ (by simpa using neN (by omega : I + 1 ≠ I)) md.acc)
      have sr3 : h₃.IsList ax (ls.map fun q => Value.ref q.at_).toArray := hl.at fun o e => up3 _ o e
      refine name_eq_word (cenv := compEnvC scope cl (I + 2) env) hkind (lookup_relabel_local hxa) (hkw _) hcw hda hdw hn₃ (x := q.text) (tx := q.tokT) (by simp [hab]) (up3 _ _ (N _ hcell').1) how ?_
      have hps := picked_snoc (word := word) hq
      by_cases hw : (q.text == word) = true
      · rw [if_pos hw]
        rw [if_pos hw] at hps
        refine wpAny_Name (wpAny_loadName_local hkind (lookup_relabel_local hxb) hn₃ (v := .int q.num q.tokN) (by simp) ?_) hdb
        have hsz : (picked word (ls.take i)).toArray.size ≤ sizeLine := by
          have := picked_len word (ls.take i)
          rw [List.length_take] at this
          rw [List.size_toArray, PySem.sizeLine_eq]; omega
        refine append_at (hsz := hsz) ac3 fun h₄ hs₄ hD₄ => ?_
        refine ⟨ls.length + 1 - (i + 1), by omega, h₄, _, i + 1, rfl, hin, rfl, ?_⟩
        have z : ∀ c o, c ≠ I + 1 → h₃.get? c = some o → h₄.get? c = some o := fun c o hc e => hs₄.extBut c o hc e
        refine ⟨it3.at fun o e => z I o (neN (by omega)) e, sr3.at fun o e => z ax o (neN (by omega)) e, ?_, ⟨_, hn₃.at' fun o e => z _ o (neN (by show I + 2 ≠ I + 1; omega)) e⟩, fun c o h1 h2 h3 e => z c o h3 (up3 c o e)⟩
        rw [hps]
        exact hD₄.trans (congrArg some (lst_snoc _ _))
      · rw [if_neg hw]
        rw [if_neg hw] at hps
        refine ⟨ls.length + 1 - (i + 1), by omega, h₃, _, i + 1, rfl, hin, rfl, ?_⟩
        exact ⟨it3, sr3, by rw [hps]; exact ac3, ⟨_, hn₃⟩, fun c o _ _ _ e => up3 c o e⟩
    · have hie : i = ls.length := by omega
      subst hie
      refine W.done _ _ _ ⟨md.it, md.src⟩ fun h₂ tk₂ hk₂ => ?_
      have up2 : ∀ c o, s₁.heap.get? c = some o → h₂.get? c = some o := fun c o e => by
        have hc := low c o e
        exact hk₂ c o (by simpa using Nat.ne_of_lt hc) (md.old c o (neN (by omega)) (neN (by omega)) (neN (by omega)) e)
      have F₂ : Fr h₀ env.locals h₂ m := F.keeps up2
      have ac2 : h₂.get? (I + 1) = some (lst (picked word ls)) := by
        have e := hk₂ _ _ (by simpa using neN (by omega : I + 1 ≠ I)) md.acc
        rw [List.take_length] at e; exact e
      have new0 : ∀ j, h₀.get? (I + j) = none := fun j => by
        cases e : h₀.get? (I + j) with
        | none => rfl
        | some o => have := low _ o (F.keep _ o e); omega
      refine wpAny_assign_Name (wpAny_storeName_local hy F₂.ns (fun h₃ hn₃ hs₃ => ?_) hp)
      refine ⟨m', (hm'.at' fun o e => hk₂ _ o (by simpa using neN (by omega : I + 2 ≠ I)) e).sameBut hs₃ (neN (by omega)), fun h₄ hs₄ => ?_⟩
      refine hQ (I + 1) h₄ _ ((F₂.set hn₃ hs₃).change hs₄ (neN (by omega)) (new0 2)) (fun p hp => ?_) (fun p hp => by have := low _ _ (N p hp).1; exact ltN (by omega))
      rcases List.mem_cons.mp hp with rfl | hp
      · exact ⟨hs₄.extBut _ _ (neN (by omega)) (hs₃.extBut _ _ (neN (by omega)) ac2), neN (by omega), new0 1⟩
      · have z := N p hp
        have zl := low _ _ z.1
        exact ⟨hs₄.extBut _ _ (neN (by omega)) (hs₃.extBut _ _ z.2.1 (up2 _ _ z.1)), z.2⟩
  exact codeAny_compStart_list (loop _ rfl) (W.self 0 _ _ _ ⟨mid0.it, mid0.src⟩ (loop _ rfl))

theorem spans_end {ax a1 a2 a3 a4 a5 a6 a7 cw : Addr} {t1 t2 t3 t4 t5 t6 t7 u1 u2 u3 u4 u5 u6 u7 : Tok} {k : Nat} {news : List (Addr × Obj)} {word y : Str} {off : Int} {tw : Tok} {ow : Obj} {P : Addr → Heap → Nat → Prop} (hin : (off, word) ∈ hdTab)
    (F : Fr h₀ L s.heap m) (N : News h₀ L s.heap news) (how : ow.data = .cell (some (.str word tw))) (hcell : (cw, ow) ∈ news)
    (hax : (ax, listOf [Value.ref a1, .ref a2, .ref a3, .ref a4, .ref a5, .ref a6, .ref a7].toArray k) ∈ news)
    (h1 : (a1, Row.obj ⟨a1, Str.ofString "year", t1, 31536000, u1⟩) ∈ news) (h2 : (a2, Row.obj ⟨a2, Str.ofString "month", t2, 2592000, u2⟩) ∈ news) (h3 : (a3, Row.obj ⟨a3, Str.ofString "week", t3, 604800, u3⟩) ∈ news)
    (h4 : (a4, Row.obj ⟨a4, Str.ofString "day", t4, 86400, u4⟩) ∈ news) (h5 : (a5, Row.obj ⟨a5, Str.ofString "hour", t5, 3600, u5⟩) ∈ news) (h6 : (a6, Row.obj ⟨a6, Str.ofString "minute", t6, 60, u6⟩) ∈ news)
    (h7 : (a7, Row.obj ⟨a7, Str.ofString "second", t7, 1, u7⟩) ∈ news)
    (hQ : ∀ t D h' tk, Fr h₀ L h' (fun z => if z = y then some (.ref D) else m z) → News h₀ L h' ((D, listOf [Value.int off t].toArray 1) :: news) → (∀ q ∈ news, q.1 < D) → P D h' tk) :
    STOP (∃ ax' ls k news word tw ow, Value.ref ax = .ref ax' ∧ Fr h₀ L s.heap m ∧ News h₀ L s.heap news ∧
      (ax', listOf (ls.map fun q => Value.ref q.at_).toArray k) ∈ news ∧ ls.length ≤ 1000 ∧ (∀ q ∈ ls, (q.at_, Row.obj q) ∈ news) ∧ (cw, ow) ∈ news ∧ ow.data = .cell (some (.str word tw)) ∧
      (∀ D h' tk, Fr h₀ L h' (fun z => if z = y then some (.ref D) else m z) → News h₀ L h' ((D, listOf (picked word ls).toArray (picked word ls).length) :: news) → (∀ q ∈ news, q.1 < D) → P D h' tk)) := by
  refine STOP.mk ⟨ax, [⟨a1, Str.ofString "year", t1, 31536000, u1⟩, ⟨a2, Str.ofString "month", t2, 2592000, u2⟩, ⟨a3, Str.ofString "week", t3, 604800, u3⟩, ⟨a4, Str.ofString "day", t4, 86400, u4⟩, ⟨a5, Str.ofString "hour", t5, 3600, u5⟩, ⟨a6, Str.ofString "minute", t6, 60, u6⟩, ⟨a7, Str.ofString "second", t7, 1, u7⟩],
    k, news, word, tw, ow, rfl, F, N, hax, by simp, ?_, hcell, how, ?_⟩
  · intro q hq
    simp only [List.mem_cons, List.not_mem_nil, or_false] at hq
    rcases hq with rfl | rfl | rfl | rfl | rfl | rfl | rfl <;> assumption
  · intro D h' tk F' N' l
    simp only [hdTab, List.mem_cons, List.not_mem_nil, or_false, Prod.mk.injEq] at hin
    rcases hin with ⟨rfl, rfl⟩ | ⟨rfl, rfl⟩ | ⟨rfl, rfl⟩ | ⟨rfl, rfl⟩ | ⟨rfl, rfl⟩ | ⟨rfl, rfl⟩ | ⟨rfl, rfl⟩ <;> exact hQ _ D h' tk F' N' l
end
end Mine
end
section
open PySem PySem.W PyProof.Rows
set_option maxRecDepth 100000
set_option maxHeartbeats 8000000
namespace Mine
set_option linter.unusedVariables false
abbrev tup2 (off : Int) (t1 : Tok) (nm : Str) (t2 : Tok) : Obj := { cls := .type "tuple", data := .seq #[.int off t1, .str nm t2] }
def HdJ (rest : List (Addr × Obj)) (l : Addr) (g : Str) (tg : Tok) (all : List Str) (r : List Itm) (m : Str → Option Value) (nx : List (Addr × Obj)) : Prop :=
  ∃ (rs : List (Addr × Int × Str)) (vs : List Value) (ps : List Str) (c : Nat) (n : Int) (t : Tok),
    r = rs.map (fun q => Itm.val (.ref q.1)) ∧ (∀ p ∈ (l, listOf vs.toArray c) :: rest, p ∈ nx) ∧ StrsAre vs ps ∧ m (Str.ofString "accum") = some (.ref l) ∧ m (Str.ofString "nseconds") = some (.int n t) ∧ m (Str.ofString "glue") = some (.str g tg) ∧
    0 ≤ n ∧ n < 100000000 ∧ (∀ q ∈ rs, 0 < q.2.1 ∧ q.2.1 ≤ 31536000 ∧ q.2.2.length ≤ 6 ∧ ∃ t1 t2, (q.1, tup2 q.2.1 t1 q.2.2 t2) ∈ rest) ∧ ps ++ parts (rs.map (·.2)) n = all ∧ ps.length + rs.length ≤ 7 ∧ (∀ p ∈ ps, p.length ≤ 30)
theorem hd_start {rest : List (Addr × Obj)} {l a1 a2 a3 a4 a5 a6 a7 : Addr} {g : Str} {tg : Tok} {n : Int} {t : Tok} {m : Str → Option Value} {xs : List Itm} {nx : List (Addr × Obj)}
    (hx : xs = [.val (.ref a1), .val (.ref a2), .val (.ref a3), .val (.ref a4), .val (.ref a5), .val (.ref a6), .val (.ref a7)]) (hnx : nx = (l, listOf ([] : List Value).toArray 0) :: rest)
    (e1 : m (Str.ofString "accum") = some (.ref l)) (e2 : m (Str.ofString "nseconds") = some (.int n t)) (e3 : m (Str.ofString "glue") = some (.str g tg)) (hn0 : 0 ≤ n) (hn1 : n < 100000000)
    (h1 : ∃ t1 t2, (a1, tup2 31536000 t1 (Str.ofString "year") t2) ∈ rest) (h2 : ∃ t1 t2, (a2, tup2 2592000 t1 (Str.ofString "month") t2) ∈ rest) (h3 : ∃ t1 t2, (a3, tup2 604800 t1 (Str.ofString "week") t2) ∈ rest)
    (h4 : ∃ t1 t2, (a4, tup2 86400 t1 (Str.ofString "day") t2) ∈ rest) (h5 : ∃ t1 t2, (a5, tup2 3600 t1 (Str.ofString "hour") t2) ∈ rest) (h6 : ∃ t1 t2, (a6, tup2 60 t1 (Str.ofString "minute") t2) ∈ rest)
    (h7 : ∃ t1 t2, (a7, tup2 1 t1 (Str.ofString "second") t2) ∈ rest) : HdJ rest l g tg (parts hdTab n) xs m nx := by
  refine ⟨[(a1, 31536000, Str.ofString "year"), (a2, 2592000, Str.ofString "month"), (a3, 604800, Str.ofString "week"), (a4, 86400, Str.ofString "day"), (a5, 3600, Str.ofString "hour"), (a6, 60, Str.ofString "minute"), (a7, 1, Str.ofString "second")], [], [], 0, n, t, hx, (fun p hp => hnx ▸ hp), .nil, e1, e2, e3, hn0, hn1, ?_, rfl, Nat.le_refl _, (fun _ h => nomatch h)⟩
  have z : ∀ {a : Addr} {off : Int} {nm : Str} {l : List (Addr × Obj)}, (0 < off ∧ off ≤ 31536000 ∧ nm.length ≤ 6) → (∃ t1 t2, (a, tup2 off t1 nm t2) ∈ l) → 0 < off ∧ off ≤ 31536000 ∧ nm.length ≤ 6 ∧ ∃ t1 t2, (a, tup2 off t1 nm t2) ∈ l := fun h1 h2 => ⟨h1.1, h1.2.1, h1.2.2, h2⟩
  refine List.forall_mem_cons.mpr ⟨z (by dsimp only; decide) h1, ?_⟩
  refine List.forall_mem_cons.mpr ⟨z (by dsimp only; decide) h2, ?_⟩
  refine List.forall_mem_cons.mpr ⟨z (by dsimp only; decide) h3, ?_⟩
  refine List.forall_mem_cons.mpr ⟨z (by dsimp only; decide) h4, ?_⟩
  refine List.forall_mem_cons.mpr ⟨z (by dsimp only; decide) h5, ?_⟩
  refine List.forall_mem_cons.mpr ⟨z (by dsimp only; decide) h6, ?_⟩
  refine List.forall_mem_cons.mpr ⟨z (by dsimp only; decide) h7, ?_⟩
  exact fun _ h => nomatch h
theorem hd_app {rest nx : List (Addr × Obj)} {l : Addr} {g : Str} {tg : Tok} {all : List Str} {r : List Itm} {m : Str → Option Value} {rs : List (Addr × Int × Str)} {T : Addr} {off : Int} {nm : Str} {vs : List Value} {ps : List Str} {c : Nat} {n : Int} {x : Str} {t t' : Tok}
    (hr2 : r = rs.map (fun q => Itm.val (.ref q.1))) (hvs : StrsAre vs ps) (hn0 : 0 ≤ n) (hn1 : n < 100000000) (hoff0 : 0 < off) (hnml : nm.length ≤ 6)
    (hrs : ∀ q ∈ rs, 0 < q.2.1 ∧ q.2.1 ≤ 31536000 ∧ q.2.2.length ≤ 6 ∧ ∃ t1 t2, (q.1, tup2 q.2.1 t1 q.2.2 t2) ∈ rest) (hall : ps ++ parts (((T, off, nm) :: rs).map (·.2)) n = all) (hlen : ps.length + ((T, off, nm) :: rs).length ≤ 7) (hpl : ∀ p ∈ ps, p.length ≤ 30)
    (hne : n.fdiv off ≠ 0) (hx : x = txt (n.fdiv off) nm) (hs : ∀ p ∈ (l, listOf (vs.toArray.push (.str x t')) (c + 1)) :: rest, p ∈ nx)
    (e1 : m (Str.ofString "accum") = some (.ref l)) (e2 : m (Str.ofString "nseconds") = some (.int (n.fmod off) t)) (e3 : m (Str.ofString "glue") = some (.str g tg)) :
    HdJ rest l g tg all r m nx := by
  obtain ⟨hq0, hq1, hq2, hq3, hq4, hq5⟩ := fd_facts hn0 hoff0
  refine ⟨rs, vs ++ [.str x t'], ps ++ [x], c + 1, n.fmod off, t, hr2, by rw [List.push_toArray] at hs; exact hs, hvs.append' (.cons _ _ .nil), e1, e2, e3, hq2, by omega, hrs, ?_, ?_, ?_⟩
  · rw [← hall, hx]
    simp only [List.map_cons, parts, if_neg hne, List.append_assoc]
  · simp only [List.length_append, List.length_cons, List.length_nil] at hlen ⊢
    omega
  · intro p hp
    rcases List.mem_append.mp hp with hp | hp
    · exact hpl p hp
    · rw [List.mem_singleton.mp hp, hx]
      exact txt_len hq0 (by omega) hnml
theorem hd_skip {rest nx : List (Addr × Obj)} {l : Addr} {g : Str} {tg : Tok} {all : List Str} {r : List Itm} {m : Str → Option Value} {rs : List (Addr × Int × Str)} {T : Addr} {off : Int} {nm : Str} {vs : List Value} {ps : List Str} {c : Nat} {n : Int} {t : Tok}
    (hr2 : r = rs.map (fun q => Itm.val (.ref q.1))) (hvs : StrsAre vs ps) (hn0 : 0 ≤ n) (hn1 : n < 100000000) (hoff0 : 0 < off)
    (hrs : ∀ q ∈ rs, 0 < q.2.1 ∧ q.2.1 ≤ 31536000 ∧ q.2.2.length ≤ 6 ∧ ∃ t1 t2, (q.1, tup2 q.2.1 t1 q.2.2 t2) ∈ rest) (hall : ps ++ parts (((T, off, nm) :: rs).map (·.2)) n = all) (hlen : ps.length + ((T, off, nm) :: rs).length ≤ 7) (hpl : ∀ p ∈ ps, p.length ≤ 30)
    (hne : n.fdiv off = 0) (hs : ∀ p ∈ (l, listOf vs.toArray c) :: rest, p ∈ nx)
    (e1 : m (Str.ofString "accum") = some (.ref l)) (e2 : m (Str.ofString "nseconds") = some (.int (n.fmod off) t)) (e3 : m (Str.ofString "glue") = some (.str g tg)) :
    HdJ rest l g tg all r m nx := by
  obtain ⟨hq0, hq1, hq2, hq3, hq4, hq5⟩ := fd_facts hn0 hoff0
  refine ⟨rs, vs, ps, c, n.fmod off, t, hr2, hs, hvs, e1, e2, e3, hq2, by omega, hrs, ?_, ?_, hpl⟩
  · rw [← hall]
    simp only [List.map_cons, parts, if_pos hne, List.nil_append]
  · simp only [List.length_cons] at hlen
    omega
local macro_rules | `(tactic| walk_at "call builtin:divmod") => `(tactic| (k_here; (with_reducible show wpAny _ _ (call (Value.builtin _) [Value.int _ _, Value.int _ _]) _ _ _); refine' divmod_K ?k1 ?k2 ?k3 ?k4 ?_; (case k1 => k_asm); (case k2 => k_asm); (case k3 => omega); (case k4 => exact PyProof.noPylong_small (by omega)); intro D' h' F' N' l1; (try k_lt l1); (try k_sweep)))
local macro_rules | `(tactic| size_fits) => `(tactic| ((try simp only [List.size_toArray]); rw [PySem.sizeLine_eq]; omega))
local macro_rules | `(tactic| walk_at "ItemsRest") => `(tactic| (refine STOP.out ?_))
theorem hd_call (w : World) (mean : ExcName → Option Value) (mg mb : Str → Option Value) (d0 d1 d2 d3 d4 d5 : Addr) (o0 o1 o2 o3 o4 o5 : Obj) (n : Int) (t : Tok) (g : Str) (tg : Tok) :
  CbClaim PySem.Challenge.rw_ez0234_01.row.prog w (hd.heap_39 w.params) hd.view_39 (looseW hd.view_39 [Str.ofString "human_delta"]) mean mg mb 50 [(d0, o0), (d1, o1), (d2, o2), (d3, o3), (d4, o4), (d5, o5)] [] (0 ≤ n ∧ n < 100000000 ∧ g.length ≤ 8) [.int n t, .str g tg] (fun t => .str (hdText n g) t) := by
  dsimp only [CbClaim, CbLists, CbRet]
  w_top off
  k_fill
  intros
  rename_i hpre hdp hun hret
  obtain ⟨hn0, hn1, hgl⟩ := hpre
  refine wpAny_call ?_
  k_dflt (refine' code_def ?k1 ?k2 ?k3 ?k4 ?k5 ?kA ?kF ?kK ?k6 ?k7 ?k8 ?k9 ?kB ?_ ?c2 ?c3 ?c4 ?c5; (case kA => exact rfl); (case kF => exact rfl); (case kK => assumption); (case k1 => k_asm); (case k2 => k_asm); (case k3 => k_asm); (case k4 => k_asm); (case k5 => k_asm); (case k6 => k_is); (case k7 => k_is); (case k8 => ktr_room); (case k9 => first | exact BindsTo.of_eq rfl | exact binds_K (by k_in) rfl (by k_is) rfl rfl rfl); (case c5 => decide); (case kB => exact locs rfl); (case c2 => exact rfl); (case c3 => exact rfl); (case c4 => exact rfl); k_whole; intro g' L' h' FG' F' N' B' X' T'; (try dsimp only); (try k_lift B'); (try k_fold))
  k_steps
  refine STOP.mk ?_
  refine items_inv (HdJ _ _ g tg (parts hdTab n)) ?turn ?done _ _ _ (hd_start rfl rfl (by with_unfolding_all rfl) (by with_unfolding_all rfl) (by with_unfolding_all rfl) hn0 hn1 ⟨_, _, by k_mem⟩ ⟨_, _, by k_mem⟩ ⟨_, _, by k_mem⟩ ⟨_, _, by k_mem⟩ ⟨_, _, by k_mem⟩ ⟨_, _, by k_mem⟩ ⟨_, _, by k_mem⟩)
  case done =>
    rintro m₁ nx ⟨rs, vs, ps, c, n₁, t₁, hr, hsub, hvs, hm1, hm2, hm3, hn0', hn1', hrs, hall, hlen, hpl⟩ h₁ tk₁ F₁ N₁
    cases rs with
    | cons q rs => cases hr
    | nil =>
      simp only [List.map_nil, parts, List.append_nil] at hall
      have F₂ := fr_know2 hm1 hm3 F₁
      clear F₁
      have N₂ := news_sub N₁ hsub
      clear N₁
      (try dsimp only)
      cases hvs with
      | nil =>
        k_steps
        refine cb_retS (Q := _) hret ?_ (by k_asm) (cb_drop (by assumption) (by kcj_all))
        unfold hdText; rw [if_pos hall.symm]
      | cons y ty hvs =>
        rename_i vs ys
        have hvl : vs.length ≤ 6 := by have := hvs.length; simp only [List.length_cons] at hlen; omega
        k_steps
        refine join_K (by k_asm) (by k_mem) (.cons y ty hvs) (by omega) hpl (by simp only [List.length_cons, List.length_nil] at hlen ⊢; omega) ?_
        intro t' k'
        k_steps
        refine cb_retS (Q := _) hret ?_ (by k_asm) (cb_drop (by assumption) (by kcj_all))
        unfold hdText; rw [← hall, if_neg (by simp)]
  case turn =>
    rintro a r m₁ nx ⟨rs, vs, ps, c, n₁, t₁, hr, hsub, hvs, hm1, hm2, hm3, hn0', hn1', hrs, hall, hlen, hpl⟩ v h₁ tk₁ hv F₁
    cases rs with
    | nil => cases hr
    | cons q rs =>
      obtain ⟨T, off, nm⟩ := q
      injection hr with hr1 hr2
      subst hr1
      have hv' : v = .ref T := hv
      subst hv'
      obtain ⟨⟨hoff0, hoff1, hnml, t2, t3, hmem⟩, hrs'⟩ := List.forall_mem_cons.mp hrs
      have F₂ := fr_know3 hm1 hm2 hm3 F₁
      clear F₁
      ktu_objs
      rename News _ _ _ _ => N0
      have N' := news_sub1 N0 hsub
      clear N0
      have hT := News.isTup N' (List.Mem.tail _ (List.Mem.tail _ hmem))
      dsimp only at hoff0 hoff1 hnml hT
      have hoffne : off ≠ 0 := by omega
      obtain ⟨hq0, hq1, hq2, hq3, hq4, hq5⟩ := fd_facts hn0' hoff0
      have hq6 : n₁.fdiv off < 100000000 := by omega
      have hvl : vs.length ≤ 6 := by have := hvs.length; simp only [List.length_cons] at hlen; omega
      (try dsimp only)
      k_steps
      all_goals (first | (exfalso; omega) | skip)
      all_goals (rename_i hq8)
      all_goals first
        | exact hd_skip hr2 hvs hn0' hn1' hoff0 hrs' hall hlen hpl hq8 (fun p hp => by repeat (first | exact hp | apply List.Mem.tail)) (by with_unfolding_all rfl) (by with_unfolding_all rfl) (by with_unfolding_all rfl)
        | exact hd_app hr2 hvs hn0' hn1' hoff0 hnml hrs' hall hlen hpl (by omega) (by unfold txt; first | rw [if_pos (by omega)] | rw [if_neg (by omega)]) (fun p hp => by repeat (first | exact hp | apply List.Mem.tail)) (by with_unfolding_all rfl) (by with_unfolding_all rfl) (by with_unfolding_all rfl)
theorem hd_call1 (w : World) (mean : ExcName → Option Value) (mg mb : Str → Option Value) (d0 d1 d2 d3 d4 d5 : Addr) (o0 o1 o2 o3 o4 o5 : Obj) (n : Int) (t : Tok) (g : Str) (hg : g = Str.ofString ", ") :
  CbClaim PySem.Challenge.rw_ez0234_01.row.prog w (hd.heap_39 w.params) hd.view_39 (looseW hd.view_39 [Str.ofString "human_delta"]) mean mg mb 50 [(d0, o0), (d1, o1), (d2, o2), (d3, o3), (d4, o4), (d5, o5)] [] (0 ≤ n ∧ n < 100000000 ∧ True) [.int n t] (fun t => .str (hdText n g) t) := by
  dsimp only [CbClaim, CbLists, CbRet]
  w_top off
  k_fill
  intros
  rename_i hpre hdp hun hret
  obtain ⟨hn0, hn1, _⟩ := hpre
  subst hg
  have hgl : (Str.ofString ", ").length ≤ 8 := by decide +kernel
  refine wpAny_call ?_
  k_dflt (refine' code_def ?k1 ?k2 ?k3 ?k4 ?k5 ?kA ?kF ?kK ?k6 ?k7 ?k8 ?k9 ?kB ?_ ?c2 ?c3 ?c4 ?c5; (case kA => exact rfl); (case kF => exact rfl); (case kK => assumption); (case k1 => k_asm); (case k2 => k_asm); (case k3 => k_asm); (case k4 => k_asm); (case k5 => k_asm); (case k6 => k_is); (case k7 => k_is); (case k8 => ktr_room); (case k9 => first | exact BindsTo.of_eq rfl | exact binds_K (by k_in) rfl (by k_is) rfl rfl rfl); (case c5 => decide); (case kB => exact locs rfl); (case c2 => exact rfl); (case c3 => exact rfl); (case c4 => exact rfl); k_whole; intro g' L' h' FG' F' N' B' X' T'; (try dsimp only); (try k_lift B'); (try k_fold))
  k_steps
  refine STOP.mk ?_
  refine items_inv (HdJ _ _ _ _ (parts hdTab n)) ?turn ?done _ _ _ (hd_start rfl rfl (by with_unfolding_all rfl) (by with_unfolding_all rfl) (by with_unfolding_all rfl) hn0 hn1 ⟨_, _, by k_mem⟩ ⟨_, _, by k_mem⟩ ⟨_, _, by k_mem⟩ ⟨_, _, by k_mem⟩ ⟨_, _, by k_mem⟩ ⟨_, _, by k_mem⟩ ⟨_, _, by k_mem⟩)
  case done =>
    rintro m₁ nx ⟨rs, vs, ps, c, n₁, t₁, hr, hsub, hvs, hm1, hm2, hm3, hn0', hn1', hrs, hall, hlen, hpl⟩ h₁ tk₁ F₁ N₁
    cases rs with
    | cons q rs => cases hr
    | nil =>
      simp only [List.map_nil, parts, List.append_nil] at hall
      have F₂ := fr_know2 hm1 hm3 F₁
      clear F₁
      have N₂ := news_sub N₁ hsub
      clear N₁
      (try dsimp only)
      cases hvs with
      | nil =>
        k_steps
        refine cb_retS (Q := _) hret ?_ (by k_asm) (cb_drop (by assumption) (by kcj_all))
        unfold hdText; rw [if_pos hall.symm]
      | cons y ty hvs =>
        rename_i vs ys
        have hvl : vs.length ≤ 6 := by have := hvs.length; simp only [List.length_cons] at hlen; omega
        k_steps
        refine join_K (by k_asm) (by k_mem) (.cons y ty hvs) (by omega) hpl (by simp only [List.length_cons, List.length_nil] at hlen ⊢; omega) ?_
        intro t' k'
        k_steps
        refine cb_retS (Q := _) hret ?_ (by k_asm) (cb_drop (by assumption) (by kcj_all))
        unfold hdText; rw [← hall, if_neg (by simp)]
  case turn =>
    rintro a r m₁ nx ⟨rs, vs, ps, c, n₁, t₁, hr, hsub, hvs, hm1, hm2, hm3, hn0', hn1', hrs, hall, hlen, hpl⟩ v h₁ tk₁ hv F₁
    cases rs with
    | nil => cases hr
    | cons q rs =>
      obtain ⟨T, off, nm⟩ := q
      injection hr with hr1 hr2
      subst hr1
      have hv' : v = .ref T := hv
      subst hv'
      obtain ⟨⟨hoff0, hoff1, hnml, t2, t3, hmem⟩, hrs'⟩ := List.forall_mem_cons.mp hrs
      have F₂ := fr_know3 hm1 hm2 hm3 F₁
      clear F₁
      ktu_objs
      rename News _ _ _ _ => N0
      have N' := news_sub1 N0 hsub
      clear N0
      have hT := News.isTup N' (List.Mem.tail _ (List.Mem.tail _ hmem))
      dsimp only at hoff0 hoff1 hnml hT
      have hoffne : off ≠ 0 := by omega
      obtain ⟨hq0, hq1, hq2, hq3, hq4, hq5⟩ := fd_facts hn0' hoff0
      have hq6 : n₁.fdiv off < 100000000 := by omega
      have hvl : vs.length ≤ 6 := by have := hvs.length; simp only [List.length_cons] at hlen; omega
      (try dsimp only)
      k_steps
      all_goals (first | (exfalso; omega) | skip)
      all_goals (rename_i hq8)
      all_goals first
        | exact hd_skip hr2 hvs hn0' hn1' hoff0 hrs' hall hlen hpl hq8 (fun p hp => by repeat (first | exact hp | apply List.Mem.tail)) (by with_unfolding_all rfl) (by with_unfolding_all rfl) (by with_unfolding_all rfl)
        | exact hd_app hr2 hvs hn0' hn1' hoff0 hnml hrs' hall hlen hpl (by omega) (by unfold txt; first | rw [if_pos (by omega)] | rw [if_neg (by omega)]) (fun p hp => by repeat (first | exact hp | apply List.Mem.tail)) (by with_unfolding_all rfl) (by with_unfolding_all rfl) (by with_unfolding_all rfl)
end Mine
end
section
open PySem PySem.W PyProof.Rows
set_option maxRecDepth 100000
set_option maxHeartbeats 8000000
namespace Mine
set_option linter.unusedVariables false
def LrJ (n : Int) (c : Addr) (rest : List (Addr × Obj)) (r : List Value) (m : Str → Option Value) (nx : List (Addr × Obj)) : Prop :=
  ∃ (rs : List (Int × Int × Str)) (found : Int) (tf : Tok) (most : Option Int) (mv : Value) (oc : Obj) (v0 : Option Value),
    StrsAre r (rs.map tx) ∧ OkP most rs ∧ found + worth rs = n ∧ 0 ≤ found ∧ m (Str.ofString "found") = some (.int found tf) ∧ m (Str.ofString "most") = some mv ∧
    ((most = none ∧ mv = .none) ∨ ∃ k t, most = some k ∧ mv = .int k t ∧ 0 < k ∧ k ≤ 31536000) ∧ oc.data = .cell v0 ∧ (∀ p ∈ (c, oc) :: rest, p ∈ nx)
theorem lr_start {n : Int} {c : Addr} {rest : List (Addr × Obj)} {r : List Value} {m : Str → Option Value} {nx : List (Addr × Obj)} {oc : Obj} {v0 : Option Value} {tf : Tok} (h0 : 0 ≤ n) (h1 : n < 100000000)
    (hv : StrsAre r ((PL n).map tx)) (hc : oc.data = .cell v0) (hm : (c, oc) ∈ nx) (hr : ∀ p ∈ rest, p ∈ nx) (e1 : m (Str.ofString "found") = some (.int 0 tf)) (e2 : m (Str.ofString "most") = some .none) : LrJ n c rest r m nx :=
  ⟨PL n, 0, tf, none, .none, oc, v0, hv, ok_PL h0 h1, by rw [worth_PL h0]; omega, by decide, e1, e2, .inl ⟨rfl, rfl⟩, hc, sub_cons hm hr⟩
theorem lr_next {n : Int} {c : Addr} {rest : List (Addr × Obj)} {r : List Value} {m : Str → Option Value} {nx : List (Addr × Obj)} {rs : List (Int × Int × Str)} {found val off : Int} {nm : Str} {oc : Obj} {v0 : Option Value} {tf ts : Tok}
    (hc : oc.data = .cell v0) (hm : (c, oc) ∈ nx) (hr : ∀ p ∈ rest, p ∈ nx) (hv : StrsAre r (rs.map tx)) (hok : OkP (some off) rs) (hsum : found + worth ((val, off, nm) :: rs) = n) (hf0 : 0 ≤ found) (hv0 : 0 ≤ val) (hoff : 0 < off) (hin : (off, nm) ∈ hdTab)
    (e1 : m (Str.ofString "found") = some (.int (found + val * off) tf)) (e2 : m (Str.ofString "most") = some (.int off ts)) : LrJ n c rest r m nx := by
  have h1 := Int.mul_nonneg hv0 (Int.le_of_lt hoff)
  have h2 : worth ((val, off, nm) :: rs) = val * off + worth rs := rfl
  exact ⟨rs, found + val * off, tf, some off, .int off ts, oc, v0, hv, hok, by omega, by omega, e1, e2, .inr ⟨off, ts, rfl, rfl, hoff, tab_off _ hin⟩, hc, sub_cons hm hr⟩
local macro_rules | `(tactic| walk_at "subscriptTail Name Constant ref int") => `(tactic| (k_here; (with_reducible show wpAny _ _ (subscriptTail _ _ (Value.ref _) (Value.int _ _)) _ _ _); k_dflt (refine' item_K ?k1 ?k2 ?k3 ?k4 ?k5 ?_; (case k1 => k_asm); (case k2 => k_mem); (case k3 => decide); (case k4 => decide); (case k5 => exact rfl); k_whole)))
local macro_rules | `(tactic| walk_at "subscriptTail") => `(tactic| (k_here; (with_reducible show wpAny _ _ (subscriptTail _ (Expr.Slice none (some _) none _) (Value.str _ _) _) _ _ _); refine slice_ns_eq (s := ⟨_, _, _, _, _⟩) (by k_asm) (by k_asm) (slice_word (by assumption)) (plural_len (by assumption)) ?_; intro h' t' k' F' N'))
local macro_rules | `(tactic| walk_at "subscriptTail") => `(tactic| (k_here; (with_reducible show wpAny _ _ (subscriptTail _ (Expr.Slice (some _) none none _) (Value.str _ _) _) _ _ _); refine slice_sn_eq (s := ⟨_, _, _, _, _⟩) (by k_asm) (by k_asm) (slice_last (by assumption)) (plural_len (by assumption)) ?_; intro h' t' k' F' N'))
local macro_rules | `(tactic| walk_at "call ref") => `(tactic| (k_here; refine wpAny_call ?_; k_dflt (refine' code_def ?k1 ?k2 ?k3 ?k4 ?k5 ?kA ?kF ?kK ?k6 ?k7 ?k8 ?k9 ?kB ?_ ?c2 ?c3 ?c4 ?c5; (case kA => exact rfl); (case kF => exact rfl); (case kK => exact rfl); (case k1 => k_asm); (case k2 => k_asm); (case k3 => k_asm); (case k4 => k_asm); (case k5 => k_asm); (case k6 => k_is); (case k7 => k_is); (case k8 => ktr_room); (case k9 => first | exact BindsTo.of_eq rfl | exact binds_K (by k_in) rfl (by k_is) rfl rfl rfl); (case c5 => decide); (case kB => exact locs rfl); (case c2 => exact rfl); (case c3 => exact rfl); (case c4 => exact rfl); k_whole; intro g' L' h' FG' F' N' B' X' T'; (try dsimp only); (try k_lift B'); (try k_fold))))
local macro_rules | `(tactic| walk_at "compareOp Eq ref ref") => `(tactic| (k_here; (with_reducible show wpAny _ _ (compareOp CmpOp.Eq (Value.ref _) (Value.ref _)) _ _ _); (with_unfolding_all refine' eq_intsK ?k1 ?k2 ?k3 ?k4 ?k5 ?_; (case k1 => is_list); (case k2 => l_intsC); (case k3 => is_list); (case k4 => l_intsC); (case k5 => ktr_units); k_whole)))
local macro_rules | `(tactic| walk_at "exec Assign cons ListComp") => `(tactic| (refine STOP.out ?_))
local macro_rules | `(tactic| walk_at "call builtin:str.split") => `(tactic| (k_here; (with_reducible show wpAny _ _ (call (Value.builtin "str.split") _) _ _ _); refine STOP.out ?_))
theorem lr_call (w : World) (mean : ExcName → Option Value) (mg mb : Str → Option Value) (d0 d1 d2 d3 d4 d5 : Addr) (o0 o1 o2 o3 o4 o5 : Obj) (n : Int) (T : Str) (tT : Tok) (g : Str) (tg : Tok) :
  Claim PySem.Challenge.rw_ez0234_01.row.prog w (hd.heap_39 w.params) hd.view_39 (looseW hd.view_39 [Str.ofString "human_delta"]) mean mg mb 135 [(d0, o0), (d1, o1), (d2, o2), (d3, o3), (d4, o4), (d5, o5)] (0 ≤ n ∧ n < 100000000 ∧ T = hdText n g ∧ Between g) [.str T tT, .str g tg] (fun t => .int n t) := by
  dsimp only [Claim, CbRet]
  w_top off
  k_fill
  intros
  rename_i hpre hdp hun hret
  obtain ⟨hn0, hn1, hT, hg⟩ := hpre
  refine wpAny_call ?_
  k_dflt (refine' code_defC ?k1 ?k2 ?k3 ?k4 ?k5 ?kA ?kF ?kK ?k6 ?k7 ?k8 ?k9 ?kB ?kD ?_ ?c2 ?c3 ?c4; (case kA => exact rfl); (case kF => exact rfl); (case kK => assumption); (case k1 => k_asm); (case k2 => k_asm); (case k3 => k_asm); (case k4 => k_asm); (case k5 => k_asm); (case k6 => k_is); (case k7 => k_is); (case k8 => ktr_room); (case k9 => first | exact BindsTo.of_eq rfl | exact binds_K (by k_in) rfl (by k_is) rfl rfl rfl); (case kB => exact rfl); (case kD => decide +kernel); (case c2 => exact rfl); (case c3 => exact rfl); (case c4 => exact rfl); k_whole; intro g' L' h' tk' cells' FG' F' N' Y' B' X' T' l1; (try k_lt l1); k_cells Y'; (try simp only [List.cons_append, List.nil_append] at N'); (try dsimp only); (try k_lift B'); (try k_fold))
  k_steps
  refine STOP.mk ?_
  refine split_K (by k_asm) (by k_asm) (between_len hg).2 (by rw [hT]; have := hdText_len (g := g) hn0 hn1 (by have := (between_len hg).1; omega); omega) (hT ▸ split_hd hn0 hn1 hg) ?_
  intro D' vs h' k' hvs F' N' lD
  k_lt lD
  k_steps
  rename Fr _ _ _ _ => F0
  rename News _ _ _ _ => N0
  refine iter_listUnr (vs := vs) (by rfl) F0 N0 (.head _) rfl rfl ?_
  intro I lI
  k_lt lI
  refine list_inv (LrJ n _ [(D', listOf vs.toArray 0), (d0, o0), (d1, o1), (d2, o2), (d3, o3), (d4, o4), (d5, o5)]) ?turn ?done _ _ _ (lr_start hn0 hn1 hvs (by assumption) (by k_mem) (by repeat (first | exact sub_nil | refine sub_cons (by k_mem) ?_)) (by with_unfolding_all rfl) (by with_unfolding_all rfl))
  case done =>
    rintro m₁ nx ⟨rs, found, tf, most, mv, oc, v0, hvs, hok, hsum, hf0, hm1, hm2, hmost, hoc, hsub⟩ h₁ tk₁ F₁ N₁
    cases rs with
    | cons q rs => cases hvs
    | nil =>
      have F₂ := fr_know hm1 F₁
      clear F₁
      have N₂ := news_sub N₁ hsub
      clear N₁
      (try dsimp only)
      k_steps
      refine cb_retI (Q := _) hret ?_ (by k_asm) (cb_drop (by assumption) (by kcj_all))
      have : worth [] = 0 := rfl
      omega
  case turn =>
    rintro v r m₁ nx ⟨rs, found, tf, most, mv, oc, v0, hvs', hok, hsum, hf0, hm1, hm2, hmost, hoc, hsub⟩ it h₁ tk₁ hit F₁ N₁
    cases rs with
    | nil => cases hvs'
    | cons q rs =>
      obtain ⟨val, off, nm⟩ := q
      cases hvs'
      rename_i r ty hvs'
      obtain ⟨hin, hoff, hv0, hv1, hlt, hok'⟩ := hok
      have htx : tx (val, off, nm) = txt val nm := rfl
      have hnl : nm.length ≤ 6 := tab_len _ hin
      have htl := txt_len hv0 hv1 hnl
      rw [htx] at F₁
      have F₂ := fr_under2 hm1 hm2 F₁
      clear F₁
      have N₂ := news_sub1 N₁ hsub
      clear N₁
      (try dsimp only)
      k_steps
      refine STOP.mk ?_
      refine split_K (by k_asm) (by k_asm) (by decide +kernel) (by omega) (split_txt hv0 hin) ?_
      intro D2 vs2 h2 k2 hvs2 F3 N3 l2
      k_lt l2
      cases hvs2
      rename_i t1 hvs2
      cases hvs2
      rename_i t2 hvs2
      cases hvs2
      have hne0 : off ≠ 0 := by omega
      by_cases hone : val = 1
      · subst hone
        rw [tail_one] at N3
        have h11 : Str.ofString (toString (1 : Int)) = Str.ofString "1" := by decide +kernel
        (try dsimp only at N3)
        rw [h11] at N3
        k_steps
        refine STOP.mk ?_
        refine assign_pairs (by k_asm) (by rfl) (by rfl) (by with_unfolding_all rfl) (by with_unfolding_all rfl) (by decide) (by rfl) (by decide) (by rfl) (by rfl) (by decide) (fun C => by with_unfolding_all rfl) (by with_unfolding_all rfl) (by decide) (by decide) (by decide) (by rfl) (by rfl) ?_
        replace lD := PySem.Flt.Hid.mk lD
        replace lI := PySem.Flt.Hid.mk lI
        replace l2 := PySem.Flt.Hid.mk l2
        k_steps
        refine spans_end hin (by k_asm) (by k_asm) (by assumption) (by k_mem) (by k_mem) (by k_mem) (by k_mem) (by k_mem) (by k_mem) (by k_mem) (by k_mem) (by k_mem) ?_
        repeat (rename (@And _ _) => hx; clear hx)
        intro ts D4 h4 tk4 F4 N4 l4
        replace lD := lD.out
        replace lI := lI.out
        replace l2 := l2.out
        obtain ⟨N5, l5⟩ := led_cut (nx := [(D2, _), (I, it), (L' + 1, _), (D', listOf vs.toArray 0), (d0, o0), (d1, o1), (d2, o2), (d3, o3), (d4, o4), (d5, o5)]) N4 l4 (by repeat (first | exact sub_nil | refine sub_cons (by k_mem) ?_))
        k_lt l5
        clear l4
        clear N4
        k_steps
        · rename (decide _ = true) => hbad
          exact absurd hbad (by simp)
        · rcases hmost with ⟨hmo, rfl⟩ | ⟨k, tk9, hmo, rfl, hk0, hk1⟩
          · k_steps
            (refine' lr_next ?z0k1 ?z0k2 ?z0k3 hvs' hok' hsum hf0 hv0 hoff hin ?z0k4 ?z0k5; (case z0k1 => assumption); (case z0k2 => k_mem); (case z0k3 => repeat (first | exact sub_nil | refine sub_cons (by k_mem) ?_)); (case z0k4 => with_unfolding_all rfl); (case z0k5 => with_unfolding_all rfl))
          · have hlt2 := hlt k hmo
            k_steps
            (refine' lr_next ?z1k1 ?z1k2 ?z1k3 hvs' hok' hsum hf0 hv0 hoff hin ?z1k4 ?z1k5; (case z1k1 => assumption); (case z1k2 => k_mem); (case z1k3 => repeat (first | exact sub_nil | refine sub_cons (by k_mem) ?_)); (case z1k4 => with_unfolding_all rfl); (case z1k5 => with_unfolding_all rfl))
      · rw [tail_many hone] at N3
        have hne1 : Str.ofString (toString val) ≠ Str.ofString "1" := fun e => hone (one_text hv0 hv1 e)
        (try dsimp only at N3)
        k_steps
        · refine STOP.mk ?_
          refine assign_pairs (by k_asm) (by rfl) (by rfl) (by with_unfolding_all rfl) (by with_unfolding_all rfl) (by decide) (by rfl) (by decide) (by rfl) (by rfl) (by decide) (fun C => by with_unfolding_all rfl) (by with_unfolding_all rfl) (by decide) (by decide) (by decide) (by rfl) (by rfl) ?_
          replace lD := PySem.Flt.Hid.mk lD
          replace lI := PySem.Flt.Hid.mk lI
          replace l2 := PySem.Flt.Hid.mk l2
          k_steps
          refine spans_end hin (by k_asm) (by k_asm) (by assumption) (by k_mem) (by k_mem) (by k_mem) (by k_mem) (by k_mem) (by k_mem) (by k_mem) (by k_mem) (by k_mem) ?_
          repeat (rename (@And _ _) => hx; clear hx)
          intro ts D4 h4 tk4 F4 N4 l4
          replace lD := lD.out
          replace lI := lI.out
          replace l2 := l2.out
          obtain ⟨N5, l5⟩ := led_cut (nx := [(D2, _), (I, it), (L' + 1, _), (D', listOf vs.toArray 0), (d0, o0), (d1, o1), (d2, o2), (d3, o3), (d4, o4), (d5, o5)]) N4 l4 (by repeat (first | exact sub_nil | refine sub_cons (by k_mem) ?_))
          k_lt l5
          clear l4
          clear N4
          k_steps
          · rename (decide _ = true) => hbad
            exact absurd hbad (by simp)
          · rcases hmost with ⟨hmo, rfl⟩ | ⟨k, tk9, hmo, rfl, hk0, hk1⟩
            · k_steps
              (refine' lr_next ?z2k1 ?z2k2 ?z2k3 hvs' hok' hsum hf0 hv0 hoff hin ?z2k4 ?z2k5; (case z2k1 => assumption); (case z2k2 => k_mem); (case z2k3 => repeat (first | exact sub_nil | refine sub_cons (by k_mem) ?_)); (case z2k4 => with_unfolding_all rfl); (case z2k5 => with_unfolding_all rfl))
            · have hlt2 : val * off < k := hlt k hmo
              k_steps
              (refine' lr_next ?z3k1 ?z3k2 ?z3k3 hvs' hok' hsum hf0 hv0 hoff hin ?z3k4 ?z3k5; (case z3k1 => assumption); (case z3k2 => k_mem); (case z3k3 => repeat (first | exact sub_nil | refine sub_cons (by k_mem) ?_)); (case z3k4 => with_unfolding_all rfl); (case z3k5 => with_unfolding_all rfl))
        · rename_i hbad _ _ _ _ _
          exact absurd hne1 (by simpa using hbad)
end Mine
end
section
open PySem PySem.W PyProof.Rows
namespace Mine
abbrev Cell := Int × Tok
abbrev iv (p : Cell) : Value := .int p.1 p.2
def kk (ps : List Cell) (i : Nat) : Int := (ps.getD i (0, 0)).1
def swp (ps : List Cell) (i j : Nat) : List Cell := (ps.set i (ps.getD j (0, 0))).set j (ps.getD i (0, 0))
theorem swp_length (ps : List Cell) (i j : Nat) : (swp ps i j).length = ps.length := by simp [swp]
theorem kk_swp {ps : List Cell} {i j : Nat} (hi : i < ps.length) (hj : j < ps.length) (k : Nat) : kk (swp ps i j) k = if k = j then kk ps i else if k = i then kk ps j else kk ps k := by
  unfold kk swp
  simp only [List.getD_eq_getElem?_getD, List.getElem?_set, List.length_set]
  by_cases h1 : j = k
  · subst h1; simp [hj]
  · rw [if_neg h1, if_neg (Ne.symm h1)]
    by_cases h2 : i = k
    · subst h2; simp [hi]
    · rw [if_neg h2, if_neg (Ne.symm h2)]
theorem swp_perm {ps : List Cell} {i j : Nat} (hi : i < ps.length) (hj : j < ps.length) : (swp ps i j).Perm ps := by
  unfold swp
  have e1 : ps.getD j (0, 0) = ps[j] := by simp [List.getD_eq_getElem?_getD, hj]
  have e2 : ps.getD i (0, 0) = ps[i] := by simp [List.getD_eq_getElem?_getD, hi]
  rw [e1, e2]
  exact List.set_set_perm hi hj
def IsHp (ps : List Cell) : Prop := ∀ i, 0 < i → i < ps.length → kk ps ((i - 1) / 2) ≤ kk ps i
structure UpInv (ps : List Cell) (pos : Nat) : Prop where
  rest : ∀ i, 0 < i → i < ps.length → i ≠ pos → kk ps ((i - 1) / 2) ≤ kk ps i
  kids : ∀ i, 0 < i → i < ps.length → (i - 1) / 2 = pos → 0 < pos → kk ps ((pos - 1) / 2) ≤ kk ps i
structure DownInv (ps : List Cell) (pos : Nat) : Prop where
  rest : ∀ i, 0 < i → i < ps.length → i ≠ pos → (i - 1) / 2 ≠ pos → kk ps ((i - 1) / 2) ≤ kk ps i
  kids : ∀ i, 0 < i → i < ps.length → (i - 1) / 2 = pos → 0 < pos → kk ps ((pos - 1) / 2) ≤ kk ps i
theorem UpInv.stop0 {ps : List Cell} (h : UpInv ps 0) : IsHp ps := fun i h0 h1 => h.rest i h0 h1 (by omega)
theorem UpInv.stop {ps : List Cell} {pos : Nat} (h : UpInv ps pos) (hle : kk ps ((pos - 1) / 2) ≤ kk ps pos) : IsHp ps := fun i h0 h1 => by
  by_cases e : i = pos
  · subst e; exact hle
  · exact h.rest i h0 h1 e
theorem UpInv.step {ps : List Cell} {pos : Nat} (h : UpInv ps pos) (h0 : 0 < pos) (h1 : pos < ps.length) (hlt : kk ps pos < kk ps ((pos - 1) / 2)) : UpInv (swp ps ((pos - 1) / 2) pos) ((pos - 1) / 2) := by
  have hp : (pos - 1) / 2 < ps.length := by omega
  constructor
  · intro i i0 i1 hne
    rw [swp_length] at i1
    rw [kk_swp hp h1, kk_swp hp h1]
    by_cases e : i = pos
    · subst e
      rw [if_pos rfl, if_neg (by omega), if_pos rfl]
      omega
    · rw [if_neg e]
      by_cases e2 : (i - 1) / 2 = pos
      · rw [if_pos e2, if_neg hne]
        exact h.kids i i0 i1 e2 h0
      · rw [if_neg e2, if_neg hne]
        by_cases e3 : (i - 1) / 2 = (pos - 1) / 2
        · rw [if_pos e3]
          have := h.rest i i0 i1 e
          rw [e3] at this
          omega
        · rw [if_neg e3]
          exact h.rest i i0 i1 e
  · intro i i0 i1 he hp0
    rw [swp_length] at i1
    rw [kk_swp hp h1, kk_swp hp h1, if_neg (by omega), if_neg (by omega)]
    have hq := h.rest ((pos - 1) / 2) hp0 hp (by omega)
    by_cases e : i = pos
    · subst e
      rw [if_pos rfl]
      exact hq
    · rw [if_neg e, if_neg (by omega)]
      have := h.rest i i0 i1 e
      rw [he] at this
      omega
theorem DownInv.leaf {ps : List Cell} {pos : Nat} (h : DownInv ps pos) (hl : ¬ pos < ps.length / 2) : UpInv ps pos :=
  ⟨fun i i0 i1 hne => h.rest i i0 i1 hne (by omega), h.kids⟩
theorem DownInv.step {ps : List Cell} {pos j : Nat} (h : DownInv ps pos) (hj : j = 2 * pos + 1 ∨ j = 2 * pos + 2) (h1 : j < ps.length)
    (hmin : ∀ i, i < ps.length → 0 < i → (i - 1) / 2 = pos → kk ps j ≤ kk ps i) : DownInv (swp ps j pos) j := by
  have hp : pos < ps.length := by omega
  constructor
  · intro i i0 i1 hne hpn
    rw [swp_length] at i1
    rw [kk_swp h1 hp, kk_swp h1 hp]
    by_cases e : i = pos
    · subst e
      rw [if_pos rfl, if_neg (by omega), if_neg hpn]
      exact h.kids j (by omega) h1 (by omega) i0
    · rw [if_neg e, if_neg hne]
      by_cases e2 : (i - 1) / 2 = pos
      · rw [if_pos e2]
        exact hmin i i1 i0 e2
      · rw [if_neg e2, if_neg hpn]
        exact h.rest i i0 i1 e e2
  · intro i i0 i1 he hj0
    rw [swp_length] at i1
    rw [kk_swp h1 hp, kk_swp h1 hp, if_pos (by omega), if_neg (by omega), if_neg (by omega)]
    have := h.rest i i0 i1 (by omega) (by omega)
    rw [he] at this
    exact this
theorem IsHp.min {ps : List Cell} (h : IsHp ps) : ∀ i, i < ps.length → kk ps 0 ≤ kk ps i := by
  intro i
  induction i using Nat.strongRecOn with
  | _ i ih =>
    intro hi
    by_cases e : i = 0
    · subst e; exact Int.le_refl _
    · have := ih ((i - 1) / 2) (by omega) (by omega)
      have := h i (by omega) hi
      omega
theorem kk_append_left {ps qs : List Cell} {i : Nat} (h : i < ps.length) : kk (ps ++ qs) i = kk ps i := by
  unfold kk; rw [List.getD_eq_getElem?_getD, List.getD_eq_getElem?_getD, List.getElem?_append_left h]
theorem IsHp.push {ps : List Cell} (h : IsHp ps) (x : Cell) : UpInv (ps ++ [x]) ps.length := by
  constructor
  · intro i i0 i1 hne
    simp only [List.length_append, List.length_cons, List.length_nil] at i1
    rw [kk_append_left (by omega), kk_append_left (by omega)]
    exact h i i0 (by omega)
  · intro i i0 i1 he h0
    simp only [List.length_append, List.length_cons, List.length_nil] at i1
    omega
theorem IsHp.pop {ps : List Cell} {x : Cell} (h : IsHp ps) (n : Nat) (hn : n + 1 = ps.length) : DownInv ((ps.take n).set 0 x) 0 := by
  have e : ∀ i, 0 < i → i < n → kk ((ps.take n).set 0 x) i = kk ps i := by
    intro i i0 i1
    unfold kk
    simp only [List.getD_eq_getElem?_getD, List.getElem?_set, List.length_take]
    rw [if_neg (by omega), List.getElem?_take_of_lt i1]
  constructor
  · intro i i0 i1 hne hpn
    simp only [List.length_set, List.length_take] at i1
    rw [e _ (by omega) (by omega), e _ i0 (by omega)]
    exact h i i0 (by omega)
  · intro i _ _ _ h0
    exact absurd h0 (Nat.lt_irrefl _)
end Mine
end
section
open PySem PySem.W PyProof.Rows
namespace Mine
theorem entry_sift : entryFor table "_heapq.heapify.sift" = some Builtin.«_heapq.heapify.sift» := entryFor_of_fast (by kernel_rfl)
theorem plain_sift : plainId "_heapq.heapify.sift" = true := by decide +kernel
theorem entry_push : entryFor table "_heapq.heappush" = some Builtin.«_heapq.heappush» := entryFor_of_fast (by kernel_rfl)
theorem entry_pop : entryFor table "_heapq.heappop" = some Builtin.«_heapq.heappop» := entryFor_of_fast (by kernel_rfl)
theorem plain_push : plainId "_heapq.heappush" = true := by decide +kernel
theorem plain_pop : plainId "_heapq.heappop" = true := by decide +kernel
theorem kind_push : builtinKind "_heapq.heappush" = none := by decide +kernel
theorem kind_pop : builtinKind "_heapq.heappop" = none := by decide +kernel
theorem args_push (a b : Value) : argsOk "_heapq.heappush" ⟨[a, b], []⟩ := by unfold argsOk; kernel_rfl
theorem args_pop (a : Value) : argsOk "_heapq.heappop" ⟨[a], []⟩ := by unfold argsOk; kernel_rfl
abbrev hpO (ps : List Cell) (c : Nat) : Obj := listOf (ps.map iv).toArray c
section
variable {prog : Program} {w : World} {A : Around} {E : Value → Shared → Prop} {s : Shared} {a : Addr} {c : Nat}

theorem cell_at {ps : List Cell} {i : Nat} (h : i < ps.length) : (ps.map iv).toArray[i]? = some (.int (kk ps i) (ps.getD i (0, 0)).2) := by
  simp only [List.getElem?_toArray, List.getElem?_map, kk, List.getD_eq_getElem?_getD, List.getElem?_eq_getElem h]
  rfl
theorem swap_arr (ps : List Cell) (i j : Nat) : ((ps.map iv).toArray.setIfInBounds i (iv (ps.getD j (0, 0)))).setIfInBounds j (iv (ps.getD i (0, 0))) = ((swp ps i j).map iv).toArray := by
  simp [swp, List.map_set]

theorem upd_heap {h : Heap} {ps ps' : List Cell} {f : Array Value → Array Value} (ho : h.get? a = some (hpO ps c)) (hf : f (ps.map iv).toArray = (ps'.map iv).toArray) :
    (h.update a (Obj.mapSeq f)).get? a = some (hpO ps' (if ps'.length = ps.length then c else c + 1)) := by
  have e : Obj.mapSeq f (hpO ps c) = hpO ps' (if ps'.length = ps.length then c else c + 1) := by
    show (⟨_, _, .seq (f (ps.map iv).toArray) (if (f (ps.map iv).toArray).size == (ps.map iv).toArray.size then c else c + 1), _⟩ : Obj) = _
    rw [hf]
    simp only [List.size_toArray, List.length_map, beq_iff_eq]
  rw [Heap.get?_update_self _ ho (by rw [e]; rfl), e]
theorem iv_at (ps : List Cell) (i : Nat) : Value.int (kk ps i) (ps.getD i (0, 0)).2 = iv (ps.getD i (0, 0)) := rfl
theorem quiet_sift (args : Args) : (Code.builtin "_heapq.heapify.sift" args).quiet = true := plainId_quiet plain_sift args

theorem sift_up {R : Result → Shared → Prop} {result : Value} : ∀ (pos : Nat) (ps : List Cell) (s : Shared), s.heap.get? a = some (hpO ps c) → ps.length ≤ 1000 → pos < ps.length → UpInv ps pos →
    (∀ ps' h' tk, IsHp ps' → ps'.Perm ps → Heap.SameBut a s.heap h' → h'.get? a = some (hpO ps' c) → R (.ok (.ret result)) { s with heap := h', toks := tk }) →
    codeAny (model prog w) A (.builtin "_heapq.heapify.sift" ⟨[.ref a, .bool false, .bool false, rawInt pos, rawInt 0, result, rawInt (-1)], []⟩) R s := by
  intro pos
  induction pos using Nat.strongRecOn with
  | _ pos ih =>
    intro ps s ho hsz hpos hinv hR
    refine codeAny_builtin entry_sift ?_
    rw [Around.under_plainId plain_sift _]
    unfold Builtin.«_heapq.heapify.sift»
    dsimp only [rawInt]
    refine wpAny_bind ?_
    show wpAny _ _ (seqItems? (.ref a) >>= _) _ _ _
    refine wpAny_bind (wpAny_seqItems ho rfl (wpAny_pure ?_))
    simp only [Int.toNat_natCast, Bool.false_eq_true, if_false]
    have stop : IsHp ps → wpAny (model prog w) A.in1 (ret result) (fun fin s' => match fin with | .done f => R (.ok f) s' | .again c' => c'.quiet = true ∧ codeAny (model prog w) A c' R s') (fun e s' => R (.error e) s') s := fun h =>
      wpAny_pure (hR ps s.heap s.toks h (List.Perm.refl _) (Heap.SameBut.refl _ _) ho)
    by_cases h0 : pos > Int.toNat 0
    · rw [if_pos h0]
      have h0' : 0 < pos := h0
      have hp : (pos - 1) / 2 < ps.length := by omega
      refine wpAny_bind ?_
      show wpAny _ _ (match (ps.map iv).toArray[pos]? with | some v => pure v | none => unsupported _) _ _ _
      rw [cell_at hpos]
      refine wpAny_pure (wpAny_bind ?_)
      show wpAny _ _ (match (ps.map iv).toArray[(pos - 1) / 2]? with | some v => pure v | none => unsupported _) _ _ _
      rw [cell_at hp]
      refine wpAny_pure (wpAny_bind ?_)
      refine wpAny_bind (wpAny_holding (wpAny_bind ?_))
      show wpAny _ _ (compareOp .Lt (.int _ _) (.int _ _)) _ _ _
      refine wpAny_lt_int ?_
      show wpAny _ _ (truthy (.bool _)) _ _ _
      refine wpAny_truthy_bool (wpAny_bind ?_)
      show wpAny _ _ (seqItems? (.ref a) >>= _) _ _ _
      refine wpAny_bind (wpAny_seqItems ho rfl (wpAny_pure ?_))
      rw [if_neg (by simp)]
      refine wpAny_pure ?_
      by_cases hlt : kk ps pos < kk ps ((pos - 1) / 2)
      · rw [if_pos (by simpa using hlt)]
        refine wpAny_bind ?_
        show wpAny _ _ ((seqItems? (.ref a) >>= _) >>= _) _ _ _
        refine wpAny_bind (wpAny_bind (wpAny_seqItems ho rfl (wpAny_pure (wpAny_bind ?_))))
        show wpAny _ _ (match (ps.map iv).toArray[(pos - 1) / 2]? with | some v => pure v | none => unsupported _) _ _ _
        rw [cell_at hp]
        refine wpAny_pure (wpAny_bind ?_)
        show wpAny _ _ (match (ps.map iv).toArray[pos]? with | some v => pure v | none => unsupported _) _ _ _
        rw [cell_at hpos]
        refine wpAny_pure (wpAny_updateSeq ho rfl ?_ (by simp [PySem.sizeLine_eq]; omega) (by simp [PySem.sizeLine_eq]; omega))
        refine wpAny_pure ⟨quiet_sift _, ?_⟩
        have hu := upd_heap (f := fun xs => (xs.setIfInBounds ((pos - 1) / 2) (iv (ps.getD pos (0, 0)))).setIfInBounds pos (iv (ps.getD ((pos - 1) / 2) (0, 0)))) ho (swap_arr ps _ _)
        rw [if_pos (swp_length _ _ _)] at hu
        refine ih ((pos - 1) / 2) (by omega) (swp ps ((pos - 1) / 2) pos) _ hu (by rw [swp_length]; exact hsz) (by rw [swp_length]; exact hp) (hinv.step h0' hpos hlt) ?_
        intro ps' h' tk hh hpm hsb hg
        exact hR ps' h' tk hh (hpm.trans (swp_perm hp hpos)) ((Heap.SameBut.update ..).trans hsb) hg
      · rw [if_neg (by simpa using hlt), if_pos (by decide)]
        exact stop (hinv.stop (by omega))
    · rw [if_neg h0, if_pos (by decide)]
      have e : pos = 0 := by have : ¬ pos > 0 := h0; omega
      subst e
      exact stop hinv.stop0
end
end Mine
end
section
open PySem PySem.W PyProof.Rows
namespace Mine
section
variable {prog : Program} {w : World} {A : Around} {E : Value → Shared → Prop} {s : Shared} {a : Addr} {c : Nat}

theorem sift_down {R : Result → Shared → Prop} {result : Value} : ∀ (m : Nat) (pos : Nat) (ps : List Cell) (s : Shared), ps.length - pos ≤ m → s.heap.get? a = some (hpO ps c) → ps.length ≤ 1000 → pos < ps.length → DownInv ps pos →
    (∀ ps' h' tk, IsHp ps' → ps'.Perm ps → Heap.SameBut a s.heap h' → h'.get? a = some (hpO ps' c) → R (.ok (.ret result)) { s with heap := h', toks := tk }) →
    codeAny (model prog w) A (.builtin "_heapq.heapify.sift" ⟨[.ref a, .bool false, .bool true, rawInt pos, rawInt 0, result, rawInt (-1)], []⟩) R s := by
  intro m
  induction m with
  | zero => intro pos ps s hm _ _ hpos; omega
  | succ m ih =>
    intro pos ps s hm ho hsz hpos hinv hR
    refine codeAny_builtin entry_sift ?_
    rw [Around.under_plainId plain_sift _]
    unfold Builtin.«_heapq.heapify.sift»
    dsimp only [rawInt]
    refine wpAny_bind ?_
    show wpAny _ _ (seqItems? (.ref a) >>= _) _ _ _
    refine wpAny_bind (wpAny_seqItems ho rfl (wpAny_pure ?_))
    simp only [Int.toNat_natCast, if_true, List.size_toArray, List.length_map]
    by_cases h0 : pos < ps.length / 2
    · rw [if_pos h0]
      have hl : 2 * pos + 1 < ps.length := by omega
      by_cases h1 : 2 * pos + 1 + 1 < ps.length
      · rw [if_pos h1]
        refine wpAny_bind ?_
        show wpAny _ _ (match (ps.map iv).toArray[2 * pos + 1]? with | some v => pure v | none => unsupported _) _ _ _
        rw [cell_at hl]
        refine wpAny_pure (wpAny_bind ?_)
        show wpAny _ _ (match (ps.map iv).toArray[2 * pos + 1 + 1]? with | some v => pure v | none => unsupported _) _ _ _
        rw [cell_at h1]
        refine wpAny_pure (wpAny_bind ?_)
        refine wpAny_bind (wpAny_holding (wpAny_bind ?_))
        show wpAny _ _ (compareOp .Lt (.int _ _) (.int _ _)) _ _ _
        refine wpAny_lt_int ?_
        show wpAny _ _ (truthy (.bool _)) _ _ _
        refine wpAny_truthy_bool (wpAny_bind ?_)
        show wpAny _ _ (seqItems? (.ref a) >>= _) _ _ _
        refine wpAny_bind (wpAny_seqItems ho rfl (wpAny_pure ?_))
        rw [if_neg (by simp)]
        refine wpAny_pure ?_
        by_cases hlt : kk ps (2 * pos + 1) < kk ps (2 * pos + 1 + 1)
        · rw [if_neg (by simpa using hlt)]
          refine wpAny_bind ?_
          show wpAny _ _ ((seqItems? (.ref a) >>= _) >>= _) _ _ _
          refine wpAny_bind (wpAny_bind (wpAny_seqItems ho rfl (wpAny_pure (wpAny_bind ?_))))
          show wpAny _ _ (match (ps.map iv).toArray[2 * pos + 1]? with | some v => pure v | none => unsupported _) _ _ _
          rw [cell_at hl]
          refine wpAny_pure (wpAny_bind ?_)
          show wpAny _ _ (match (ps.map iv).toArray[pos]? with | some v => pure v | none => unsupported _) _ _ _
          rw [cell_at hpos]
          refine wpAny_pure (wpAny_updateSeq ho rfl ?_ (by simp [PySem.sizeLine_eq]; omega) (by simp [PySem.sizeLine_eq]; omega))
          refine wpAny_pure ⟨quiet_sift _, ?_⟩
          have hu := upd_heap (f := fun xs => (xs.setIfInBounds (2 * pos + 1) (iv (ps.getD pos (0, 0)))).setIfInBounds pos (iv (ps.getD (2 * pos + 1) (0, 0)))) ho (swap_arr ps _ _)
          rw [if_pos (swp_length _ _ _)] at hu
          refine ih (2 * pos + 1) (swp ps (2 * pos + 1) pos) _ (by rw [swp_length]; omega) hu (by rw [swp_length]; exact hsz) (by rw [swp_length]; exact hl) (hinv.step (by omega) hl ?_) ?_
          · intro i hi hi0 hip
            have : i = 2 * pos + 1 ∨ i = 2 * pos + 1 + 1 := by omega
            rcases this with e | e <;> subst e <;> omega
          · intro ps' h' tk hh hpm hsb hg
            exact hR ps' h' tk hh (hpm.trans (swp_perm hl hpos)) ((Heap.SameBut.update ..).trans hsb) hg
        · rw [if_pos (by simpa using hlt)]
          refine wpAny_bind ?_
          show wpAny _ _ ((seqItems? (.ref a) >>= _) >>= _) _ _ _
          refine wpAny_bind (wpAny_bind (wpAny_seqItems ho rfl (wpAny_pure (wpAny_bind ?_))))
          show wpAny _ _ (match (ps.map iv).toArray[2 * pos + 1 + 1]? with | some v => pure v | none => unsupported _) _ _ _
          rw [cell_at h1]
          refine wpAny_pure (wpAny_bind ?_)
          show wpAny _ _ (match (ps.map iv).toArray[pos]? with | some v => pure v | none => unsupported _) _ _ _
          rw [cell_at hpos]
          refine wpAny_pure (wpAny_updateSeq ho rfl ?_ (by simp [PySem.sizeLine_eq]; omega) (by simp [PySem.sizeLine_eq]; omega))
          refine wpAny_pure ⟨quiet_sift _, ?_⟩
          have hu := upd_heap (f := fun xs => (xs.setIfInBounds (2 * pos + 1 + 1) (iv (ps.getD pos (0, 0)))).setIfInBounds pos (iv (ps.getD (2 * pos + 1 + 1) (0, 0)))) ho (swap_arr ps _ _)
          rw [if_pos (swp_length _ _ _)] at hu
          refine ih (2 * pos + 1 + 1) (swp ps (2 * pos + 1 + 1) pos) _ (by rw [swp_length]; omega) hu (by rw [swp_length]; exact hsz) (by rw [swp_length]; exact h1) (hinv.step (by omega) h1 ?_) ?_
          · intro i hi hi0 hip
            have : i = 2 * pos + 1 ∨ i = 2 * pos + 1 + 1 := by omega
            rcases this with e | e <;> subst e <;> omega
          · intro ps' h' tk hh hpm hsb hg
            exact hR ps' h' tk hh (hpm.trans (swp_perm h1 hpos)) ((Heap.SameBut.update ..).trans hsb) hg
      · rw [if_neg h1]
        refine wpAny_bind ?_
        show wpAny _ _ ((seqItems? (.ref a) >>= _) >>= _) _ _ _
        refine wpAny_bind (wpAny_bind (wpAny_seqItems ho rfl (wpAny_pure (wpAny_bind ?_))))
        show wpAny _ _ (match (ps.map iv).toArray[2 * pos + 1]? with | some v => pure v | none => unsupported _) _ _ _
        rw [cell_at hl]
        refine wpAny_pure (wpAny_bind ?_)
        show wpAny _ _ (match (ps.map iv).toArray[pos]? with | some v => pure v | none => unsupported _) _ _ _
        rw [cell_at hpos]
        refine wpAny_pure (wpAny_updateSeq ho rfl ?_ (by simp [PySem.sizeLine_eq]; omega) (by simp [PySem.sizeLine_eq]; omega))
        refine wpAny_pure ⟨quiet_sift _, ?_⟩
        have hu := upd_heap (f := fun xs => (xs.setIfInBounds (2 * pos + 1) (iv (ps.getD pos (0, 0)))).setIfInBounds pos (iv (ps.getD (2 * pos + 1) (0, 0)))) ho (swap_arr ps _ _)
        rw [if_pos (swp_length _ _ _)] at hu
        refine ih (2 * pos + 1) (swp ps (2 * pos + 1) pos) _ (by rw [swp_length]; omega) hu (by rw [swp_length]; exact hsz) (by rw [swp_length]; exact hl) (hinv.step (by omega) hl ?_) ?_
        · intro i hi hi0 hip
          have : i = 2 * pos + 1 ∨ i = 2 * pos + 1 + 1 := by omega
          rcases this with e | e <;> first | (subst e; omega) | (exfalso; omega)
        · intro ps' h' tk hh hpm hsb hg
          exact hR ps' h' tk hh (hpm.trans (swp_perm hl hpos)) ((Heap.SameBut.update ..).trans hsb) hg
    · rw [if_neg h0]
      refine wpAny_pure ⟨quiet_sift _, ?_⟩
      exact sift_up pos ps _ ho hsz hpos (hinv.leaf h0) hR

theorem last_perm (r : List Cell) (h : 0 < r.length) : (r.getD (r.length - 1) (0, 0) :: r.take (r.length - 1)).Perm r := by
  have hne : r ≠ [] := by intro e; subst e; simp at h
  have e1 : r.getD (r.length - 1) (0, 0) = r.getLast hne := by
    rw [List.getD_eq_getElem?_getD, List.getElem?_eq_getElem (by omega), List.getLast_eq_getElem]; rfl
  rw [e1, ← List.dropLast_eq_take]
  refine (List.perm_append_singleton _ _).symm.trans ?_
  rw [List.dropLast_concat_getLast hne]
theorem pop_perm (ps : List Cell) (h : 1 < ps.length) : (ps.getD 0 (0, 0) :: (ps.take (ps.length - 1)).set 0 (ps.getD (ps.length - 1) (0, 0))).Perm ps := by
  cases ps with
  | nil => simp at h
  | cons p r =>
    have hr : 0 < r.length := by simp at h; omega
    obtain ⟨n, hn⟩ : ∃ n, r.length = n + 1 := ⟨r.length - 1, by omega⟩
    have hl := last_perm r hr
    rw [hn] at hl
    simp only [List.length_cons, hn, Nat.add_sub_cancel, List.take_succ_cons, List.set_cons_zero, List.getD_cons_zero, List.getD_cons_succ] at hl ⊢
    exact hl.cons _
theorem call_entry_any {id : String} {b : Builtin} {args : List Value} {Q : Value → Shared → Prop} (hk : builtinKind id = none) (hp : plainId id = true)
    (hb : entryFor table id = some b) (ha : argsOk id ⟨args, []⟩)
    (hc : wpAny (model prog w) A.in1 (b ⟨args, []⟩) (fun fin s' => match fin with
      | .done f => (match (Except.ok f : Result) with | .ok (.ret v) => Q v s' | .ok _ => False | .error e => E e s')
      | .again c' => c'.quiet = true ∧ codeAny (model prog w) A c' (fun r s' => match r with | .ok (.ret v) => Q v s' | .ok _ => False | .error e => E e s') s') E s) : wpAny (model prog w) A (call (.builtin id) args) Q E s := by
  refine wpAny_call (codeAny_call_builtin hp hb ?_)
  simp only [checkBuiltinCall, hk]
  cases hsig : Manifest.signature? id with
  | none => exact wpAny_pure hc
  | some sig =>
    simp only [argsOk, hsig] at ha
    have h2 : Bind.checkArgs id sig ⟨args, []⟩ = pure () := ha
    show wpAny _ A.in1 (Bind.checkArgs id sig ⟨args, []⟩) _ _ s
    rw [h2]; exact wpAny_pure hc

theorem call_push {ps : List Cell} {x : Int} {t : Tok} {Q : Value → Shared → Prop} (ho : s.heap.get? a = some (hpO ps c)) (hsz : ps.length < 1000) (hh : IsHp ps)
    (hQ : ∀ ps' h' tk, IsHp ps' → ps'.Perm (ps ++ [(x, t)]) → Heap.SameBut a s.heap h' → h'.get? a = some (hpO ps' (c + 1)) → Q .none { s with heap := h', toks := tk }) :
    wpAny (model prog w) A (call (.builtin "_heapq.heappush") [.ref a, .int x t]) Q E s := by
  refine call_entry_any kind_push plain_push entry_push (args_push (.ref a) (.int x t)) ?_
  unfold Builtin.«_heapq.heappush»
  refine wpAny_bind ?_
  show wpAny _ _ (noKeywords _ _ >>= _) _ _ _
  refine wpAny_bind (wpAny_of_eq rfl ?_)
  show wpAny _ _ (checkCount _ _ _ _ >>= _) _ _ _
  refine wpAny_bind (wpAny_of_eq rfl ?_)
  refine wpAny_bind ?_
  show wpAny _ _ (isInstance _ _ >>= _) _ _ _
  refine wpAny_bind (wpAny_isInstance ⟨_, ho, rfl⟩ AutoSeq1.sub_list_list ?_)
  rw [if_pos rfl]
  refine wpAny_pure (wpAny_pure ?_)
  refine wpAny_bind (wpAny_updateSeq ho rfl ?_ (by simp [PySem.sizeLine_eq]; omega) (by simp [PySem.sizeLine_eq]; omega))
  have hu := upd_heap (ps' := ps ++ [(x, t)]) (f := fun xs => xs.push (.int x t)) ho (by simp)
  rw [if_neg (by simp)] at hu
  refine wpAny_bind ?_
  show wpAny _ _ (seqItems? (.ref a) >>= _) _ _ _
  refine wpAny_bind (wpAny_seqItems hu rfl (wpAny_pure ?_))
  refine wpAny_pure ⟨quiet_sift _, ?_⟩
  have e : ((ps ++ [(x, t)]).map iv).toArray.size - 1 = ps.length := by simp
  rw [e]
  refine sift_up ps.length (ps ++ [(x, t)]) _ hu (by simp; omega) (by simp) (hh.push _) ?_
  intro ps' h' tk hh' hpm hsb hg
  exact hQ ps' h' tk hh' hpm ((Heap.SameBut.update ..).trans hsb) hg

theorem call_pop {ps : List Cell} {Q : Value → Shared → Prop} (ho : s.heap.get? a = some (hpO ps c)) (hsz : ps.length ≤ 1000) (hh : IsHp ps) (h0 : 0 < ps.length)
    (hQ : ∀ p ps' h' tk, IsHp ps' → (p :: ps').Perm ps → (∀ q ∈ ps, p.1 ≤ q.1) → Heap.SameBut a s.heap h' → h'.get? a = some (hpO ps' (c + 1)) → Q (iv p) { s with heap := h', toks := tk }) :
    wpAny (model prog w) A (call (.builtin "_heapq.heappop") [.ref a]) Q E s := by
  refine call_entry_any kind_pop plain_pop entry_pop (args_pop (.ref a)) ?_
  have hmin : ∀ q ∈ ps, (ps.getD 0 (0, 0)).1 ≤ q.1 := by
    intro q hq
    obtain ⟨i, hi, rfl⟩ := List.getElem_of_mem hq
    have := hh.min i hi
    unfold kk at this
    rw [List.getD_eq_getElem?_getD (i := i), List.getElem?_eq_getElem hi] at this
    exact this
  unfold Builtin.«_heapq.heappop»
  refine wpAny_bind ?_
  show wpAny _ _ (oneArg _ _ >>= _) _ _ _
  refine wpAny_bind (wpAny_of_eq rfl ?_)
  refine wpAny_bind ?_
  show wpAny _ _ (isInstance _ _ >>= _) _ _ _
  refine wpAny_bind (wpAny_isInstance ⟨_, ho, rfl⟩ AutoSeq1.sub_list_list ?_)
  rw [if_pos rfl]
  refine wpAny_pure (wpAny_pure ?_)
  refine wpAny_bind ?_
  show wpAny _ _ (seqItems? (.ref a) >>= _) _ _ _
  refine wpAny_bind (wpAny_seqItems ho rfl (wpAny_pure ?_))
  have hb : (ps.map iv).toArray.back? = some (iv (ps.getD (ps.length - 1) (0, 0))) := by
    rw [Array.back?_eq_getElem?, List.size_toArray, List.length_map, cell_at (by omega)]
    rfl
  rw [hb]
  dsimp only
  refine wpAny_bind (wpAny_updateSeq ho rfl ?_ (by simp [PySem.sizeLine_eq]; omega) (by simp [PySem.sizeLine_eq]; omega))
  have hu := upd_heap (ps' := ps.take (ps.length - 1)) (f := fun xs => xs.pop) ho (by simp [List.dropLast_eq_take])
  rw [if_neg (by simp; omega)] at hu
  simp only [List.size_toArray, List.length_map]
  by_cases h1 : ps.length = 1
  · rw [if_pos (by simpa using h1)]
    refine wpAny_pure ?_
    have e0 : ps.length - 1 = 0 := by omega
    rw [e0]
    rw [e0] at hu
    refine hQ (ps.getD 0 (0, 0)) _ _ s.toks (fun i _ hi => ?_) ?_ hmin (Heap.SameBut.update ..) hu
    · simp at hi
    · obtain ⟨p, rfl⟩ := List.length_eq_one_iff.mp h1
      simp
  · rw [if_neg (by simpa using h1)]
    refine wpAny_bind ?_
    show wpAny _ _ (match (ps.map iv).toArray[0]? with | some v => pure v | none => unsupported _) _ _ _
    rw [cell_at h0]
    refine wpAny_pure ?_
    refine wpAny_bind (wpAny_updateSeq hu rfl ?_ (by simp [PySem.sizeLine_eq]; omega) (by simp [PySem.sizeLine_eq]; omega))
    have hv := upd_heap (ps' := (ps.take (ps.length - 1)).set 0 (ps.getD (ps.length - 1) (0, 0))) (f := fun xs => xs.setIfInBounds 0 (iv (ps.getD (ps.length - 1) (0, 0)))) hu (by simp [List.map_set])
    rw [if_pos (by simp)] at hv
    refine wpAny_pure ⟨quiet_sift _, ?_⟩
    refine sift_down ps.length 0 ((ps.take (ps.length - 1)).set 0 (ps.getD (ps.length - 1) (0, 0))) _ (by simp <;> omega) hv (by simp <;> omega) (by simp <;> omega) (hh.pop _ (by omega)) ?_
    intro ps' h' tk hh' hpm hsb hg
    refine hQ (ps.getD 0 (0, 0)) ps' h' tk hh' ?_ hmin ((Heap.SameBut.update ..).trans ((Heap.SameBut.update ..).trans hsb)) hg
    refine (hpm.cons _).trans ?_
    exact pop_perm ps (by omega)
end
end Mine
end
section
open PySem PySem.W PyProof.Rows
namespace Mine
section
variable {prog : Program} {w : World} {A : Around} {E : Value → Shared → Prop} {s : Shared} {h₀ : Heap} {L D : Addr} {m : Str → Option Value} {news : List (Addr × Obj)} {ps : List Cell} {c : Nat} {Q : Value → Shared → Prop}
theorem push_K {news' : Obj → List (Addr × Obj)} {x : Int} {t : Tok} (F : Fr h₀ L s.heap m) (N : News h₀ L s.heap news) (U : ∀ o, Upd D (hpO ps c) o news (news' o)) (hh : IsHp ps) (hsz : ps.length < 1000)
    (h : ∀ ps' h' tk, IsHp ps' → ps'.Perm (ps ++ [(x, t)]) → Fr h₀ L h' m → News h₀ L h' (news' (hpO ps' (c + 1))) → Q .none { s with heap := h', toks := tk }) :
    wpAny (model prog w) A (call (.builtin "_heapq.heappush") [.ref D, .int x t]) Q E s := by
  obtain ⟨pre0, post0, e0, -, -, -⟩ := (U (hpO ps c)).split
  have z := N (D, hpO ps c) (by rw [e0]; exact List.mem_append.mpr (.inr (.head _)))
  refine call_push z.1 hsz hh ?_
  intro ps' h' tk h1 h2 h3 h4
  obtain ⟨pre, post, e1, e2, x1, x2⟩ := (U (hpO ps' (c + 1))).split
  refine h ps' h' tk h1 h2 (F.change h3 z.2.1 z.2.2) ?_
  rw [e2]
  rw [e1] at N
  exact news_set N x1 x2 h3 h4
theorem pop_K {news' : Obj → List (Addr × Obj)} (F : Fr h₀ L s.heap m) (N : News h₀ L s.heap news) (U : ∀ o, Upd D (hpO ps c) o news (news' o)) (hh : IsHp ps) (hsz : ps.length ≤ 1000) (h0 : 0 < ps.length)
    (h : ∀ x t ps' h' tk, IsHp ps' → ((x, t) :: ps').Perm ps → (∀ q ∈ ps, x ≤ q.1) → Fr h₀ L h' m → News h₀ L h' (news' (hpO ps' (c + 1))) → Q (.int x t) { s with heap := h', toks := tk }) :
    wpAny (model prog w) A (call (.builtin "_heapq.heappop") [.ref D]) Q E s := by
  obtain ⟨pre0, post0, e0, -, -, -⟩ := (U (hpO ps c)).split
  have z := N (D, hpO ps c) (by rw [e0]; exact List.mem_append.mpr (.inr (.head _)))
  refine call_pop z.1 hsz hh h0 ?_
  rintro ⟨x, t⟩ ps' h' tk h1 h2 hmin h3 h4
  obtain ⟨pre, post, e1, e2, x1, x2⟩ := (U (hpO ps' (c + 1))).split
  refine h x t ps' h' tk h1 h2 hmin (F.change h3 z.2.1 z.2.2) ?_
  rw [e2]
  rw [e1] at N
  exact news_set N x1 x2 h3 h4
end
end Mine
end
section
open PySem PySem.W PyProof.Rows
set_option maxRecDepth 100000
set_option maxHeartbeats 8000000
namespace Mine
set_option linter.unusedVariables false
/-- what a call of a def of the top gives back, where the ledger changes -/
abbrev ClaimN (prog : Program) (w : World) (K : Frag) (p : Program) (loose : List Str) (mean : ExcName → Option Value) (mg mb : Str → Option Value) (f : Addr) (news : List (Addr × Obj)) (pre : Prop) (vs : List Value) (post : List (Addr × Obj) → Value → Prop) : Prop :=
  ∀ (dp un : Nat) (gd : Option (List Code)) (cn : Str) (cs : Scope) (a : Addr) (ccd : Value) (cl : List (Str × Addr)) (outer : List Env) (A₀ : Around) (base h₀ : Heap) (L : Addr) (m : Str → Option Value) (s : Shared) (Q E : Value → Shared → Prop),
    Below A₀ base outer h₀ → Fr h₀ L s.heap m → K.In h₀ → News h₀ L s.heap news → Top p loose mean mg mb h₀ → cs.kind = .function →
    pre → dp + 10 < recursionLimit → un + 100 < cLine → (∀ (v : Value) (news' : List (Addr × Obj)) (h' : Heap) (tk' : Nat), post news' v → Fr h₀ L h' m → News h₀ L h' news' → Q v { s with heap := h', toks := tk' }) →
      wpAny (model prog w) (ktrTop dp un gd cn cs L a ccd cl outer) (call (.ref f) vs) Q E s
theorem getD_mem {xs : List Int} {k : Nat} (h : k < xs.length) : xs.getD k 0 ∈ xs := by
  rw [List.getD_eq_getElem?_getD, List.getElem?_eq_getElem h]; exact List.getElem_mem h
local macro_rules | `(tactic| walk_at "call ref") => `(tactic| (k_here; refine wpAny_call ?_; k_dflt (refine' code_def ?k1 ?k2 ?k3 ?k4 ?k5 ?kA ?kF ?kK ?k6 ?k7 ?k8 ?k9 ?kB ?_ ?c2 ?c3 ?c4 ?c5; (case kA => exact rfl); (case kF => exact rfl); (case kK => exact rfl); (case k1 => k_asm); (case k2 => k_asm); (case k3 => k_asm); (case k4 => k_asm); (case k5 => k_asm); (case k6 => k_is); (case k7 => k_is); (case k8 => ktr_room); (case k9 => first | exact BindsTo.of_eq rfl | exact binds_K (by k_in) rfl (by k_is) rfl rfl rfl); (case c5 => decide); (case kB => exact locs rfl); (case c2 => exact rfl); (case c3 => exact rfl); (case c4 => exact rfl); k_whole; intro g' L' h' FG' F' N' B' X' T'; (try dsimp only); (try k_lift B'); (try k_fold))))
theorem next_pre {ws : List Value} {xs : List Int} {at' many : Int} {l D d0 d1 d2 d3 d4 d5 d6 : Addr} (h1 : IntsAre ws xs) (h2 : 0 < xs.length) (h3 : xs.length ≤ 100) (h4 : ∀ x ∈ xs, 0 ≤ x ∧ x < 1000003) (h5 : 0 ≤ at') (h6 : at' < 1000) (h7 : 0 < many) (h8 : many < 10000000)
    (z0 : @Ne Nat l D) (z1 : @Ne Nat l d0) (z2 : @Ne Nat l d1) (z3 : @Ne Nat l d2) (z4 : @Ne Nat l d3) (z5 : @Ne Nat l d4) (z6 : @Ne Nat l d5) (z7 : @Ne Nat l d6) :
    IntsAre ws xs ∧ 0 < xs.length ∧ xs.length ≤ 100 ∧ (∀ x ∈ xs, 0 ≤ x ∧ x < 1000003) ∧ 0 ≤ at' ∧ at' < 1000 ∧ 0 < many ∧ many < 10000000 ∧ @Ne Nat l D ∧ @Ne Nat l d0 ∧ @Ne Nat l d1 ∧ @Ne Nat l d2 ∧ @Ne Nat l d3 ∧ @Ne Nat l d4 ∧ @Ne Nat l d5 ∧ @Ne Nat l d6 :=
  ⟨h1, h2, h3, h4, h5, h6, h7, h8, z0, z1, z2, z3, z4, z5, z6, z7⟩
theorem next_call (w : World) (mean : ExcName → Option Value) (mg mb : Str → Option Value) (l D d0 d1 d2 d3 d4 d5 d6 : Addr) (o0 o1 o2 o3 o4 o5 o6 : Obj) (ws : List Value) (xs : List Int) (at' many : Int) (t tm : Tok) (c e : Nat) :
  ClaimN PySem.Challenge.rw_ez0234_01.row.prog w (hd.heap_39 w.params) hd.view_39 (looseW hd.view_39 [Str.ofString "human_delta"]) mean mg mb 118 [(l, listOf #[.ref D, .int at' t] c), (D, listOf ws.toArray e), (d0, o0), (d1, o1), (d2, o2), (d3, o3), (d4, o4), (d5, o5), (d6, o6)]
    (IntsAre ws xs ∧ 0 < xs.length ∧ xs.length ≤ 100 ∧ (∀ x ∈ xs, 0 ≤ x ∧ x < 1000003) ∧ 0 ≤ at' ∧ at' < 1000 ∧ 0 < many ∧ many < 10000000 ∧ @Ne Nat l D ∧ @Ne Nat l d0 ∧ @Ne Nat l d1 ∧ @Ne Nat l d2 ∧ @Ne Nat l d3 ∧ @Ne Nat l d4 ∧ @Ne Nat l d5 ∧ @Ne Nat l d6) [.ref l, .int many tm]
    (fun news' v => ∃ r tr t', v = .int r tr ∧ 0 ≤ r ∧ r < many ∧ news' = [(l, listOf #[.ref D, .int (at' + 1) t'] c), (D, listOf ws.toArray e), (d0, o0), (d1, o1), (d2, o2), (d3, o3), (d4, o4), (d5, o5), (d6, o6)]) := by
  dsimp only [ClaimN]
  w_top off
  k_fill
  intros
  rename_i hpre hdp hun hret
  obtain ⟨hI, hx0, hx1, hxb, ha0, ha1, hm0, hm1, z1, z2, z3, z4, z5, z6, z7, z8⟩ := hpre
  have hwl : ws.length = xs.length := hI.length
  obtain ⟨hq0, hq1, hq2, hq3, hq4, hq5⟩ := fd_facts ha0 (off := (xs.length : Int)) (by omega)
  have hq6 : 1 + at'.fdiv (xs.length : Int) ≠ 0 := by omega
  have hgb := hxb _ (getD_mem (xs := xs) (k := (at'.fmod (xs.length : Int)).toNat) (by omega))
  obtain ⟨hg0, hg1⟩ := hgb
  refine wpAny_call ?_
  k_dflt (refine' code_def ?k1 ?k2 ?k3 ?k4 ?k5 ?kA ?kF ?kK ?k6 ?k7 ?k8 ?k9 ?kB ?_ ?c2 ?c3 ?c4 ?c5; (case kA => exact rfl); (case kF => exact rfl); (case kK => assumption); (case k1 => k_asm); (case k2 => k_asm); (case k3 => k_asm); (case k4 => k_asm); (case k5 => k_asm); (case k6 => k_is); (case k7 => k_is); (case k8 => ktr_room); (case k9 => first | exact BindsTo.of_eq rfl | exact binds_K (by k_in) rfl (by k_is) rfl rfl rfl); (case c5 => decide); (case kB => exact locs rfl); (case c2 => exact rfl); (case c3 => exact rfl); (case c4 => exact rfl); k_whole; intro g' L' h' FG' F' N' B' X' T'; (try dsimp only); (try k_lift B'); (try k_fold))
  k_steps
  rename Fr _ _ _ _ => F9
  refine hret _ [(l, listOf #[.ref D, .int (at' + 1) _] c), (D, listOf ws.toArray e), (d0, o0), (d1, o1), (d2, o2), (d3, o3), (d4, o4), (d5, o5), (d6, o6)] _ _ ⟨_, _, _, rfl, Int.fmod_nonneg_of_pos _ hm0, Int.fmod_lt_of_pos _ hm0, rfl⟩ F9 (cb_drop (by assumption) (by kcj_all))
end Mine
end
section
open PySem PySem.W PyProof.Rows
namespace Mine
theorem small_ok {b : Int} (h0 : 0 ≤ b) (h1 : b < 1000) : Builtin.Range.small 0 b 1 = true := by
  have h : ∀ n : Nat, n < 1000 → Builtin.Range.small 0 (n : Int) 1 = true := by decide +kernel
  obtain ⟨n, rfl⟩ := Int.eq_ofNat_of_zero_le h0
  exact h n (by omega)
theorem rsize_ok {b : Int} (h0 : 0 ≤ b) : Builtin.Range.rangeSize 0 b 1 = (b.toNat : Int) := by
  unfold Builtin.Range.rangeSize
  rw [if_pos (by decide)]
  split <;> omega
theorem xs_ok (ns : List Int) : ∀ x ∈ (ns.map (fun k' => (if k' < 0 then -k' else k').fmod 1000003)) ++ [5, 0, 11], 0 ≤ x ∧ x < 1000003 := by
  intro x hx
  rcases List.mem_append.mp hx with hx | hx
  · obtain ⟨k, -, rfl⟩ := List.mem_map.mp hx
    exact ⟨Int.fmod_nonneg_of_pos _ (by decide), Int.fmod_lt_of_pos _ (by decide)⟩
  · simp only [List.mem_cons, List.not_mem_nil, or_false] at hx
    rcases hx with rfl | rfl | rfl <;> decide
theorem intsAre_one (n : Int) (t : Tok) : IntsAre [.int n t] [n] := .cons n t .nil
def J1 (w : World) (L l D nl x dx hl : Addr) (o1 o2 : Obj) (ws : List Value) (i : Nat) (m : Str → Option Value) (nx : List (Addr × Obj)) : Prop :=
  ∃ (vs : List Value) (ns : List Int) (ps : List Cell) (t t1 t2 t3 : Tok) (cn ch : Nat), IntsAre vs ns ∧ ns.length = i ∧ IsHp ps ∧ (ps.map (·.1)).Perm ns ∧ (∀ n ∈ ns, -1000 ≤ n ∧ n ≤ 1000) ∧ m (Str.ofString "state") = some (.ref l) ∧ m (Str.ofString "least") = some (.ref x) ∧
  (∀ p ∈ [(l, listOf #[.ref D, .int (1 + (i : Int)) t] 0), (D, listOf ws.toArray 0), (nl, listOf vs.toArray cn), (x, instObj 102 dx),
    (dx, dictOf [⟨PyData.keyHash w.params (Str.ofString "heap"), .str (Str.ofString "heap") t1, .ref hl⟩, ⟨PyData.keyHash w.params (Str.ofString "ct"), .str (Str.ofString "ct") t2, .int i t3⟩] 2),
    (hl, hpO ps ch), (L + 1, o1), (L + 1 + 1, o2)], p ∈ nx)
theorem news_rot2 {h₀ h : Heap} {L : Addr} {a b c : Addr × Obj} {r : List (Addr × Obj)} (N : News h₀ L h (a :: b :: c :: r)) : News h₀ L h (b :: c :: a :: r) :=
  news_sub N fun q hq => by
    rcases List.mem_cons.mp hq with rfl | hq
    · exact .tail _ (.head _)
    · rcases List.mem_cons.mp hq with rfl | hq
      · exact .tail _ (.tail _ (.head _))
      · rcases List.mem_cons.mp hq with rfl | hq
        · exact .head _
        · exact .tail _ (.tail _ (.tail _ hq))
theorem cut_first {w : World} {L l D nl x dx hl : Addr} {o1 o2 : Obj} {ws : List Value} {m : Str → Option Value} {nx : List (Addr × Obj)} {t t1 t2 t3 : Tok} {h₀ h : Heap}
    (F : Fr h₀ L h m) (N : News h₀ L h nx) (hc : o1.data = .cell (some (.ref nl))) (k7 : (L + 1, o1) ∈ nx) (k8 : (L + 1 + 1, o2) ∈ nx) (h1 : m (Str.ofString "state") = some (.ref l)) (h2 : m (Str.ofString "least") = some (.ref x))
    (k1 : (l, listOf #[.ref D, .int 0 t] 0) ∈ nx) (k2 : (D, listOf ws.toArray 0) ∈ nx) (k3 : (x, instObj 102 dx) ∈ nx)
    (k4 : (dx, dictOf [⟨PyData.keyHash w.params (Str.ofString "heap"), .str (Str.ofString "heap") t1, .ref hl⟩, ⟨PyData.keyHash w.params (Str.ofString "ct"), .str (Str.ofString "ct") t2, .int 0 t3⟩] 2) ∈ nx)
    (k5 : (hl, listOf #[] 0) ∈ nx) (k6 : (nl, listOf #[] 0) ∈ nx) :
    News h₀ L h [(l, listOf #[.ref D, .int 0 t] 0), (D, listOf ws.toArray 0), (L + 1 + 1, o2), (nl, listOf #[] 0), (x, instObj 102 dx),
      (dx, dictOf [⟨PyData.keyHash w.params (Str.ofString "heap"), .str (Str.ofString "heap") t1, .ref hl⟩, ⟨PyData.keyHash w.params (Str.ofString "ct"), .str (Str.ofString "ct") t2, .int 0 t3⟩] 2),
      (hl, listOf #[] 0), (L + 1, o1), (L + 1 + 1, o2)] :=
  news_sub N (sub_cons k1 (sub_cons k2 (sub_cons k8 (sub_cons k6 (sub_cons k3 (sub_cons k4 (sub_cons k5 (sub_cons k7 (sub_cons k8 sub_nil)))))))))
theorem xs_have {ws : List Value} {ns : List Int} (h : IntsAre ws ((ns.take 24).map (fun k' => (if k' < 0 then -k' else k').fmod 1000003) ++ [5, 0, 11])) :
    ∃ xs : List Int, IntsAre ws xs ∧ 0 < xs.length ∧ xs.length ≤ 100 ∧ ∀ x ∈ xs, 0 ≤ x ∧ x < 1000003 :=
  ⟨_, h, by simp, by simp; omega, xs_ok _⟩
theorem J1_start {w : World} {L l D nl x dx hl : Addr} {o1 o2 : Obj} {ws : List Value} {m : Str → Option Value} {t t1 t2 t3 : Tok}
    (h1 : m (Str.ofString "state") = some (.ref l)) (h2 : m (Str.ofString "least") = some (.ref x)) :
    J1 w L l D nl x dx hl o1 o2 ws 0 m [(l, listOf #[.ref D, .int (0 + 1) t] 0), (D, listOf ws.toArray 0), (L + 1 + 1, o2), (nl, listOf #[] 0), (x, instObj 102 dx),
      (dx, dictOf [⟨PyData.keyHash w.params (Str.ofString "heap"), .str (Str.ofString "heap") t1, .ref hl⟩, ⟨PyData.keyHash w.params (Str.ofString "ct"), .str (Str.ofString "ct") t2, .int 0 t3⟩] 2),
      (hl, listOf #[] 0), (L + 1, o1), (L + 1 + 1, o2)] :=
  ⟨[], [], [], t, t1, t2, t3, 0, 0, .nil, rfl, (fun i _ hi => absurd hi (Nat.not_lt_zero _)), .nil, (fun _ h => nomatch h), h1, h2,
    sub_cons (by k_mem) (sub_cons (by k_mem) (sub_cons (by k_mem) (sub_cons (by k_mem) (sub_cons (by k_mem) (sub_cons (by k_mem) (sub_cons (by k_mem) (sub_cons (by k_mem) sub_nil)))))))⟩
theorem J1_next {w : World} {L l D nl x dx hl : Addr} {o1 o2 : Obj} {ws : List Value} {m : Str → Option Value} {nx : List (Addr × Obj)} {t t1 t2 t3 : Tok} {i : Nat} {vs : List Value} {ns : List Int} {ps ps' : List Cell} {cn ch : Nat} {n : Int} {tn : Tok}
    (hI : IntsAre vs ns) (hl' : ns.length = i) (hp : (ps.map (·.1)).Perm ns) (hb : ∀ n ∈ ns, -1000 ≤ n ∧ n ≤ 1000) (hn0 : -1000 ≤ n) (hn1 : n ≤ 1000) (hh : IsHp ps') (hp' : ps'.Perm (ps ++ [(n, tn)]))
    (h1 : m (Str.ofString "state") = some (.ref l)) (h2 : m (Str.ofString "least") = some (.ref x))
    (k1 : (l, listOf #[.ref D, .int (1 + (i : Int) + 1) t] 0) ∈ nx) (k2 : (D, listOf ws.toArray 0) ∈ nx) (k6 : (nl, listOf (vs.toArray.push (.int n tn)) cn) ∈ nx) (k3 : (x, instObj 102 dx) ∈ nx)
    (k4 : (dx, dictOf [⟨PyData.keyHash w.params (Str.ofString "heap"), .str (Str.ofString "heap") t1, .ref hl⟩, ⟨PyData.keyHash w.params (Str.ofString "ct"), .str (Str.ofString "ct") t2, .int ((i : Int) + 1) t3⟩] 2) ∈ nx)
    (k5 : (hl, hpO ps' ch) ∈ nx) (k7 : (L + 1, o1) ∈ nx) (k8 : (L + 1 + 1, o2) ∈ nx) : J1 w L l D nl x dx hl o1 o2 ws (i + 1) m nx := by
  have e1 : (1 + (i : Int) + 1) = 1 + ((i + 1 : Nat) : Int) := by omega
  have e2 : ((i : Int) + 1) = ((i + 1 : Nat) : Int) := by omega
  rw [e1] at k1
  rw [e2] at k4
  have e3 : vs.toArray.push (Value.int n tn) = (vs ++ [Value.int n tn]).toArray := List.push_toArray ..
  rw [e3] at k6
  refine ⟨vs ++ [.int n tn], ns ++ [n], ps', t, t1, t2, t3, cn, ch, hI.append (intsAre_one n tn), by simp [hl'], hh, ?_, ?_, h1, h2,
    sub_cons k1 (sub_cons k2 (sub_cons k6 (sub_cons k3 (sub_cons k4 (sub_cons k5 (sub_cons k7 (sub_cons k8 sub_nil)))))))⟩
  · have := hp'.map (·.1)
    rw [List.map_append] at this
    exact this.trans (hp.append_right _)
  · intro k hk
    rcases List.mem_append.mp hk with hk | hk
    · exact hb k hk
    · rw [List.mem_singleton.mp hk]; exact ⟨hn0, hn1⟩
end Mine
namespace Mine
def prs (ns : List Int) : Nat → List Int
  | 0 => []
  | i + 1 => prs ns i ++ (ns.take i).map fun o => if ns.getD i 0 - o < 0 then -(ns.getD i 0 - o) else ns.getD i 0 - o
theorem prs_len (ns : List Int) : ∀ i, i ≤ 12 → (prs ns i).length ≤ 12 * i
  | 0, _ => Nat.le_refl _
  | i + 1, h => by
    have := prs_len ns i (by omega)
    simp only [prs, List.length_append, List.length_map, List.length_take]
    omega
def J2 (w : World) (L l D nl x dx hl : Addr) (o1 : Obj) (ws vs : List Value) (ns : List Int) (ps : List Cell) (n : Nat) (t t1 t2 t3 : Tok) (cn ch : Nat) (i : Nat) (m : Str → Option Value) (nx : List (Addr × Obj)) : Prop :=
  ∃ (p : Addr) (pvs : List Value) (cp : Nat) (o2 : Obj) (v2 : Option Value), IntsAre pvs (prs ns i) ∧ @LT.lt Nat _ (L + 1 + 1) p ∧ @LT.lt Nat _ hl p ∧ o2.data = .cell v2 ∧ m (Str.ofString "state") = some (.ref l) ∧ m (Str.ofString "least") = some (.ref x) ∧ m (Str.ofString "pairs") = some (.ref p) ∧
  (∀ q ∈ [(p, listOf pvs.toArray cp), (l, listOf #[.ref D, .int (1 + (n : Int)) t] 0), (D, listOf ws.toArray 0), (nl, listOf vs.toArray cn), (x, instObj 102 dx),
    (dx, dictOf [⟨PyData.keyHash w.params (Str.ofString "heap"), .str (Str.ofString "heap") t1, .ref hl⟩, ⟨PyData.keyHash w.params (Str.ofString "ct"), .str (Str.ofString "ct") t2, .int n t3⟩] 2),
    (hl, hpO ps ch), (L + 1, o1), (L + 1 + 1, o2)], q ∈ nx)
theorem J2_start {w : World} {L l D nl x dx hl p : Addr} {o1 o2 : Obj} {v2 : Option Value} {ws vs : List Value} {ns : List Int} {ps : List Cell} {n : Nat} {t t1 t2 t3 : Tok} {cn ch : Nat} {m : Str → Option Value} {nx : List (Addr × Obj)}
    (hc : o2.data = .cell v2) (hlp : @LT.lt Nat _ (L + 1 + 1) p) (hhp : @LT.lt Nat _ hl p) (h1 : m (Str.ofString "state") = some (.ref l)) (h2 : m (Str.ofString "least") = some (.ref x)) (h3 : m (Str.ofString "pairs") = some (.ref p))
    (h : ∀ q ∈ [(p, listOf ([] : List Value).toArray 0), (l, listOf #[.ref D, .int (1 + (n : Int)) t] 0), (D, listOf ws.toArray 0), (nl, listOf vs.toArray cn), (x, instObj 102 dx),
    (dx, dictOf [⟨PyData.keyHash w.params (Str.ofString "heap"), .str (Str.ofString "heap") t1, .ref hl⟩, ⟨PyData.keyHash w.params (Str.ofString "ct"), .str (Str.ofString "ct") t2, .int n t3⟩] 2),
    (hl, hpO ps ch), (L + 1, o1), (L + 1 + 1, o2)], q ∈ nx) : J2 w L l D nl x dx hl o1 ws vs ns ps n t t1 t2 t3 cn ch 0 m nx :=
  ⟨p, [], 0, o2, v2, .nil, hlp, hhp, hc, h1, h2, h3, h⟩
theorem J2_next {w : World} {L l D nl x dx hl p : Addr} {o1 o2 : Obj} {v2 : Option Value} {ws vs : List Value} {ns : List Int} {ps : List Cell} {n : Nat} {t t1 t2 t3 : Tok} {cn ch i : Nat} {m : Str → Option Value} {nx : List (Addr × Obj)} {pvs : List Value} {cp : Nat}
    (hI : IntsAre pvs (prs ns i ++ (ns.take ((i : Int)).toNat).map fun o => if ns.getD ((i : Int)).toNat 0 - o < 0 then -(ns.getD ((i : Int)).toNat 0 - o) else ns.getD ((i : Int)).toNat 0 - o))
    (hc : o2.data = .cell v2) (hlp : @LT.lt Nat _ (L + 1 + 1) p) (hhp : @LT.lt Nat _ hl p) (h1 : m (Str.ofString "state") = some (.ref l)) (h2 : m (Str.ofString "least") = some (.ref x)) (h3 : m (Str.ofString "pairs") = some (.ref p))
    (h : ∀ q ∈ [(p, listOf pvs.toArray cp), (l, listOf #[.ref D, .int (1 + (n : Int)) t] 0), (D, listOf ws.toArray 0), (nl, listOf vs.toArray cn), (x, instObj 102 dx),
    (dx, dictOf [⟨PyData.keyHash w.params (Str.ofString "heap"), .str (Str.ofString "heap") t1, .ref hl⟩, ⟨PyData.keyHash w.params (Str.ofString "ct"), .str (Str.ofString "ct") t2, .int n t3⟩] 2),
    (hl, hpO ps ch), (L + 1, o1), (L + 1 + 1, o2)], q ∈ nx) : J2 w L l D nl x dx hl o1 ws vs ns ps n t t1 t2 t3 cn ch (i + 1) m nx := by
  rw [Int.toNat_natCast] at hI
  exact ⟨p, pvs, cp, o2, v2, hI, hlp, hhp, hc, h1, h2, h3, h⟩
end Mine
end
section
open PySem PySem.W PyProof.Rows
namespace Mine
abbrev rItm (i : Nat) : Itm := .tok (fun t => .int (i : Int) t)
section
variable {prog : Program} {w : World} {A : Around} {E : Value → Shared → Prop} {s : Shared} {env : Env} {h₀ : Heap} {body : List Stmt} {Q : Flow → Shared → Prop}
theorem off_of {I a : Addr} {o o' : Obj} {news : List (Addr × Obj)} (h : ∀ p ∈ news, p.1 < I) (hm : (a, o) ∈ news) : ((a, o') : Addr × Obj).1 ≠ I := Nat.ne_of_lt (h (a, o) hm : @LT.lt Nat _ a I)
theorem off_cons {I : Addr} {p : Addr × Obj} {r : List (Addr × Obj)} (h : p.1 ≠ I) (hr : ∀ q ∈ r, q.1 ≠ I) : ∀ q ∈ p :: r, q.1 ≠ I := List.forall_mem_cons.mpr ⟨h, hr⟩
theorem off_nil {I : Addr} : ∀ q ∈ ([] : List (Addr × Obj)), q.1 ≠ I := fun _ h => nomatch h
theorem off_gt {I a : Addr} {o : Obj} (h : @LT.lt Nat _ I a) : ((a, o) : Addr × Obj).1 ≠ I := Nat.ne_of_gt h
theorem unrW_end1 {L I : Addr} {it : Obj} {rest : (Str → Option Value) → List (Addr × Obj) → Prop} {s₁ : Shared} {h' : Heap} {tk : Nat} {m' : Str → Option Value} {all : List (Addr × Obj)} (F : Fr h₀ L h' m') (N : News h₀ L h' all) (news' : List (Addr × Obj))
    (hI : (I, it) ∈ all) (sub : ∀ p ∈ news', p ∈ all) (off : ∀ p ∈ news', p.1 ≠ I) (r : rest m' news') : UnrEndW h₀ L s₁ [(I, it)] rest { s₁ with heap := h', toks := tk } :=
  ⟨h', tk, m', news', rfl, F, fun p hp => by
    rcases List.mem_append.mp hp with hp | hp
    · rw [List.mem_singleton.mp hp]; exact N _ hI
    · exact N p (sub p hp), fun p hp q hq => by rw [List.mem_singleton.mp hq]; exact off p hp, r⟩
theorem iter_rangeTurns {y : Str} {py : Pos} {r : Addr} {b₀ : Int} {t₀ u₀ v₀ : Tok} {n : Nat} {m₀ : Str → Option Value} {news : List (Addr × Obj)}
    (hh : A.handled = none) (hr : IsRange s.heap r 0 b₀ 1 t₀ u₀ v₀) (hsmall : Builtin.Range.small 0 b₀ 1 = true) (hn : Builtin.Range.rangeSize 0 b₀ 1 = (n : Int)) (F : Fr h₀ env.locals s.heap m₀) (N : News h₀ env.locals s.heap news)
    (rest₀ : ∀ I : Addr, (∀ p ∈ news, p.1 < I) → ItemsRest prog w A E h₀ env (.Name y py) body Q s [(I, "range_iterator")] [] ((List.range n).map rItm) m₀ news) :
    wpAny (model prog w) A (pyIter (.ref r)) (fun it s₂ => TurnsAt prog w A h₀ env (.Name y py) body Q E it s₂) E s := by
  refine wpAny_pyIter_range hr hsmall ?_
  have W : Walks prog w A s.heap.objs.size [s.heap.objs.size] [s.heap.objs.size] n (fun i v => i < n ∧ ∃ t, v = .int (0 + i * 1) t)
      (fun i h => IsRangeIter h s.heap.objs.size (0 + (i : Nat) * 1) ((n : Int) - (i : Nat)) 1) := (Walks.range hh _ 0 1 n).bound
  refine ktu_core (tk0 := s.toks) (keep := []) (KTurns.ofWalks W fun i v s Q E st q => wpAny_pure q) (by simp) (fun i v h hp => ?_) (fun i h st => ?_) (fun b hb => ?_) (fun b hb => by simpa using hb) (fun b hb => ?_) ?_ (fun p hp hI => ?_) ?_ (F.push _) (fun p hp => ⟨Heap.get?_push_of_some _ (N p hp).1, (N p hp).2⟩) trivial (rest₀ _ fun p hp => Heap.lt_size (N p hp).1)
  · obtain ⟨hi, t, rfl⟩ := hp
    refine ⟨rItm i, by simp [hi], t, ?_⟩
    rw [Int.mul_one, Int.zero_add]
  · exact ⟨[(s.heap.objs.size, _)], ⟨⟨rfl, rfl⟩, trivial⟩, fun p hp => by rw [List.mem_singleton.mp hp]; exact st⟩
  · have hb' : b = s.heap.objs.size := by simpa using hb
    rw [hb']
    exact ⟨List.mem_cons_self .., next_is_new F⟩
  · exact .inl (by simpa using hb)
  · intro hI
    exact absurd F.ns.lt ((List.mem_singleton.mp hI) ▸ Nat.lt_irrefl _)
  · exact absurd (Heap.lt_size (N p hp).1) ((List.mem_singleton.mp hI) ▸ Nat.lt_irrefl _)
  · show IsRangeIter _ _ _ _ _
    rw [hn]; simpa using Heap.get?_push_size _ rfl
theorem rangeT_inv {y : Str} {py : Pos} {I : Addr} {n : Nat} (J : Nat → (Str → Option Value) → List (Addr × Obj) → Prop)
    (turn : ∀ i m news, i < n → J i m news → ∀ t h tk, Fr h₀ env.locals h m → ∀ it : Obj, it.cls = .type "range_iterator" → News h₀ env.locals h ((I, it) :: news) →
      wpAny (model prog w) A (assign (.Name y py) env (.int (i : Int) t)) (fun _ s₂ => wpAny (model prog w) A (execs body env) (UnrPostW h₀ env.locals { s with heap := h, toks := tk } [(I, it)] (J (i + 1)) Q) E s₂) E { s with heap := h, toks := tk })
    (done : ∀ m news, J n m news → ∀ h tk, Fr h₀ env.locals h m → News h₀ env.locals h news → Q .next { s with heap := h, toks := tk }) {m₀ : Str → Option Value} {news : List (Addr × Obj)} (h0 : J 0 m₀ news) :
    ItemsRest prog w A E h₀ env (.Name y py) body Q s [(I, "range_iterator")] [] ((List.range n).map rItm) m₀ news := by
  refine items_inv (fun r m nx => ∃ i, i ≤ n ∧ r = ((List.range n).drop i).map rItm ∧ J i m nx) ?_ ?_ _ _ _ ⟨0, Nat.zero_le _, rfl, h0⟩
  · rintro a r m news ⟨i, hi, e, hj⟩ v h tk hv F
    have hlt : i < n := by
      rcases Nat.lt_or_ge i n with h | h
      · exact h
      · rw [List.drop_eq_nil_of_le (by simpa using h)] at e; cases e
    rw [List.drop_eq_getElem_cons (by simpa using hlt), List.map_cons] at e
    injection e with e1 e2
    subst e1
    simp only [List.getElem_range] at hv
    obtain ⟨t, rfl⟩ := hv
    refine fun it hit N => ?_
    refine wpAny_mono (turn i m news hlt hj t h tk F it hit N) (fun _ _ p => wpAny_mono p (fun _ _ q => unrPostW_mono (fun m' n' z => ⟨trivial, i + 1, hlt, e2, z⟩) q) fun _ _ e => e) fun _ _ e => e
  · rintro m news ⟨i, hi, e, hj⟩ h tk F N
    have : i = n := by
      rcases Nat.lt_or_ge i n with h | h
      · rw [List.drop_eq_getElem_cons (by simpa using h)] at e; cases e
      · omega
    subst this
    exact done m news hj h tk F N
end
end Mine
end
section
open PySem PySem.W PyProof.Rows
namespace Mine
section
variable {prog : Program} {w : World} {A : Around} {E : Value → Shared → Prop} {s : Shared} {env : Env} {h₀ : Heap} {L : Addr} {m : Str → Option Value} {test : Expr} {body orelse : List Stmt} {pos : Pos} {Q : Flow → Shared → Prop}
/-- the state a piece of code leaves: another heap, the same frame, a shorter ledger -/
def LeftS (h₀ : Heap) (L : Addr) (s : Shared) (m : Str → Option Value) (nx : List (Addr × Obj)) (s₂ : Shared) : Prop := ∃ h tk, s₂ = { s with heap := h, toks := tk } ∧ Fr h₀ L h m ∧ News h₀ L h nx
theorem leftS {h : Heap} {tk : Nat} {nx : List (Addr × Obj)} (F : Fr h₀ L h m) (N : News h₀ L h nx) : LeftS h₀ L s m nx { s with heap := h, toks := tk } := ⟨h, tk, rfl, F, N⟩
theorem if_cut (nx : List (Addr × Obj)) (h : wpAny (model prog w) A (isTrue test env (eval test env)) (fun b s₂ => b = false ∧ LeftS h₀ L s m nx s₂) E s)
    (h2 : ∀ h tk, Fr h₀ L h m → News h₀ L h nx → wpAny (model prog w) A (execs orelse env) Q E { s with heap := h, toks := tk }) : wpAny (model prog w) A (exec (.If test body orelse pos) env) Q E s :=
  wpAny_If (wpAny_mono h (fun b s₂ p => by
    obtain ⟨rfl, h, tk, rfl, F, N⟩ := p
    simpa using h2 h tk F N) fun _ _ e => e)
theorem if_cut9 {q0 q1 q2 q3 q4 q5 q6 q7 q8 : Addr × Obj} (F : Fr h₀ L s.heap m) (N : News h₀ L s.heap [q0, q1, q2, q3, q4, q5, q6, q7, q8])
    (h : wpAny (model prog w) A (isTrue test env (eval test env)) (fun b s₂ => b = false ∧ LeftS h₀ L s m [q4, q5, q6, q7, q8] s₂) E s)
    (h2 : ∀ h tk, Fr h₀ L h m → News h₀ L h [q4, q5, q6, q7, q8] → wpAny (model prog w) A (execs orelse env) Q E { s with heap := h, toks := tk }) : wpAny (model prog w) A (exec (.If test body orelse pos) env) Q E s :=
  if_cut _ h h2
theorem news_turn9 {h : Heap} {q0 q1 q2 q3 q4 q5 q6 q7 q8 : Addr × Obj} (N : News h₀ L h [q0, q1, q2, q3, q4, q5, q6, q7, q8]) : News h₀ L h [q6, q4, q5, q0, q1, q2, q3, q7, q8] :=
  news_sub N (sub_cons (by k_mem) (sub_cons (by k_mem) (sub_cons (by k_mem) (sub_cons (by k_mem) (sub_cons (by k_mem) (sub_cons (by k_mem) (sub_cons (by k_mem) (sub_cons (by k_mem) (sub_cons (by k_mem) sub_nil)))))))))
theorem ne9_of {h : Heap} {a0 a1 a2 a3 a4 a5 a6 a7 a8 : Addr} {o0 o1 o2 o3 o4 o5 o6 o7 o8 : Obj} (N : News h₀ L h [(a0, o0), (a1, o1), (a2, o2), (a3, o3), (a4, o4), (a5, o5), (a6, o6), (a7, o7), (a8, o8)])
    (h1 : @Ne Nat a0 a1) (h2 : @Ne Nat a0 a2) (h3 : @Ne Nat a0 a3) (h4 : @Ne Nat a0 a4) (h5 : @Ne Nat a0 a5) (h6 : @Ne Nat a0 a6) (h7 : @Ne Nat a0 a7) (h8 : @Ne Nat a0 a8)
    (k1 : @Ne Nat a4 a5) (k2 : @Ne Nat a4 a6) (k3 : @Ne Nat a4 a7) (k4 : @Ne Nat a4 a8) :
    PySem.Flt.Hid ((@Ne Nat a0 a1 ∧ @Ne Nat a0 a2 ∧ @Ne Nat a0 a3 ∧ @Ne Nat a0 a4 ∧ @Ne Nat a0 a5 ∧ @Ne Nat a0 a6 ∧ @Ne Nat a0 a7 ∧ @Ne Nat a0 a8) ∧ @Ne Nat a4 a5 ∧ @Ne Nat a4 a6 ∧ @Ne Nat a4 a7 ∧ @Ne Nat a4 a8) :=
  PySem.Flt.Hid.mk ⟨⟨h1, h2, h3, h4, h5, h6, h7, h8⟩, k1, k2, k3, k4⟩
end
end Mine
end
section
open PySem PySem.W PyProof.Rows
set_option maxRecDepth 100000
set_option maxHeartbeats 8000000
namespace Mine
set_option linter.unusedVariables false
def ab (x : Int) : Int := if x < 0 then -x else x
def MinD (d : Int) (P : List Int) : Prop := P.Pairwise (fun x y => d ≤ ab (y - x)) ∧ ¬ P.Pairwise (fun x y => d < ab (y - x))
def FinV (v : Value) (P : List Int) : Prop := (P.length = 0 ∧ v = .none) ∨ (P.length = 1 ∧ ∃ t, v = .int 0 t) ∨ (2 ≤ P.length ∧ ∃ d t, v = .int d t ∧ MinD d P)
def FinS (P : List Int) (ps' : List Cell) (pv mv : Value) : Prop := (P = [] ∧ pv = .none ∧ mv = .none) ∨ (∃ a ta, P = [a] ∧ pv = .int a ta ∧ mv = .none ∧ ∀ q ∈ ps', a ≤ q.1) ∨
  ∃ a ta d td, pv = .int a ta ∧ mv = .int d td ∧ a ∈ P ∧ (∀ y ∈ P, y ≤ a) ∧ (∀ q ∈ ps', a ≤ q.1) ∧ MinD d P
theorem ab_comm (x y : Int) : ab (y - x) = ab (x - y) := by unfold ab; split <;> split <;> omega
theorem minD_perm {d : Int} {P P' : List Int} (h : P.Perm P') (hd : MinD d P) : MinD d P' :=
  ⟨(h.pairwise_iff fun {x y} z => by rw [ab_comm]; exact z).mp hd.1, fun z => hd.2 ((h.pairwise_iff fun {x y} z => by rw [ab_comm]; exact z).mpr z)⟩
theorem minD_two {a b : Int} (h : a ≤ b) : MinD (b - a) [b, a] := by
  constructor
  · simp only [List.pairwise_cons, List.mem_singleton, forall_eq, List.not_mem_nil, false_implies, implies_true, List.Pairwise.nil, and_true]
    unfold ab; split <;> omega
  · simp only [List.pairwise_cons, List.mem_singleton, forall_eq, List.not_mem_nil, false_implies, implies_true, List.Pairwise.nil, and_true]
    unfold ab; split <;> omega
theorem minD_less {d a b : Int} {P : List Int} (h : MinD d P) (hP : ∀ y ∈ P, y ≤ a) (ha : a ∈ P) (hab : a ≤ b) (hd : b - a < d) : MinD (b - a) (b :: P) := by
  refine ⟨List.pairwise_cons.mpr ⟨fun y hy => ?_, h.1.imp fun {x y} z => by omega⟩, fun z => ?_⟩
  · have := hP y hy
    unfold ab; split <;> omega
  · have := (List.pairwise_cons.mp z).1 a ha
    unfold ab at this; split at this <;> omega
theorem minD_keep {d a b : Int} {P : List Int} (h : MinD d P) (hP : ∀ y ∈ P, y ≤ a) (hab : a ≤ b) (hd : ¬ b - a < d) : MinD d (b :: P) := by
  refine ⟨List.pairwise_cons.mpr ⟨fun y hy => ?_, h.1⟩, fun z => h.2 (List.pairwise_cons.mp z).2⟩
  have := hP y hy
  unfold ab; split <;> omega
theorem pos_of {ps : List Cell} (h : (ps.map iv).isEmpty = false) : 0 < ps.length := by
  cases ps with
  | nil => simp at h
  | cons a r => simp
theorem nil_of {ps : List Cell} (h : (ps.map iv).isEmpty = true) : ps = [] := by
  cases ps with
  | nil => rfl
  | cons a r => simp at h
theorem fin_perm {P : List Int} {ps ps' ps2 : List Cell} {b : Int} {tb : Tok} (h : (P ++ ps'.map (·.1)).Perm (ps.map (·.1))) (h2 : ((b, tb) :: ps2).Perm ps') : ((b :: P) ++ ps2.map (·.1)).Perm (ps.map (·.1)) := by
  have h3 := h2.map (fun p : Cell => p.1)
  rw [List.map_cons] at h3
  exact List.perm_middle.symm.trans ((h3.append_left P).trans h)
theorem fin_sub {ps' ps2 : List Cell} {b : Int} {tb : Tok} (h2 : ((b, tb) :: ps2).Perm ps') : ∀ p ∈ ps2, p ∈ ps' := fun p hp => h2.subset (.tail _ hp)
theorem fin_le {P : List Int} {a b : Int} (h : a ≤ b) (hP : ∀ y ∈ P, y ≤ a) : ∀ y ∈ b :: P, y ≤ b := fun y hy => by
  rcases List.mem_cons.mp hy with rfl | hy
  · exact Int.le_refl _
  · exact Int.le_trans (hP y hy) h
theorem fin_out {P : List Int} {ps : List Cell} (h : (P ++ ([] : List Cell).map (·.1)).Perm (ps.map (·.1))) : P.Perm (ps.map (·.1)) := by simpa using h
local macro_rules | `(tactic| walk_at "WhileStep2") => `(tactic| (k_here; refine STOP.out ?_))
local macro_rules | `(tactic| walk_at "call builtin:_heapq.heappop") => `(tactic| (k_here; refine STOP.out ?_))
local macro_rules | `(tactic| walk_at "exec While Attribute cons nil") => `(tactic| (k_here; refine STOP.out ?_))
theorem fin_call (w : World) (mean : ExcName → Option Value) (mg mb : Str → Option Value) (x dx hl d0 d1 d2 d3 d4 d5 : Addr) (o0 o1 o2 o3 o4 o5 : Obj) (ps : List Cell) (n : Nat) (t1 t2 t3 : Tok) (ch : Nat) :
  ClaimN PySem.Challenge.rw_ez0234_01.row.prog w (hd.heap_39 w.params) hd.view_39 (looseW hd.view_39 [Str.ofString "human_delta"]) mean mg mb 99 [(hl, hpO ps ch), (x, instObj 102 dx),
    (dx, dictOf [⟨PyData.keyHash w.params (Str.ofString "heap"), .str (Str.ofString "heap") t1, .ref hl⟩, ⟨PyData.keyHash w.params (Str.ofString "ct"), .str (Str.ofString "ct") t2, .int n t3⟩] 2),
    (d0, o0), (d1, o1), (d2, o2), (d3, o3), (d4, o4), (d5, o5)]
    (IsHp ps ∧ ps.length = n ∧ n ≤ 1000 ∧ (∀ p ∈ ps, -1000 ≤ p.1 ∧ p.1 ≤ 1000) ∧ @Ne Nat hl x ∧ @Ne Nat hl dx ∧ @Ne Nat hl d0 ∧ @Ne Nat hl d1 ∧ @Ne Nat hl d2 ∧ @Ne Nat hl d3 ∧ @Ne Nat hl d4 ∧ @Ne Nat hl d5) [.ref x]
    (fun news' v => FinV v (ps.map (·.1)) ∧ news' = [(d0, o0), (d1, o1), (d2, o2), (d3, o3), (d4, o4), (d5, o5)]) := by
  dsimp only [ClaimN]
  w_top off
  k_fill
  intros
  rename_i hpre hdp hun hret
  obtain ⟨hh, hpl, hn1, hb, z1, z2, z3, z4, z5, z6, z7, z8⟩ := hpre
  refine wpAny_call ?_
  k_dflt (refine' code_def ?k1 ?k2 ?k3 ?k4 ?k5 ?kA ?kF ?kK ?k6 ?k7 ?k8 ?k9 ?kB ?_ ?c2 ?c3 ?c4 ?c5; (case kA => exact rfl); (case kF => exact rfl); (case kK => assumption); (case k1 => k_asm); (case k2 => k_asm); (case k3 => k_asm); (case k4 => k_asm); (case k5 => k_asm); (case k6 => k_is); (case k7 => k_is); (case k8 => ktr_room); (case k9 => first | exact BindsTo.of_eq rfl | exact binds_K (by k_in) rfl (by k_is) rfl rfl rfl); (case c5 => decide); (case kB => exact locs rfl); (case c2 => exact rfl); (case c3 => exact rfl); (case c4 => exact rfl); k_whole; intro g' L' h' FG' F' N' B' X' T'; (try dsimp only); (try k_lift B'); (try k_fold))
  k_steps
  · rename Fr _ _ _ _ => F9
    refine hret _ [(d0, o0), (d1, o1), (d2, o2), (d3, o3), (d4, o4), (d5, o5)] _ _ ⟨.inl ⟨by rw [List.length_map]; omega, rfl⟩, rfl⟩ F9 (cb_drop (by assumption) (by kcj_all))
  · rename Fr _ _ _ _ => F9
    refine hret _ [(d0, o0), (d1, o1), (d2, o2), (d3, o3), (d4, o4), (d5, o5)] _ _ ⟨.inr (.inl ⟨by rw [List.length_map]; omega, _, rfl⟩), rfl⟩ F9 (cb_drop (by assumption) (by kcj_all))
  · refine STOP.mk ?_
    rename Fr _ _ _ _ => F9
    rename News _ _ _ _ => N9
    refine While_inv2 (fun k m nx => ∃ (P : List Int) (ps' : List Cell) (c : Nat) (pv mv : Value), ps'.length = k ∧ IsHp ps' ∧ (P ++ ps'.map (·.1)).Perm (ps.map (·.1)) ∧ (∀ p ∈ ps', -1000 ≤ p.1 ∧ p.1 ≤ 1000) ∧ m (Str.ofString "self") = some (.ref x) ∧ m (Str.ofString "prev") = some pv ∧ m (Str.ofString "min_diff") = some mv ∧ FinS P ps' pv mv ∧ nx = [(hl, hpO ps' c), (x, instObj 102 dx),
    (dx, dictOf [⟨PyData.keyHash w.params (Str.ofString "heap"), .str (Str.ofString "heap") t1, .ref hl⟩, ⟨PyData.keyHash w.params (Str.ofString "ct"), .str (Str.ofString "ct") t2, .int n t3⟩] 2),
    (d0, o0), (d1, o1), (d2, o2), (d3, o3), (d4, o4), (d5, o5)]) F9 N9 ⟨[], ps, ch, .none, .none, rfl, hh, .refl _, hb, (by with_unfolding_all rfl), (by with_unfolding_all rfl), (by with_unfolding_all rfl), .inl ⟨rfl, rfl, rfl⟩, rfl⟩ ?_
    clear F9 N9
    rintro k m₁ nx h₁ tk₁ F₁ N₁ ⟨P, ps', c, pv, mv, hk, hh', hpm, hb', hm1, hm2, hm3, hS, rfl⟩
    have F₂ := fr_know3 hm1 hm2 hm3 F₁
    clear F₁
    have hpl' : P.length + ps'.length = n := by have := hpm.length_eq; simp only [List.length_append, List.length_map] at this; omega
    rcases hS with ⟨rfl, rfl, rfl⟩ | ⟨a0, ta, rfl, rfl, rfl, ha⟩ | ⟨a0, ta, d, td, rfl, rfl, haP, hP1, hP2, hD⟩
    · k_steps
      · rename (List.isEmpty _ = true) => he
        have he' := nil_of he
        subst he'
        have hq := fin_out hpm
        exfalso
        rw [List.length_nil, List.length_nil] at hpl'
        omega
      · refine STOP.mk ?_
        rename (List.isEmpty _ = false) => he
        have h0 := pos_of he
        k_dflt (refine' pop_K (c := c) (ps := ps') ?p1F ?p1N ?p1U hh' ?p1Z h0 ?_; (case p1F => k_asm); (case p1N => k_asm); (case p1U => (intro o'; k_upd)); (case p1Z => omega))
        rintro b tb ps2 h2 tk2 hh2 hp2 hmin F2 N2
        (try dsimp only at N2)
        have hl2 := hp2.length_eq
        rw [List.length_cons] at hl2
        k_steps
        all_goals (refine STOP.mk ?_)
        all_goals (rename Fr _ _ _ _ => F8)
        all_goals (rename News _ _ _ _ => N8)
        exact ⟨_, _, _, _, ps2.length, rfl, F8, N8, by omega, [b], ps2, _, _, _, rfl, hh2, fin_perm hpm hp2, fun p hp => hb' p (fin_sub hp2 p hp), (by with_unfolding_all rfl), (by with_unfolding_all rfl), (by with_unfolding_all rfl), .inr (.inl ⟨b, tb, rfl, rfl, rfl, fun q hq => hmin q (fin_sub hp2 q hq)⟩), rfl⟩
    · k_steps
      · rename (List.isEmpty _ = true) => he
        have he' := nil_of he
        subst he'
        have hq := fin_out hpm
        exfalso
        rw [List.length_singleton, List.length_nil] at hpl'
        omega
      · refine STOP.mk ?_
        rename (List.isEmpty _ = false) => he
        have h0 := pos_of he
        k_dflt (refine' pop_K (c := c) (ps := ps') ?p1F ?p1N ?p1U hh' ?p1Z h0 ?_; (case p1F => k_asm); (case p1N => k_asm); (case p1U => (intro o'; k_upd)); (case p1Z => omega))
        rintro b tb ps2 h2 tk2 hh2 hp2 hmin F2 N2
        (try dsimp only at N2)
        have hl2 := hp2.length_eq
        rw [List.length_cons] at hl2
        k_steps
        all_goals (refine STOP.mk ?_)
        all_goals (rename Fr _ _ _ _ => F8)
        all_goals (rename News _ _ _ _ => N8)
        have hab : a0 ≤ b := ha (b, tb) (hp2.subset (.head _))
        exact ⟨_, _, _, _, ps2.length, rfl, F8, N8, by omega, [b, a0], ps2, _, _, _, rfl, hh2, fin_perm hpm hp2, fun p hp => hb' p (fin_sub hp2 p hp), (by with_unfolding_all rfl), (by with_unfolding_all rfl), (by with_unfolding_all rfl), .inr (.inr ⟨b, tb, b - a0, _, rfl, rfl, .head _, fin_le hab fun y hy => by rw [List.mem_singleton.mp hy]; exact Int.le_refl _, fun q hq => hmin q (fin_sub hp2 q hq), minD_two hab⟩), rfl⟩
    · k_steps
      · rename (List.isEmpty _ = true) => he
        have he' := nil_of he
        subst he'
        have hq := fin_out hpm
        rename Fr _ _ _ _ => F8
        have hq' := hq.length_eq
        rw [List.length_map] at hq'
        refine hret _ [(d0, o0), (d1, o1), (d2, o2), (d3, o3), (d4, o4), (d5, o5)] _ _ ⟨.inr (.inr ⟨by rw [List.length_map]; omega, _, _, rfl, minD_perm hq hD⟩), rfl⟩ F8 (cb_drop (by assumption) (by kcj_all))
      · refine STOP.mk ?_
        rename (List.isEmpty _ = false) => he
        have h0 := pos_of he
        k_dflt (refine' pop_K (c := c) (ps := ps') ?p1F ?p1N ?p1U hh' ?p1Z h0 ?_; (case p1F => k_asm); (case p1N => k_asm); (case p1U => (intro o'; k_upd)); (case p1Z => omega))
        rintro b tb ps2 h2 tk2 hh2 hp2 hmin F2 N2
        (try dsimp only at N2)
        have hl2 := hp2.length_eq
        rw [List.length_cons] at hl2
        k_steps
        all_goals (refine STOP.mk ?_)
        all_goals (rename Fr _ _ _ _ => F8)
        all_goals (rename News _ _ _ _ => N8)
        all_goals (have hab : a0 ≤ b := hP2 (b, tb) (hp2.subset (.head _)))
        · exact ⟨_, _, _, _, ps2.length, rfl, F8, N8, by omega, b :: P, ps2, _, _, _, rfl, hh2, fin_perm hpm hp2, fun p hp => hb' p (fin_sub hp2 p hp), (by with_unfolding_all rfl), (by with_unfolding_all rfl), (by with_unfolding_all rfl), .inr (.inr ⟨b, tb, b - a0, _, rfl, rfl, .head _, fin_le hab hP1, fun q hq => hmin q (fin_sub hp2 q hq), minD_less hD hP1 haP hab (by omega)⟩), rfl⟩
        · exact ⟨_, _, _, _, ps2.length, rfl, F8, N8, by omega, b :: P, ps2, _, _, _, rfl, hh2, fin_perm hpm hp2, fun p hp => hb' p (fin_sub hp2 p hp), (by with_unfolding_all rfl), (by with_unfolding_all rfl), (by with_unfolding_all rfl), .inr (.inr ⟨b, tb, d, td, rfl, rfl, .head _, fin_le hab hP1, fun q hq => hmin q (fin_sub hp2 q hq), minD_keep hD hP1 hab (by omega)⟩), rfl⟩
theorem fin_pre {ps : List Cell} {ns : List Int} {n : Nat} {R : Prop} (hh : IsHp ps) (h1 : ps.length = n) (h2 : n ≤ 1000) (hp : (ps.map (·.1)).Perm ns) (hb : ∀ n ∈ ns, -1000 ≤ n ∧ n ≤ 1000) (hR : R) : IsHp ps ∧ ps.length = n ∧ n ≤ 1000 ∧ (∀ p ∈ ps, -1000 ≤ p.1 ∧ p.1 ≤ 1000) ∧ R :=
  ⟨hh, h1, h2, fun p hp' => hb _ (hp.subset (List.mem_map_of_mem hp')), hR⟩
end Mine
end
section
open PySem PySem.W PyProof.Rows
namespace Mine
theorem prs_all (R : Int → Prop) (ns : List Int) : ∀ i, i ≤ ns.length → ((∀ q ∈ prs ns i, R q) ↔ (ns.take i).Pairwise fun x y => R (ab (y - x)))
  | 0, _ => by simp [prs]
  | i + 1, h => by
    have ih := prs_all R ns i (by omega)
    have hi : i < ns.length := by omega
    have e : ns.getD i 0 = ns[i] := by simp [hi]
    rw [List.take_succ_eq_append_getElem hi, List.pairwise_append, ← ih]
    simp only [prs, List.mem_append, List.mem_map, List.pairwise_cons, List.mem_singleton, List.not_mem_nil, false_implies, implies_true, List.Pairwise.nil, true_and, e, and_self, forall_eq]
    constructor
    · intro z
      exact ⟨fun q hq => z q (.inl hq), fun a ha => z _ (.inr ⟨a, ha, rfl⟩)⟩
    · rintro ⟨z1, z2⟩ q (hq | ⟨a, ha, rfl⟩)
      · exact z1 q hq
      · exact z2 a ha
theorem prs_full (R : Int → Prop) (ns : List Int) : (∀ q ∈ prs ns ns.length, R q) ↔ ns.Pairwise fun x y => R (ab (y - x)) := by
  have := prs_all R ns ns.length (Nat.le_refl _)
  rwa [List.take_length] at this
theorem prs_pos {ns : List Int} (h : 2 ≤ ns.length) : 0 < (prs ns ns.length).length := by
  cases e : prs ns ns.length with
  | cons a r => simp
  | nil =>
    have z := (prs_full (fun _ => False) ns).mp (by rw [e]; exact fun _ h => nomatch h)
    cases ns with
    | nil => simp at h
    | cons a r =>
      cases r with
      | nil => simp at h
      | cons b r => exact ((List.pairwise_cons.mp z).1 b (.head _)).elim
theorem min_eq {d M : Int} {ns : List Int} (hD : MinD d ns) (hM : M ∈ prs ns ns.length) (hl : ∀ a, a ∈ prs ns ns.length → M ≤ a) : d = M := by
  have h1 := (prs_full (fun q => d ≤ q) ns).mpr hD.1 M hM
  rcases Int.lt_or_le d M with h2 | h2
  · exact (hD.2 ((prs_full (fun q => d < q) ns).mp fun q hq => Int.lt_of_lt_of_le h2 (hl q hq))).elim
  · omega
theorem no_nil {ns : List Int} {ps : List Cell} (h : decide (ns = []) = true) (hl : ps.length = ns.length) (hq : 1 ≤ (ps.map (·.1)).length) : False := by
  rw [List.length_map, hl, of_decide_eq_true h] at hq
  simp at hq
theorem no_some {ns : List Int} {ps : List Cell} (h : decide (ns = []) = false) (hl : ps.length = ns.length) (hq : (ps.map (·.1)).length = 0) : False := by
  rw [List.length_map, hl] at hq
  exact of_decide_eq_false h (List.eq_nil_of_length_eq_zero hq)
theorem str_same {d M : Int} (h : d = M) : (Str.ofString (toString d) != Str.ofString (toString M)) = false := by rw [h]; simp
theorem minD_bounds {d : Int} {ns : List Int} (hD : MinD d ns) (h : 2 ≤ ns.length) (hb : ∀ n ∈ ns, -1000 ≤ n ∧ n ≤ 1000) : 0 ≤ d ∧ d ≤ 2000 := by
  constructor
  · rcases Int.lt_or_le d 0 with h1 | h1
    · exact (hD.2 (hD.1.imp fun {x y} _ => by unfold ab; split <;> omega)).elim
    · exact h1
  · match ns, h, hD, hb with
    | a :: b :: r, _, hD, hb =>
      have h1 := (List.pairwise_cons.mp hD.1).1 b (.head _)
      have h2 := hb a (.head _)
      have h3 := hb b (.tail _ (.head _))
      unfold ab at h1; split at h1 <;> omega
end Mine
end
section
open PySem PySem.W PyProof.Rows
namespace Mine
theorem mul_bd {a b : Int} (h1 : a < 1000003) (h0 : 0 ≤ a) (h3 : b < 95) (h2 : 0 ≤ b) : 0 ≤ a * b ∧ a * b < 100000000 :=
  ⟨Int.mul_nonneg h0 h2, by
    have h4 : a * b ≤ 1000002 * b := Int.mul_le_mul_of_nonneg_right (by omega) h2
    omega⟩
def JB (l D nl ll c1 : Addr) (ws vs : List Value) (cn : Nat) (lo o1 : Obj) (r : List Itm) (m : Str → Option Value) (nx : List (Addr × Obj)) : Prop :=
  ∃ (a : Int) (t : Tok), 0 ≤ a ∧ a + 2 * (r.length : Int) ≤ 30 ∧ (∀ x ∈ r, ∃ g tg, x = .val (.str g tg) ∧ Between g) ∧ m (Str.ofString "state") = some (.ref l) ∧
    ∀ q ∈ [(l, listOf #[.ref D, .int a t] 0), (D, listOf ws.toArray 0), (ll, lo), (nl, listOf vs.toArray cn), (c1, o1)], q ∈ nx
theorem bet_three (t1 t2 t3 : Tok) : ∀ x ∈ [Itm.val (.str (Str.ofString ", ") t1), .val (.str (Str.ofString " + ") t2), .val (.str (Str.ofString "/") t3)], ∃ g tg, x = .val (.str g tg) ∧ Between g := by
  intro x hx
  simp only [List.mem_cons, List.not_mem_nil, or_false] at hx
  rcases hx with rfl | rfl | rfl
  · exact ⟨_, _, rfl, ⟨.inl rfl⟩⟩
  · exact ⟨_, _, rfl, ⟨.inr (.inl rfl)⟩⟩
  · exact ⟨_, _, rfl, ⟨.inr (.inr rfl)⟩⟩
theorem JB_start {l D nl ll c1 : Addr} {ws vs : List Value} {cn : Nat} {lo o1 o2 : Obj} {c2 : Addr} {a : Int} {t t1 t2 t3 : Tok} {m : Str → Option Value} (ha : 0 ≤ a) (ha' : a ≤ 24) (hm : m (Str.ofString "state") = some (.ref l)) :
    JB l D nl ll c1 ws vs cn lo o1 [Itm.val (.str (Str.ofString ", ") t1), .val (.str (Str.ofString " + ") t2), .val (.str (Str.ofString "/") t3)] m [(ll, lo), (l, listOf #[.ref D, .int a t] 0), (D, listOf ws.toArray 0), (nl, listOf vs.toArray cn), (c1, o1), (c2, o2)] :=
  ⟨a, t, ha, by simp only [List.length_cons, List.length_nil]; omega, bet_three t1 t2 t3, hm, sub_cons (by k_mem) (sub_cons (by k_mem) (sub_cons (by k_mem) (sub_cons (by k_mem) (sub_cons (by k_mem) sub_nil))))⟩
theorem JB_next {l D nl ll c1 : Addr} {ws vs : List Value} {cn : Nat} {lo o1 : Obj} {a : Int} {t : Tok} {m : Str → Option Value} {nx : List (Addr × Obj)} {i : Itm} {r : List Itm} (ha : 0 ≤ a) (ha' : a + 2 * ((i :: r).length : Int) ≤ 30)
    (hb : ∀ x ∈ i :: r, ∃ g tg, x = .val (.str g tg) ∧ Between g) (hm : m (Str.ofString "state") = some (.ref l)) (k1 : (l, listOf #[.ref D, .int (a + 1 + 1) t] 0) ∈ nx) (k2 : (D, listOf ws.toArray 0) ∈ nx) (k3 : (ll, lo) ∈ nx) (k4 : (nl, listOf vs.toArray cn) ∈ nx) (k5 : (c1, o1) ∈ nx) :
    JB l D nl ll c1 ws vs cn lo o1 r m nx :=
  ⟨a + 1 + 1, t, by omega, by simp only [List.length_cons] at ha'; omega, fun x hx => hb x (.tail _ hx), hm, sub_cons k1 (sub_cons k2 (sub_cons k3 (sub_cons k4 (sub_cons k5 sub_nil))))⟩
theorem bet9 {h₀ h : Heap} {L : Addr} {q0 q1 q2 q3 q4 i : Addr × Obj} {nx : List (Addr × Obj)} (N : News h₀ L h ([i] ++ nx)) (hs : ∀ q ∈ [q0, q1, q2, q3, q4], q ∈ nx) : News h₀ L h [q0, q1, q2, q3, q4, i, i, i, i] :=
  have k : ∀ q ∈ [q0, q1, q2, q3, q4], q ∈ [i] ++ nx := fun q hq => List.mem_append.mpr (.inr (hs q hq))
  news_sub N (sub_cons (k _ (by k_mem)) (sub_cons (k _ (by k_mem)) (sub_cons (k _ (by k_mem)) (sub_cons (k _ (by k_mem)) (sub_cons (k _ (by k_mem)) (sub_cons (.head _) (sub_cons (.head _) (sub_cons (.head _) (sub_cons (.head _) sub_nil)))))))))
theorem bet6 {h₀ h : Heap} {L : Addr} {q0 q1 q2 q3 q4 i : Addr × Obj} (N : News h₀ L h [q0, q1, q2, q3, q4, i, i, i, i]) : News h₀ L h [q0, q1, q2, q3, q4, i] :=
  news_sub N (sub_cons (by k_mem) (sub_cons (by k_mem) (sub_cons (by k_mem) (sub_cons (by k_mem) (sub_cons (by k_mem) (sub_cons (by k_mem) sub_nil))))))
theorem bet_end {l D nl ll c1 : Addr} {ws vs : List Value} {cn : Nat} {lo o1 : Obj} {a : Int} {t : Tok} {m : Str → Option Value} {i : Itm} {r : List Itm} {I : Addr} {it : Obj} {h₀ h' : Heap} {L : Addr} {s₁ : Shared} {tk : Nat}
    (F : Fr h₀ L h' m) (N : News h₀ L h' [(l, listOf #[.ref D, .int (a + 1 + 1) t] 0), (D, listOf ws.toArray 0), (ll, lo), (nl, listOf vs.toArray cn), (c1, o1), (I, it)])
    (ha : 0 ≤ a) (ha' : a + 2 * ((i :: r).length : Int) ≤ 30) (hb : ∀ x ∈ i :: r, ∃ g tg, x = .val (.str g tg) ∧ Between g) (hm : m (Str.ofString "state") = some (.ref l)) (z1 : @Ne Nat l I) (z2 : @Ne Nat D I) (z3 : @Ne Nat ll I) (z4 : @Ne Nat nl I) (z5 : @Ne Nat c1 I) :
    UnrEndW h₀ L s₁ [(I, it)] (fun m' n' => SubL [(ll, lo)] n' ∧ JB l D nl ll c1 ws vs cn lo o1 r m' n') { s₁ with heap := h', toks := tk } :=
  ⟨h', tk, m, [(l, listOf #[.ref D, .int (a + 1 + 1) t] 0), (D, listOf ws.toArray 0), (ll, lo), (nl, listOf vs.toArray cn), (c1, o1)], rfl, F, news_sub N (by
      intro q hq
      rcases List.mem_append.mp hq with hq | hq
      · rw [List.mem_singleton.mp hq]; k_mem
      · exact (sub_cons (by k_mem) (sub_cons (by k_mem) (sub_cons (by k_mem) (sub_cons (by k_mem) (sub_cons (by k_mem) sub_nil))))) q hq), fun p hp q hq => by
    rw [List.mem_singleton.mp hq]
    simp only [List.mem_cons, List.not_mem_nil, or_false] at hp
    rcases hp with rfl | rfl | rfl | rfl | rfl <;> assumption, ⟨by k_mem, trivial⟩, JB_next ha ha' hb hm (by k_mem) (by k_mem) (by k_mem) (by k_mem) (by k_mem)⟩
theorem tx_len {n : Int} (h0 : 0 ≤ n) (h1 : n < 100000000) : ∀ y ∈ (PL n).map tx, y.length ≤ 30 := by
  intro y hy
  obtain ⟨q, hq, rfl⟩ := List.mem_map.mp hy
  obtain ⟨k1, k2, k3⟩ := ok_mem (ok_PL h0 h1) q hq
  exact txt_len k2 k3 (tab_len _ k1)
theorem tx_many (n : Int) : 30 * ((PL n).map tx).length + ((PL n).map tx).length ≤ 1048576 := by
  have := PL_len n
  rw [List.length_map]; omega
theorem tx_room {n : Int} {g : Str} (h0 : 0 ≤ n) (h1 : n < 100000000) (hg : Between g) : (hdText n g).length + 2 ≤ 1000 := by
  have := hdText_len (g := g) h0 h1 (by have := (between_len hg).1; omega)
  omega
theorem str_ne_self {x : Str} (h : (x != x) = true) : False := by simp at h
theorem if_cut5 {prog : Program} {w : World} {A : Around} {E : Value → Shared → Prop} {s : Shared} {env : Env} {h₀ : Heap} {L : Addr} {m : Str → Option Value} {test : Expr} {body orelse : List Stmt} {pos : Pos} {Q : Flow → Shared → Prop} {q0 q1 q2 q3 q4 : Addr × Obj} (F : Fr h₀ L s.heap m) (N : News h₀ L s.heap [q0, q1, q2, q3, q4])
    (h : wpAny (model prog w) A (isTrue test env (eval test env)) (fun b s₂ => b = false ∧ LeftS h₀ L s m [q4, q4, q4, q4, q4, q4] s₂) E s)
    (h2 : ∀ h tk, Fr h₀ L h m → News h₀ L h [q4, q4, q4, q4, q4, q4] → wpAny (model prog w) A (execs orelse env) Q E { s with heap := h, toks := tk }) : wpAny (model prog w) A (exec (.If test body orelse pos) env) Q E s :=
  if_cut _ h h2
theorem gw3 {h₀ h : Heap} {L : Addr} {q0 q1 q2 q3 q4 q5 : Addr × Obj} (N : News h₀ L h [q0, q1, q2, q3, q4, q5]) : News h₀ L h [q0, q4, q5] :=
  news_sub N (sub_cons (by k_mem) (sub_cons (by k_mem) (sub_cons (by k_mem) sub_nil)))
theorem hd_zero : hdText 0 (Str.ofString ", ") = Str.ofString "0 seconds" := by decide +kernel
theorem hd_day : hdText 90061 (Str.ofString ", ") = Str.ofString "1 day, 1 hour, 1 minute, 1 second" := by decide +kernel
theorem if_cut6 {prog : Program} {w : World} {A : Around} {E : Value → Shared → Prop} {s : Shared} {env : Env} {h₀ : Heap} {L : Addr} {m : Str → Option Value} {test : Expr} {body orelse : List Stmt} {pos : Pos} {Q : Flow → Shared → Prop} {q0 q1 q2 q3 q4 q5 : Addr × Obj} (F : Fr h₀ L s.heap m) (N : News h₀ L s.heap [q0, q1, q2, q3, q4, q5])
    (h : wpAny (model prog w) A (isTrue test env (eval test env)) (fun b s₂ => b = false ∧ LeftS h₀ L s m [q0, q1, q2, q3, q4, q5] s₂) E s)
    (h2 : ∀ h tk, Fr h₀ L h m → News h₀ L h [q0, q1, q2, q3, q4, q5] → wpAny (model prog w) A (execs orelse env) Q E { s with heap := h, toks := tk }) : wpAny (model prog w) A (exec (.If test body orelse pos) env) Q E s :=
  if_cut _ h h2
end Mine
end
section
open PySem PySem.W PyProof.Rows
set_option maxRecDepth 100000
set_option maxHeartbeats 2000000
namespace Mine
open Sem (wp)
open AutoSeq1 (wpAny_loadPart')
theorem meets_enum_tup (l : Addr) (items : Array Value) (n : Nat) (dct : Option Addr) (sl : Array (Option Value)) :
    Meets (Builtin.«enumerate.__new__» ⟨[.type "enumerate", .ref l], []⟩) (fun _ R s => s.heap.get? l = some { cls := .type "tuple", dict := dct, data := .seq items n, slots := sl } ∧
      R (.ok (.ret (.ref (s.heap.push { cls := .type "tuple_iterator", data := .fields #[.ref l, .int 0 0] }).objs.size)))
        { s with heap := (s.heap.push { cls := .type "tuple_iterator", data := .fields #[.ref l, .int 0 0] }).push { cls := .type "enumerate", data := .fields #[.none, .bool false, .ref s.heap.objs.size, rawInt 0, .none, .none] } }) :=
  .of_wp fun prog w A R s h => by
    obtain ⟨hp, g, d, tk, os⟩ := s; obtain ⟨hl, h⟩ := h
    have hsub := sub_enumerate
    have hL : Heap.IsTuple (Shared.heap ⟨hp, g, d, tk, os⟩) l items := ⟨_, hl, rfl, n, rfl⟩
    wp_walk using wpAny_loadPart' hl
    refine wpAny_stack_any fun st => wpAny_pure ?_
    split
    · rename_i c _ _ _ _ _
      cases (c == Value.type "enumerate")
      · wp_walk using wpAny_loadPart' hl, wpAny_pyIter_tuple hL
        exact ⟨_, rfl, h⟩
      · wp_walk using wpAny_loadPart' hl, wpAny_pyIter_tuple hL
        exact ⟨_, rfl, h⟩
    · wp_walk using wpAny_loadPart' hl, wpAny_pyIter_tuple hL
      exact ⟨_, rfl, h⟩
section
variable {prog : Program} {w : World} {A : Around} {E : Value → Shared → Prop} {s : Shared}
theorem call_enum_tup {l : Addr} {items : Array Value} {Q : Value → Shared → Prop} (hL : s.heap.IsTuple l items)
    (h : ∀ h', IsEnum h' (s.heap.objs.size + 1) s.heap.objs.size 0 .none → h'.IsTupleIter s.heap.objs.size l 0 → h'.objs.size = s.heap.objs.size + 2 →
      (∀ b o, s.heap.get? b = some o → h'.get? b = some o) → Q (.ref (s.heap.objs.size + 1)) { s with heap := h' }) :
    wpAny (model prog w) A (call (.type "enumerate") [.ref l]) Q E s := by
  obtain ⟨⟨c, dct, dt, sl⟩, hl, hc, n, hd⟩ := hL
  replace hc : c = .type "tuple" := hc
  replace hd : dt = .seq items n := hd
  subst hc hd
  refine callType_new F.called_enumerate (by decide) (F.typeCall_enumerate_1 _) (F.newCall_enumerate_1 _) (fun obj => F.args_object_init_2 obj _) F.entry_enumerate_new
    (meets_enum_tup l items n dct sl) ⟨hl, ?_⟩
  have hz : (s.heap.push { cls := .type "tuple_iterator", data := .fields #[.ref l, .int 0 0] }).objs.size = s.heap.objs.size + 1 := Heap.size_push ..
  show _ ∧ _
  rw [hz]
  have he : IsEnum ((s.heap.push { cls := .type "tuple_iterator", data := .fields #[.ref l, .int 0 0] }).push
      { cls := .type "enumerate", data := .fields #[.none, .bool false, .ref s.heap.objs.size, rawInt 0, .none, .none] }) (s.heap.objs.size + 1) s.heap.objs.size 0 .none := by
    have := Heap.get?_push_size (s.heap.push { cls := .type "tuple_iterator", data := .fields #[.ref l, .int 0 0] })
      (o := { cls := .type "enumerate", data := .fields #[.none, .bool false, .ref s.heap.objs.size, rawInt 0, .none, .none] }) rfl
    rw [hz] at this; exact this
  refine ⟨⟨_, he, rfl⟩, h _ he ⟨_, Heap.get?_push_of_some _ (Heap.get?_push_size _ rfl), rfl, rfl⟩ (by rw [Heap.size_push, hz]) fun b o x => Heap.get?_push_of_some _ (Heap.get?_push_of_some _ x)⟩
theorem nextOf_tup_item {it t : Addr} {i : Nat} {items : Array Value} {x : Value} {Q : Value → Shared → Prop} (hit : s.heap.IsTupleIter it t i) (ht : s.heap.IsTuple t items) (hx : items[i]? = some x)
    (hQ : ∀ h', h'.IsTupleIter it t (i + 1) → Heap.SameBut it s.heap h' → Q x { s with heap := h' }) : wpAny (model prog w) A (Builtin.SmallTypes.nextOf (.ref it)) Q E s := by
  obtain ⟨o, ho, hc, hd⟩ := id hit
  obtain ⟨ol, hol, _, nl, hdl⟩ := ht
  unfold Builtin.SmallTypes.nextOf
  refine wpAny_bind (wpAny_callSpecial?_slot (name := Str.ofString "__next__") hit.typeIs F.slot_tuple_iterator_next
    (wpAny_call_entry F.slot_tuple_iterator_next hit.typeIs F.entry_tuple_iterator_next ?_ (F.args_tuple_iterator_next_1 _)))
  show wpAny _ _ (field (.ref it) 0 >>= _) _ _ s
  refine wpAny_bind (wpAny_field ho hd (x := .ref t) rfl ?_)
  show wpAny _ _ (if (Value.ref t == Value.none) = true then _ else _) _ _ s
  rw [if_neg (show ¬ ((Value.ref t == Value.none) = true) from Bool.false_ne_true)]
  show wpAny _ _ (field (.ref it) 1 >>= _) _ _ s
  refine wpAny_bind (wpAny_field ho hd (x := .int i 0) rfl ?_)
  show wpAny _ _ (seqItems? (.ref t) >>= _) _ _ s
  refine wpAny_bind (wpAny_seqItems hol hdl ?_)
  simp only [Int.toNat_natCast, hx]
  refine wpAny_bind (wpAny_setField ho hd (by simp) (wpAny_pure ⟨x, rfl, wpAny_pure (hQ _ ?_ (Heap.SameBut.update ..))⟩))
  exact ⟨_, Heap.get?_update_self _ ho (Obj.isFreed_of_fields (Obj.data_mapFields hd _)), (Obj.cls_mapFields ..).trans hc, by
    rw [Obj.data_mapFields hd]; simp [rawInt]⟩
theorem nextOf_tup_end {it t : Addr} {i : Nat} {items : Array Value} {Q : Value → Shared → Prop} (hh : A.handled = none) (hit : s.heap.IsTupleIter it t i) (ht : s.heap.IsTuple t items) (hx : items[i]? = none)
    (hE : ∀ h' e, Heap.ExtBut it s.heap h' → (∃ o, h'.get? e = some o ∧ o.cls = .type "StopIteration") → E (.ref e) { s with heap := h' }) :
    wpAny (model prog w) A (Builtin.SmallTypes.nextOf (.ref it)) Q E s := by
  obtain ⟨o, ho, hc, hd⟩ := id hit
  obtain ⟨ol, hol, _, nl, hdl⟩ := ht
  unfold Builtin.SmallTypes.nextOf
  refine wpAny_bind (wpAny_callSpecial?_slot (name := Str.ofString "__next__") hit.typeIs F.slot_tuple_iterator_next
    (wpAny_call_entry F.slot_tuple_iterator_next hit.typeIs F.entry_tuple_iterator_next ?_ (F.args_tuple_iterator_next_1 _)))
  show wpAny _ _ (field (.ref it) 0 >>= _) _ _ s
  refine wpAny_bind (wpAny_field ho hd (x := .ref t) rfl ?_)
  show wpAny _ _ (if (Value.ref t == Value.none) = true then _ else _) _ _ s
  rw [if_neg (show ¬ ((Value.ref t == Value.none) = true) from Bool.false_ne_true)]
  show wpAny _ _ (field (.ref it) 1 >>= _) _ _ s
  refine wpAny_bind (wpAny_field ho hd (x := .int i 0) rfl ?_)
  show wpAny _ _ (seqItems? (.ref t) >>= _) _ _ s
  refine wpAny_bind (wpAny_seqItems hol hdl ?_)
  simp only [Int.toNat_natCast, hx]
  refine wpAny_bind (wpAny_rule (wpAny_bind (wpAny_setField ho hd (by simp) ?_)))
  show wpAny _ _ (newExc (.type "StopIteration") [] >>= _) _ _ _
  refine wpAny_bind ?_
  simp only [newExc, newTuple]
  refine wpAny_bind (wpAny_newObj_type ?_ (by size_fits))
  refine wpAny_bind (m := firstArgMember _ _) (wpAny_of_eq (a := Value.none) (by first | rfl | (simp only [firstArgMember]; rfl)) ?_)
  refine wpAny_newObj_type ?_ (by size_fits)
  simp only [raiseNew]
  refine wpAny_bind (wpAny_handled ?_)
  first | rw [show A.in1.handled = none from hh] | rw [hh]
  refine wpAny_bind (wpAny_pure (wpAny_throw ?_))
  exact hE _ _ (((Heap.SameBut.update ..).extBut.push _).push _) ⟨_, Heap.get?_push_size _ rfl, rfl⟩
end
theorem draws_tup {prog : Program} {w : World} {A : Around} (hh : A.handled = none) (it l : Addr) (hne : l ≠ it) (items : Array Value) :
    Draws prog w A it [it, l] items.size (fun i v => items[i]? = some v) (fun i h => h.IsTupleIter it l i ∧ h.IsTuple l items) where
  live := fun _ _ st => let ⟨o, ho, _⟩ := st.1; ⟨o, ho⟩
  frame := fun _ _ _ st hk => ⟨st.1.at fun o e => hk it (by simp) o e, st.2.at fun o e => hk l (by simp) o e⟩
  item := fun i s Q E hi st hQ => by
    refine nextOf_tup_item st.1 st.2 (x := items[i]) (by simp [hi]) fun h' hit' hs' => ?_
    exact hQ _ h' s.toks (by simp [hi]) ⟨hit', st.2.extBut hs'.extBut hne⟩ hs'
  done := fun s Q E st hE => nextOf_tup_end hh st.1 st.2 (by simp) hE
section
variable {prog : Program} {w : World} {A : Around} {E : Value → Shared → Prop} {s : Shared} {env : Env} {h₀ : Heap} {body : List Stmt} {Q : Flow → Shared → Prop}
theorem enum_tup_turns {elts : List Expr} {k : Nat} {pos : Pos} {l : Addr} {lo : Obj} {vs : List Value} {n : Nat} {m₀ : Str → Option Value} {news : List (Addr × Obj)}
    (hh : A.handled = none) (F : Fr h₀ env.locals s.heap m₀) (N : News h₀ env.locals s.heap news) (hm : (l, lo) ∈ news) (hc : lo.cls = .type "tuple") (hd : lo.data = .seq vs.toArray n)
    (rest₀ : ∀ I : Addr, (∀ p ∈ news, p.1 < I) → ItemsRest prog w A E h₀ env (.Tuple elts k pos) body Q s [(I + 1, "enumerate"), (I, "tuple_iterator")] [(l, lo)] (enumItems 0 vs) m₀ news) :
    wpAny (model prog w) A (call (.type "enumerate") [.ref l]) (fun xv s₁ => wpAny (model prog w) A (pyIter xv) (fun it s₂ => TurnsAt prog w A h₀ env (.Tuple elts k pos) body Q E it s₂) E s₁) E s := by
  have hax := N _ hm
  have hl : s.heap.IsTuple l vs.toArray := ⟨lo, hax.1, hc, n, hd⟩
  have hlt : l < s.heap.objs.size := Heap.lt_size hax.1
  have hLs : env.locals < s.heap.objs.size := F.ns.lt
  have hI1 : ∀ {a : Nat}, a < s.heap.objs.size → a ≠ s.heap.objs.size + 1 := fun h => by omega
  refine call_enum_tup hl fun h' hE hI hsz hk => ?_
  refine wpAny_pyIter_enum hE ?_
  refine ktu_core (tk0 := s.toks) (keep := [(l, lo)]) (KTurns.ofWalksU (WalksT.enumerateD (draws_tup (A := A.in1) hh s.heap.objs.size l (Nat.ne_of_lt hlt) vs.toArray) (s.heap.objs.size + 1) (Nat.succ_ne_self _) (by
      intro hc'
      rcases List.mem_cons.mp hc' with e | e
      · exact Nat.succ_ne_self _ e
      · exact hI1 hlt (List.mem_singleton.mp e).symm) (by simp)).toU) (by simp [enumItems_length]) ?_ ?_ ?_ ?_ ?_ ?_ ?_ ?_ (F.keeps hk) (N.grown hk) (And.intro hm trivial) (rest₀ _ fun p hp => Heap.lt_size (N p hp).1)
  · rintro i v h ⟨T, vals, rfl, ⟨t, x, hx, rfl⟩, hT⟩
    refine ⟨_, enumItems_get vs 0 i (v := x) (by simpa using hx), T, t, rfl, ?_⟩
    show IsTup h T #[.int ((0 + i : Nat) : Int) t, x]
    rw [Nat.zero_add]
    exact hT
  · rintro i h ⟨⟨old, he⟩, ⟨oi, hoi, hic, _⟩, _⟩
    have he' : ∃ oe : Obj, h.get? (s.heap.objs.size + 1) = some oe ∧ oe.cls = .type "enumerate" := ⟨_, he, rfl⟩
    obtain ⟨oe, h1, h2⟩ := he'
    refine ⟨[(s.heap.objs.size + 1, oe), (s.heap.objs.size, oi)], ⟨⟨rfl, h2⟩, ⟨rfl, hic⟩, trivial⟩, fun p hp => ?_⟩
    rcases List.mem_cons.mp hp with rfl | hp
    · exact h1
    · rw [List.mem_singleton.mp hp]; exact hoi
  · intro b hb
    have hb' : b = s.heap.objs.size + 1 ∨ b = s.heap.objs.size := by simpa using hb
    rcases hb' with rfl | rfl
    · exact ⟨by simp, ktu_new F (Nat.le_add_right _ _)⟩
    · exact ⟨by simp, ktu_new F (Nat.le_refl _)⟩
  · intro b hb
    simpa using hb
  · intro b hb
    have hb' : b = s.heap.objs.size + 1 ∨ b = s.heap.objs.size ∨ b = l := by simpa using hb
    rcases hb' with rfl | rfl | rfl
    · exact .inl (by simp)
    · exact .inl (by simp)
    · exact .inr ⟨lo, by simp⟩
  · intro hI'
    have hb' : env.locals = s.heap.objs.size + 1 ∨ env.locals = s.heap.objs.size ∨ env.locals = l := by simpa using hI'
    rcases hb' with e | e | e
    · exact hI1 hLs e
    · exact Nat.ne_of_lt hLs e
    · exact hax.2.1 e.symm
  · intro p hp hI'
    have hb' : p.1 = s.heap.objs.size + 1 ∨ p.1 = s.heap.objs.size := by simpa using hI'
    have hlp := Heap.lt_size (N p hp).1
    rcases hb' with e | e
    · exact hI1 hlp e
    · exact Nat.ne_of_lt hlp e
  · exact ⟨⟨.none, hE⟩, hI, hl.at fun o e => hk l o e⟩
end
end Mine
end
section
open PySem PySem.W PyProof.Rows
set_option maxRecDepth 100000
set_option maxHeartbeats 8000000
namespace Mine
set_option linter.unusedVariables false
abbrev tupO (vs : List Value) : Obj := { cls := .type "tuple", data := .seq vs.toArray }
def gwL (ns : List Int) : List Int := if ns = [] then [1] else ns ++ [0]
theorem ints_rep (t : Tok) : ∀ k, IntsAre (List.replicate k [Value.int 0 t]).flatten (List.replicate k (0 : Int))
  | 0 => .nil
  | k + 1 => .cons 0 t (ints_rep t k)
theorem gw_zeros {n : Int} {ns : List Int} (h : n.toNat = ns.length + 1) (t : Tok) : IntsAre (List.replicate n.toNat [Value.int 0 t]).flatten (ns.take 0 ++ List.replicate (ns.length + 1 - 0) (0 : Int)) := by
  rw [h]; exact ints_rep t _
def JW (D T d0 d1 : Addr) (o0 o1 : Obj) (vs : List Value) (ns : List Int) (r : List Itm) (m : Str → Option Value) (nx : List (Addr × Obj)) : Prop :=
  ∃ (k : Nat) (wv : List Value) (c : Nat), k ≤ ns.length ∧ r = enumItems k (vs.drop k) ∧ IntsAre wv (ns.take k ++ List.replicate (ns.length + 1 - k) (0 : Int)) ∧ m (Str.ofString "weights") = some (.ref D) ∧
    ∀ q ∈ [(D, listOf wv.toArray c), (T, tupO vs), (d0, o0), (d1, o1)], q ∈ nx
theorem enum_head {i : Itm} {r : List Itm} {k : Nat} {vs : List Value} (h : i :: r = enumItems k (vs.drop k)) : ∃ x, vs[k]? = some x ∧ i = .pair (fun t => .int (k : Int) t) x ∧ r = enumItems (k + 1) (vs.drop (k + 1)) := by
  rcases Nat.lt_or_ge k vs.length with hk | hk
  · rw [List.drop_eq_getElem_cons hk] at h
    simp only [enumItems] at h
    injection h with h1 h2
    exact ⟨_, List.getElem?_eq_getElem hk, h1, h2⟩
  · rw [List.drop_eq_nil_of_le hk] at h; cases h
theorem enum_nil {k : Nat} {vs : List Value} (h : [] = enumItems k (vs.drop k)) : vs.length ≤ k := by
  rcases Nat.lt_or_ge k vs.length with hk | hk
  · rw [List.drop_eq_getElem_cons hk] at h; cases h
  · exact hk
theorem setL_some {v : Value} : ∀ {l : List Value} {k : Nat}, k < l.length → ki_setL l k v = some (l.set k v)
  | [], _, h => absurd h (Nat.not_lt_zero _)
  | a :: r, 0, _ => by simp [ki_setL]
  | a :: r, k + 1, h => by
    have := setL_some (v := v) (l := r) (k := k) (by simpa using h)
    simp [ki_setL, this]
theorem ints_set {n : Int} {t : Tok} : ∀ {wv : List Value} {ws : List Int} {k : Nat}, IntsAre wv ws → IntsAre (wv.set k (.int n t)) (ws.set k n)
  | _, _, _, .nil => .nil
  | _, _, 0, .cons _ _ h => .cons _ _ h
  | _, _, k + 1, .cons _ _ h => .cons _ _ (ints_set (k := k) h)
theorem ints_at {x : Value} : ∀ {vs : List Value} {ns : List Int} {k : Nat}, IntsAre vs ns → vs[k]? = some x → ∃ t, x = .int (ns.getD k 0) t
  | _, _, _, .nil, h => by simp at h
  | _, _, 0, .cons n t h, hx => ⟨t, by simpa using hx.symm⟩
  | _, _, k + 1, .cons n t h, hx => by
    obtain ⟨t', e⟩ := ints_at (k := k) h (by simpa using hx)
    exact ⟨t', by rw [e]; simp⟩
theorem gw_list : ∀ {ns : List Int} {k : Nat}, k < ns.length → (ns.take k ++ List.replicate (ns.length + 1 - k) (0 : Int)).set k (ns.getD k 0) = ns.take (k + 1) ++ List.replicate (ns.length + 1 - (k + 1)) (0 : Int)
  | [], _, h => absurd h (Nat.not_lt_zero _)
  | a :: r, 0, h => by
    have e : (a :: r).length + 1 - 0 = (r.length + 1) + 1 := by simp
    have e2 : (a :: r).length + 1 - (0 + 1) = r.length + 1 := by simp
    rw [e, e2]
    simp [List.replicate_succ]
  | a :: r, k + 1, h => by
    have ih := gw_list (ns := r) (k := k) (by simpa using h)
    have e : (a :: r).length + 1 - (k + 1) = r.length + 1 - k := by simp only [List.length_cons]; omega
    have e2 : (a :: r).length + 1 - (k + 1 + 1) = r.length + 1 - (k + 1) := by simp only [List.length_cons]; omega
    rw [e, e2]
    simp only [List.take_succ_cons, List.cons_append, List.set_cons_succ, List.getD_cons_succ, List.cons.injEq, true_and]
    exact ih
theorem gw_step {x : Value} {vs wv : List Value} {ns : List Int} {k : Nat} (hI : IntsAre vs ns) (hx : vs[k]? = some x) (hk : k < ns.length) (hw : IntsAre wv (ns.take k ++ List.replicate (ns.length + 1 - k) (0 : Int))) :
    IntsAre (wv.set k x) (ns.take (k + 1) ++ List.replicate (ns.length + 1 - (k + 1)) (0 : Int)) := by
  obtain ⟨t, rfl⟩ := ints_at hI hx
  rw [← gw_list hk]
  exact ints_set hw
theorem gw_fin {vs wv : List Value} {ns : List Int} {k : Nat} (hI : IntsAre vs ns) (h0 : 0 < ns.length) (hk : k ≤ ns.length) (hk2 : vs.length ≤ k) (hw : IntsAre wv (ns.take k ++ List.replicate (ns.length + 1 - k) (0 : Int))) : IntsAre wv (gwL ns) := by
  have hl := hI.length
  have e : k = ns.length := by omega
  subst e
  have e2 : ns.length + 1 - ns.length = 1 := by omega
  rw [e2, List.take_length] at hw
  unfold gwL
  rw [if_neg (by intro e; rw [e] at h0; cases h0)]
  exact hw
theorem unrW_end2 {L a b : Addr} {oa ob : Obj} {rest : (Str → Option Value) → List (Addr × Obj) → Prop} {h₀ : Heap} {s₁ : Shared} {h' : Heap} {tk : Nat} {m' : Str → Option Value} {q0 q1 q2 q3 : Addr × Obj} (F : Fr h₀ L h' m') (N : News h₀ L h' [q0, q1, q2, q3, (a, oa), (b, ob)])
    (z0 : q0.1 ≠ a ∧ q0.1 ≠ b) (z1 : q1.1 ≠ a ∧ q1.1 ≠ b) (z2 : q2.1 ≠ a ∧ q2.1 ≠ b) (z3 : q3.1 ≠ a ∧ q3.1 ≠ b) (r : rest m' [q0, q1, q2, q3]) : UnrEndW h₀ L s₁ [(a, oa), (b, ob)] rest { s₁ with heap := h', toks := tk } :=
  ⟨h', tk, m', [q0, q1, q2, q3], rfl, F, news_sub N (sub_cons (by k_mem) (sub_cons (by k_mem) (sub_cons (by k_mem) (sub_cons (by k_mem) (sub_cons (by k_mem) (sub_cons (by k_mem) sub_nil)))))), fun p hp q hq => by
    have hz : p.1 ≠ a ∧ p.1 ≠ b := by
      simp only [List.mem_cons, List.not_mem_nil, or_false] at hp
      rcases hp with rfl | rfl | rfl | rfl <;> assumption
    simp only [List.mem_cons, List.not_mem_nil, or_false] at hq
    rcases hq with rfl | rfl
    · exact hz.1
    · exact hz.2, r⟩
theorem gw5 {h₀ h : Heap} {L : Addr} {q0 q1 q2 q3 e i : Addr × Obj} {nx : List (Addr × Obj)} (N : News h₀ L h ([e, i] ++ nx)) (hs : ∀ q ∈ [q0, q1, q2, q3], q ∈ nx) : News h₀ L h [q0, q1, q2, q3, e, i] :=
  have k : ∀ q ∈ [q0, q1, q2, q3], q ∈ [e, i] ++ nx := fun q hq => List.mem_append.mpr (.inr (hs q hq))
  news_sub N (sub_cons (k _ (by k_mem)) (sub_cons (k _ (by k_mem)) (sub_cons (k _ (by k_mem)) (sub_cons (k _ (by k_mem)) (sub_cons (.head _) (sub_cons (.tail _ (.head _)) sub_nil))))))
local macro_rules | `(tactic| walk_at "no such key") => `(tactic| skip)
local macro_rules | `(tactic| walk_at "UnrEndW") => `(tactic| (k_here; refine STOP.out ?_))
local macro_rules | `(tactic| walk_at "call type:enumerate") => `(tactic| (k_here; refine STOP.out ?_))
local macro_rules | `(tactic| walk_at "exec For Tuple Call cons nil") => `(tactic| (k_here; refine STOP.out ?_))
theorem gw_call (w : World) (mean : ExcName → Option Value) (mg mb : Str → Option Value) (T d0 d1 : Addr) (o0 o1 : Obj) (vs : List Value) (ns : List Int) (n : Int) (t : Tok) :
  ClaimN PySem.Challenge.rw_ez0234_01.row.prog w (hd.heap_39 w.params) hd.view_39 (looseW hd.view_39 [Str.ofString "human_delta"]) mean mg mb 111 [(T, tupO vs), (d0, o0), (d1, o1)]
    (IntsAre vs ns ∧ ns.length ≤ 20 ∧ n = (ns.length : Int) + 1) [.int n t, .ref T]
    (fun news' v => ∃ R vs' c, v = .ref R ∧ IntsAre vs' (gwL ns) ∧ news' = [(R, listOf vs'.toArray c), (d0, o0), (d1, o1)]) := by
  dsimp only [ClaimN]
  w_top off
  k_fill
  intros
  rename_i hpre hdp hun hret
  obtain ⟨hI, hn20, hn⟩ := hpre
  have hvl : vs.length = ns.length := hI.length
  refine wpAny_call ?_
  k_dflt (refine' code_def ?k1 ?k2 ?k3 ?k4 ?k5 ?kA ?kF ?kK ?k6 ?k7 ?k8 ?k9 ?kB ?_ ?c2 ?c3 ?c4 ?c5; (case kA => exact rfl); (case kF => exact rfl); (case kK => assumption); (case k1 => k_asm); (case k2 => k_asm); (case k3 => k_asm); (case k4 => k_asm); (case k5 => k_asm); (case k6 => k_is); (case k7 => k_is); (case k8 => ktr_room); (case k9 => first | exact BindsTo.of_eq rfl | exact binds_K (by k_in) rfl (by k_is) rfl rfl rfl); (case c5 => decide); (case kB => exact locs rfl); (case c2 => exact rfl); (case c3 => exact rfl); (case c4 => exact rfl); k_whole; intro g' L' h' FG' F' N' B' X' T'; (try dsimp only); (try k_lift B'); (try k_fold))
  k_steps
  rename News _ _ _ _ => N0
  refine ktl_truthyK N0 (by k_mem) (by omega) ?_
  rcases Nat.eq_zero_or_pos ns.length with hz | hz
  · have he : vs.isEmpty = true := by rw [List.isEmpty_iff_length_eq_zero]; omega
    rw [he]
    have hn1 : n = 1 := by omega
    subst hn1
    have hns : ns = [] := List.eq_nil_of_length_eq_zero hz
    subst hns
    k_steps
    rename Fr _ _ _ _ => F9
    refine hret _ [(_, listOf (List.replicate (1 : Int).toNat [Value.int 1 _]).flatten.toArray 0), (d0, o0), (d1, o1)] _ _ ⟨_, [Value.int 1 _], 0, rfl, .cons 1 _ .nil, rfl⟩ F9 (cb_drop (by assumption) (by kcj_all))
  · have he : vs.isEmpty = false := by
      cases vs with
      | nil => simp at hvl; omega
      | cons a r => rfl
    rw [he]
    have hn0 : n.toNat = ns.length + 1 := by omega
    k_steps
    refine STOP.mk ?_
    rename Fr _ _ _ _ => F0
    refine For_turns F0 ?_
    k_steps
    refine STOP.mk ?_
    rename News _ _ _ _ => N0
    refine enum_tup_turns (by rfl) F0 N0 (by k_mem) rfl rfl ?_
    intro I lI
    k_lt lI
    clear N0
    refine items_inv (JW _ T d0 d1 o0 o1 vs ns) ?turn ?done _ _ _ ⟨0, _, _, Nat.zero_le _, rfl, gw_zeros hn0 _, (by with_unfolding_all rfl), sub_cons (by k_mem) (sub_cons (by k_mem) (sub_cons (by k_mem) (sub_cons (by k_mem) sub_nil)))⟩
    case turn =>
      rintro i3 r3 m₅ nx5 ⟨k, wv, c, hkl, hr, hw, hms, hsub⟩ v h₅ tk₅ hv F₅
      obtain ⟨x, hx, rfl, rfl⟩ := enum_head hr
      obtain ⟨T2, t2, rfl, hT2⟩ := hv
      refine fun oe hoe => fun oi hoi => fun N₅ => ?_
      have F₆ := fr_know hms F₅
      clear F₅
      have N₆ := gw5 N₅ hsub
      clear N₅
      have hkn : k < ns.length := by have := (List.getElem?_eq_some_iff.mp hx).1; omega
      have hwl := hw.length
      have hwl2 : wv.length = ns.length + 1 := by rw [hwl, List.length_append, List.length_take, List.length_replicate]; omega
      (try dsimp only)
      k_steps
      rename Fr _ _ _ _ => F7
      rename News _ _ _ _ => N7
      refine ki_set (k := (k : Int)) (q := wv.set k x) F7 N7 (by omega) (by omega) (by rw [Int.toNat_natCast]; exact setL_some (l := wv) (by omega)) (by k_upd) ?_
      intro h8 F8 N8
      clear F7 N7
      (try dsimp only)
      k_steps
      refine STOP.mk ?_
      refine unrW_end2 F8 N8 ⟨?_, ?_⟩ ⟨?_, ?_⟩ ⟨?_, ?_⟩ ⟨?_, ?_⟩ ⟨⟨by k_mem, trivial⟩, k + 1, wv.set k x, c, hkn, rfl, gw_step hI hx hkn hw, (by with_unfolding_all rfl), fun _ h => h⟩
      all_goals (try dsimp only)
      all_goals k_ne
    case done =>
      rintro m₅ nx5 ⟨k, wv, c, hkl, hr, hw, hms, hsub⟩ h₅ tk₅ F₅ N₅
      have hk := enum_nil hr
      have F₆ := fr_know hms F₅
      have N₆ := news_sub N₅ hsub
      clear N₅ F₅
      (try dsimp only)
      k_steps
      rename Fr _ _ _ _ => F9
      refine hret _ [(_, listOf wv.toArray c), (d0, o0), (d1, o1)] _ _ ⟨_, wv, c, rfl, gw_fin hI hz hkl hk hw, rfl⟩ F9 (cb_drop (by assumption) (by kcj_all))
theorem gw_same (ns : List Int) : (!decide (gwL ns = ns ++ (List.replicate (if (!decide (ns = [])) = true then 1 else 0 : Int).toNat [(0 : Int)]).flatten ++ (List.replicate (if decide (ns = []) = true then 1 else 0 : Int).toNat [(1 : Int)]).flatten)) = false := by
  by_cases h : ns = []
  · subst h; decide
  · have h1 : decide (ns = []) = false := decide_eq_false h
    simp [gwL, h, h1]
end Mine
end
section
open PySem PySem.W PyProof.Rows
namespace Mine
set_option linter.unusedVariables false
set_option maxRecDepth 100000
set_option maxHeartbeats 8000000
local macro_rules | `(tactic| walk_at "call type:range") => `(tactic| (k_here; (rename Fr _ _ _ _ => F'); (rename News _ _ _ _ => N'); with_unfolding_all refine range1_rows F' N' ?_; intro h' tk' t' u' v' R' F' N' k'))
local macro_rules | `(tactic| walk_at "exec For Name Call cons nil") => `(tactic| (k_here; (with_reducible show wpAny _ _ (exec (Stmt.For (Expr.Name (Str.ofString "k") _) _ _ _ _) _) _ _ _); (rename Fr _ _ _ _ => lF'); (with_unfolding_all refine' For_turns lF' ?_); k_whole))
local macro_rules | `(tactic| walk_at "pyIter ref") => `(tactic| (k_here; refine STOP.out ?_))
local macro_rules | `(tactic| walk_at "call builtin:_heapq.heappush") => `(tactic| (k_here; (with_reducible show wpAny _ _ (call (Value.builtin "_heapq.heappush") [Value.ref _, Value.int _ _]) _ _ _); refine STOP.out ?_))
local macro_rules | `(tactic| walk_at "call ref") => `(tactic| (k_here; (with_unfolding_all show wpAny _ _ (call (Value.ref 118) _) _ _ _); refine STOP.out ?_))
local macro_rules | `(tactic| walk_at "call ref") => `(tactic| (k_here; (with_unfolding_all show wpAny _ _ (call (Value.ref 118) _) _ _ _); k_dflt (refine' next_call _ _ _ _ _ _ _ _ _ _ _ _ _ _ _ _ _ _ _ _ _ _ _ _ _ _ _ _ _ _ _ _ _ _ _ _ _ _ _ _ _ _ _ _ _ ?k1 ?k2 ?k3 ?k4 ?k5 ?kK ?kp ?kd ?ku ?_; (case k1 => k_asm); (case k2 => k_asm); (case k3 => k_asm); (case k4 => k_asm); (case k5 => k_asm); (case kK => first | exact rfl | assumption); (case kp => exact next_pre (by assumption) (by assumption) (by assumption) (by assumption) (by omega) (by omega) (by decide) (by decide) (by omega) (by omega) (by omega) (by omega) (by omega) (by omega) (by omega) (by omega)); (case kd => ktr_room); (case ku => ktr_units); (rintro v9 nx9 h9 tk9 ⟨r9, tr9, tt9, hv9, hr0, hr1, hn9⟩ F9 N9); subst hv9; subst hn9; (try ((rename (_ < (95 : Int)) => hmb); (rename (_ < (1000003 : Int)) => hma); (have hmd := mul_bd hma (by omega) hmb (by omega)); (obtain ⟨hm0, hm1⟩ := hmd))); (try dsimp only); (try k_fold))))
local macro_rules | `(tactic| walk_at "UnrEndW") => `(tactic| (k_here; refine STOP.out ?_))
local macro_rules | `(tactic| walk_at "call ref") => `(tactic| (k_here; (with_unfolding_all show wpAny _ _ (call (Value.ref 99) _) _ _ _); refine STOP.out ?_))
local macro_rules | `(tactic| walk_at "exec If") => `(tactic| (k_here; refine STOP.out ?_))
local macro_rules | `(tactic| walk_at "call builtin:min") => `(tactic| (k_here; refine STOP.out ?_))
local macro_rules | `(tactic| walk_at "exec For Name List cons nil") => `(tactic| (k_here; (rename Fr _ _ _ _ => lF'); (with_unfolding_all refine' For_turns lF' ?_); k_whole))
local macro_rules | `(tactic| walk_at "call ref") => `(tactic| (k_here; (with_unfolding_all show wpAny _ _ (call (Value.ref 50) _) _ _ _); refine STOP.out ?_))
local macro_rules | `(tactic| walk_at "call ref") => `(tactic| (k_here; (with_unfolding_all show wpAny _ _ (call (Value.ref 135) _) _ _ _); refine STOP.out ?_))
local macro_rules | `(tactic| walk_at "call ref") => `(tactic| (k_here; (with_unfolding_all show wpAny _ _ (call (Value.ref 111) _) _ _ _); refine STOP.out ?_))
local macro_rules | `(tactic| walk_at "call builtin:str.split") => `(tactic| (k_here; (with_reducible show wpAny _ _ (call (Value.builtin "str.split") _) _ _ _); refine STOP.out ?_))
local macro_rules | `(tactic| walk_at "call builtin:str.join") => `(tactic| (k_here; (with_reducible show wpAny _ _ (call (Value.builtin "str.join") _) _ _ _); refine STOP.out ?_))
theorem law_walked : PySem.Challenge.rw_ez0234_01.Holds := hd (by
  w_top off
  k_go0; (all_goals try k_fold); k_steps
  refine STOP.mk ?_
  rename Fr _ _ _ _ => F0
  rename News _ _ _ _ => N0
  rename (Obj.data _ = Data.cell (some (Value.ref _))) => c1d
  have N1 := cut_first F0 N0 c1d (by k_mem) (by k_mem) (by with_unfolding_all rfl) (by with_unfolding_all rfl) (by k_mem) (by k_mem) (by k_mem) (by k_mem) (by k_mem) (by k_mem)
  clear N0
  rename (IntsAre _ (_ ++ _)) => hws
  obtain ⟨xs, hxI, hx0, hx1, hxb⟩ := xs_have hws
  clear hws
  k_steps
  refine STOP.mk ?_
  rename IsRange _ _ _ _ _ _ _ _ => R0
  rename Fr _ _ _ _ => F0
  rename News _ _ _ _ => N0
  refine iter_rangeUnr (by rfl) R0 (small_ok (by omega) (by omega)) (rsize_ok (by omega)) F0 N0 ?_
  intro I lI
  k_lt lI
  clear N0
  refine range_inv (J1 _ _ _ _ _ _ _ _ _ _ _) ?turn ?done _ _ _ _ (Nat.zero_add _) (J1_start (by with_unfolding_all rfl) (by with_unfolding_all rfl))
  case done =>
    rintro m₁ nx ⟨vs, ns, ps, t, t1, t2, t3, cn, ch, hI, hni, hh, hpm, hnb, hm1, hm2, hsub⟩ h₁ tk₁ F₁ N₁
    have F₂ := fr_know2 hm1 hm2 F₁
    clear F₁
    have N₂ := news_sub N₁ hsub
    clear N₁
    have hvl : vs.length = ns.length := hI.length
    have hns13 : ns.length < 13 := by omega
    (try dsimp only)
    k_steps
    refine STOP.mk ?_
    rename IsRange _ _ _ _ _ _ _ _ => R0
    rename Fr _ _ _ _ => F0
    rename News _ _ _ _ => N0
    refine iter_rangeTurns (by rfl) R0 (small_ok (by omega) (by omega)) (rsize_ok (by omega)) F0 N0 ?_
    intro I2 lI2
    have lI2' := PySem.Flt.Hid.mk lI2
    k_lt lI2
    clear N0
    have hnn : (ns.length : Int).toNat = ns.length := by omega
    rw [hnn]
    refine rangeT_inv (J2 _ _ _ _ _ _ _ _ _ _ _ ns _ _ _ _ _ _ _ _) ?turn2 ?done2 (J2_start (v2 := ?vv2) ?hc2 ?hlp2 ?hhp2 (by with_unfolding_all rfl) (by with_unfolding_all rfl) (by with_unfolding_all rfl) (fun _ h => h))
    case hc2 => assumption
    case hlp2 => omega
    case hhp2 => omega
    case done2 =>
      rintro m₂ nx2 ⟨p, pvs, cp, o2, v2, hpI, hlp, hhp, ho2, hm1', hm2', hm3', hsub2⟩ h₂ tk₂ F₂ N₂
      have F₃ := fr_know3 hm1' hm2' hm3' F₂
      clear F₂
      have N₃ := news_turn9 (news_sub N₂ hsub2)
      clear N₂
      clear hsub2 hm1' hm2' hm3'
      have hpl2 := prs_len ns ns.length (by omega)
      have hpvl := hpI.length
      have hpsl : ps.length = ns.length := by have := hpm.length_eq; rw [List.length_map] at this; omega
      (have hNE := ne9_of N₃ (by omega) (by omega) (by omega) (by omega) (by omega) (by omega) (by omega) (by omega) (by omega) (by omega) (by omega) (by omega))
      repeat (rename (@And (_ ≠ _) _) => hx; clear hx)
      (try dsimp only)
      k_steps
      refine STOP.mk ?_
      refine if_cut9 F₃ N₃ ?test ?rest
      case test =>
        k_steps
        refine STOP.mk ?_
        k_dflt (refine' fin_call _ _ _ _ _ _ _ _ _ _ _ _ _ _ _ _ _ _ _ _ _ _ _ _ _ _ _ _ _ _ _ _ _ _ _ _ _ _ _ _ _ _ ?k1 ?k2 ?k3 ?k4 ?k5 ?kK ?kp ?kd ?ku ?_; (case k1 => k_asm); (case k2 => k_asm); (case k3 => k_asm); (case k4 => k_asm); (case k5 => k_asm); (case kK => first | exact rfl | assumption); (case kp => exact fin_pre hh (by omega) (by omega) hpm hnb hNE.out.1); (case kd => ktr_room); (case ku => ktr_units))
        rintro v9 nx9 h9 tk9 ⟨hfv, rfl⟩ F9 N9
        rcases hfv with ⟨hq, rfl⟩ | ⟨hq, t9, rfl⟩ | ⟨hq, d9, t9, rfl, hD⟩
        · have hq' : ns.length = 0 := by rw [List.length_map] at hq; omega
          k_steps
          all_goals (first | exact leftS (by assumption) (news_sub (by assumption) (sub_cons (by k_mem) (sub_cons (by k_mem) (sub_cons (by k_mem) (sub_cons (by k_mem) (sub_cons (by k_mem) sub_nil)))))) | (exfalso; omega) | (exfalso; rename (decide (_ = []) = false) => hnil; exact no_some hnil hpsl hq))
        · have hq' : ns.length = 1 := by rw [List.length_map] at hq; omega
          k_steps
          all_goals (first | exact leftS (by assumption) (news_sub (by assumption) (sub_cons (by k_mem) (sub_cons (by k_mem) (sub_cons (by k_mem) (sub_cons (by k_mem) (sub_cons (by k_mem) sub_nil)))))) | (exfalso; omega) | (exfalso; rename (decide (_ = []) = true) => hnil; exact no_nil hnil hpsl (by omega)) | skip)
          all_goals (exact str_same rfl)
        · have hq' : 2 ≤ ns.length := by rw [List.length_map] at hq; omega
          have hpos := prs_pos hq'
          have hD' := minD_perm hpm hD
          obtain ⟨hd0, hd1⟩ := minD_bounds hD' hq' hnb
          k_steps
          all_goals (first | (exfalso; omega) | (exfalso; rename (decide (_ = []) = true) => hnil; exact no_nil hnil hpsl (by omega)) | skip)
          refine STOP.mk ?_
          rename Fr _ _ _ _ => F0
          rename News _ _ _ _ => N0
          refine kso_min F0 N0 (kso_isList N0 (by k_mem) rfl) hpI hpos (by rfl) ?_
          intro h10 M t10 tk10 F10 N10 hM hlM
          clear F0 N0
          have hdM := min_eq hD' hM hlM
          subst hdM
          k_steps
          all_goals (first | exact leftS (by assumption) (news_sub (by assumption) (sub_cons (by k_mem) (sub_cons (by k_mem) (sub_cons (by k_mem) (sub_cons (by k_mem) (sub_cons (by k_mem) sub_nil)))))) | (exfalso; omega) | skip)
          all_goals (exact str_same rfl)
      case rest =>
        clear F₃ N₃
        intro h₄ tk₄ F₄ N₄
        obtain ⟨-, z1, z2, z3, z4⟩ := hNE.out
        clear hNE
        k_steps
        refine STOP.mk ?_
        rename Fr _ _ _ _ => F0
        rename News _ _ _ _ => N0
        refine iter_listTurns (vs := [_, _, _]) (by rfl) F0 N0 (.head _) rfl rfl ?_
        intro I3 lI3
        k_lt lI3
        clear N0
        refine items_inv (JB _ _ _ _ _ _ _ _ _ _) ?turn3 ?done3 _ _ _ (JB_start (by omega) (by omega) (by with_unfolding_all rfl))
        case turn3 =>
          rintro i3 r3 m₅ nx5 ⟨a3, t3', ha0, ha1, hbt, hms, hsub3⟩ v h₅ tk₅ hv F₅
          obtain ⟨g, tg, rfl, hg⟩ := hbt _ (.head _)
          have hv' : v = .str g tg := hv
          subst hv'
          refine fun it hit N₅ => ?_
          have F₆ := fr_know hms F₅
          clear F₅
          have N₆ := bet9 N₅ hsub3
          clear N₅
          have ha2 : a3 < 1000 := by simp only [List.length_cons] at ha1; omega
          clear hsub3 hms hv
          k_steps
          refine STOP.mk ?_
          rename News _ _ _ _ => N7
          have N8 := bet6 N7
          clear N7
          k_dflt (refine' hd_call _ _ _ _ _ _ _ _ _ _ _ _ _ _ _ _ _ _ _ _  _ _ _ _ _ _ _ _ _ _ _ _ _ _ _ _ _ ?k1 ?k2 ?k3 ?k4 ?k5 ?kK ?kp ?kd ?ku ?_; (case k1 => k_asm); (case k2 => k_asm); (case k3 => k_asm); (case k4 => k_asm); (case k5 => k_asm); (case kK => first | exact rfl | assumption); (case kp => exact ⟨by assumption, by assumption, by have := (between_len hg).1; omega⟩); (case kd => ktr_room); (case ku => ktr_units))
          intro t9 h9 tk9 F9 N9
          clear N8
          (try dsimp only)
          k_steps
          refine STOP.mk ?_
          rename Fr _ _ _ _ => F10
          rename News _ _ _ _ => N10
          refine if_cut6 F10 N10 ?tst ?rst
          case tst =>
            k_steps
            refine STOP.mk ?_
            k_dflt (refine' lr_call _ _ _ _ _ _ _ _ _ _ _ _ _ _ _ _ _ _ _ _ _  _ _ _ _ _ _ _ _ _ _ _ _ _ _ _ _ _ ?k1 ?k2 ?k3 ?k4 ?k5 ?kK ?kp ?kd ?ku ?_; (case k1 => k_asm); (case k2 => k_asm); (case k3 => k_asm); (case k4 => k_asm); (case k5 => k_asm); (case kK => first | exact rfl | assumption); (case kp => exact ⟨by assumption, by assumption, rfl, hg⟩); (case kd => ktr_room); (case ku => ktr_units))
            intro t11 h11 tk11 F11 N11
            (try dsimp only)
            k_steps
            all_goals (first | (exfalso; rename (@Ne Int _ _) => hne; exact hne rfl) | skip)
            refine STOP.mk ?_
            clear F10 N10
            k_dflt (refine' hd_call1 _ _ _ _ _ _ _ _ _ _ _ _ _ _ _ _ _ _ _ rfl _ _ _ _ _ _ _ _ _ _ _ _ _ _ _ _ _ ?k1 ?k2 ?k3 ?k4 ?k5 ?kK ?kp ?kd ?ku ?_; (case k1 => k_asm); (case k2 => k_asm); (case k3 => k_asm); (case k4 => k_asm); (case k5 => k_asm); (case kK => first | exact rfl | assumption); (case kp => exact ⟨by assumption, by assumption, trivial⟩); (case kd => ktr_room); (case ku => ktr_units))
            intro t12 h12 tk12 F12 N12
            clear F11 N11
            (try dsimp only)
            k_steps
            refine STOP.mk ?_
            refine split_K F12 N12 (between_len hg).2 (tx_room (by assumption) (by assumption) hg) (split_hd (by assumption) (by assumption) hg) ?_
            intro D13 vs13 h13 k13 hvs13 F13 N13 l13
            clear F12 N12 l13
            k_steps
            refine STOP.mk ?_
            refine join_K N13 (by k_mem) hvs13 (by decide +kernel) (tx_len (by assumption) (by assumption)) (tx_many _) ?_
            intro t14 k14
            rw [← hdText_eq]
            k_steps
            all_goals (first | (exfalso; rename ((_ != _) = true) => hne; exact str_ne_self hne) | exact leftS (by assumption) (news_sub (by assumption) (sub_cons (by k_mem) (sub_cons (by k_mem) (sub_cons (by k_mem) (sub_cons (by k_mem) (sub_cons (by k_mem) (sub_cons (by k_mem) sub_nil))))))))
          case rst =>
            intro h11 tk11 F11 N11
            clear F10 N10
            k_steps
            refine STOP.mk ?_
            (exact bet_end F11 N11 ha0 ha1 hbt (by with_unfolding_all rfl) (by omega) (by omega) (by omega) (by omega) (by omega))
        case done3 =>
          rintro m₅ nx5 ⟨a3, t3', ha0, ha1, hbt, hms, hsub3⟩ h₅ tk₅ F₅ N₅
          have F₆ := fr_know hms F₅
          clear F₅
          have N₆ := news_sub N₅ hsub3
          clear N₅ hsub3 hms ha0 ha1 hbt
          (try dsimp only)
          k_steps
          refine STOP.mk ?_
          rename Fr _ _ _ _ => F10
          rename News _ _ _ _ => N10
          refine if_cut5 F10 N10 ?tst4 ?rst4
          case tst4 =>
            k_steps
            refine STOP.mk ?_
            rename News _ _ _ _ => N11
            have N12 := gw3 N11
            clear N11
            k_dflt (refine' gw_call _ _ _ _ _ _ _ _ _ vs ns _ _ _ _ _ _ _ _ _ _ _ _ _ _ _ _ _ _ _ ?k1 ?k2 ?k3 ?k4 ?k5 ?kK ?kp ?kd ?ku ?_; (case k1 => k_asm); (case k2 => k_asm); (case k3 => k_asm); (case k4 => k_asm); (case k5 => k_asm); (case kK => first | exact rfl | assumption); (case kp => exact ⟨hI, by omega, by omega⟩); (case kd => ktr_room); (case ku => ktr_units))
            rintro v12 nx12 h12 tk12 ⟨R12, vs12, c12, rfl, hI12, rfl⟩ F13 N13
            clear N12
            have hvs12 := hI12.length
            (try dsimp only)
            k_steps
            all_goals (first | exact gw_same ns | exact leftS (by assumption) (news_sub (by assumption) (sub_cons (by k_mem) (sub_cons (by k_mem) (sub_cons (by k_mem) (sub_cons (by k_mem) (sub_cons (by k_mem) (sub_cons (by k_mem) sub_nil))))))))
          case rst4 =>
            intro h11 tk11 F11 N11
            clear F10 N10
            k_steps
            refine STOP.mk ?_
            k_dflt (refine' hd_call1 _ _ _ _ _ _ _ _ _ _ _ _ _ _ _ _ _ _ _ rfl _ _ _ _ _ _ _ _ _ _ _ _ _ _ _ _ _ ?k1 ?k2 ?k3 ?k4 ?k5 ?kK ?kp ?kd ?ku ?_; (case k1 => k_asm); (case k2 => k_asm); (case k3 => k_asm); (case k4 => k_asm); (case k5 => k_asm); (case kK => first | exact rfl | assumption); (case kp => exact ⟨by decide, by decide, trivial⟩); (case kd => ktr_room); (case ku => ktr_units))
            intro t12 h12 tk12 F12 N12
            clear F11 N11
            rw [hd_zero]
            (try dsimp only)
            k_steps
            refine STOP.mk ?_
            k_dflt (refine' hd_call1 _ _ _ _ _ _ _ _ _ _ _ _ _ _ _ _ _ _ _ rfl _ _ _ _ _ _ _ _ _ _ _ _ _ _ _ _ _ ?k1 ?k2 ?k3 ?k4 ?k5 ?kK ?kp ?kd ?ku ?_; (case k1 => k_asm); (case k2 => k_asm); (case k3 => k_asm); (case k4 => k_asm); (case k5 => k_asm); (case kK => first | exact rfl | assumption); (case kp => exact ⟨by decide, by decide, trivial⟩); (case kd => ktr_room); (case ku => ktr_units))
            intro t13 h13 tk13 F13 N13
            clear F12 N12
            rw [hd_day]
            (try dsimp only)
            k_steps
    case turn2 =>
      rintro k m₂ nx2 hk ⟨p, pvs, cp, o2, v2, hpI, hlp, hhp, ho2, hm1', hm2', hm3', hsub2⟩ tt h₂ tk₂ F₂ it hit N₂
      have F₃ := fr_know3 hm1' hm2' hm3' F₂
      clear F₂
      have N₃ := news_sub1 N₂ hsub2
      clear N₂
      have hpl2 := prs_len ns k (by omega)
      have hpvl := hpI.length
      (try dsimp only)
      k_steps
      refine STOP.mk ?_
      rename Fr _ _ _ _ => F4
      rename News _ _ _ _ => N4
      rename (IntsAre _ (prs _ _ ++ _)) => hI4
      rename (Obj.data _ = Data.cell _) => ho4
      repeat (rename (@And (_ ≠ _) _) => hx; clear hx)
      (refine' unrW_end1 F4 N4 [(_, _), (_, _), (_, _), (_, _), (_, _), (_, _), (_, _), (_, _), (_, _)] ?u1 ?u2 ?u3 (J2_next hI4 ho4 ?u5 ?u5h ?u6 ?u7 ?u8 (fun _ h => h)))
      (case u1 => k_mem)
      (case u6 => with_unfolding_all rfl); (case u7 => with_unfolding_all rfl); (case u8 => with_unfolding_all rfl)
      (case u2 => repeat (first | exact sub_nil | refine sub_cons (by k_mem) ?_))
      ((case u3 => refine off_cons (off_gt ?u9) ?_; (case u9 => omega); repeat (first | exact off_nil | refine off_cons (off_of lI2'.out (by k_mem)) ?_)))
      ((case u5 => omega); (case u5h => omega))
  case turn =>
    rintro i m₁ nx hi ⟨vs, ns, ps, t, t1, t2, t3, cn, ch, hI, hni, hh, hpm, hnb, hm1, hm2, hsub⟩ tt h₁ tk₁ F₁ N₁
    have F₂ := fr_under2 hm1 hm2 F₁
    clear F₁
    have N₂ := news_rot2 (news_sub1 N₁ hsub)
    clear N₁
    have hvl : vs.length = i := by rw [hI.length, hni]
    have hi13 : i < 13 := by omega
    (try dsimp only)
    have hpl : ps.length = i := by have := hpm.length_eq; rw [List.length_map] at this; omega
    k_steps
    refine STOP.mk ?_
    k_dflt (refine' push_K (c := ch) (ps := ps) ?p1F ?p1N ?p1U hh ?p1Z ?_; (case p1F => k_asm); (case p1N => k_asm); (case p1U => (intro o'; k_upd)); (case p1Z => omega))
    intro ps' h2 tk2 hh' hpp F2 N2
    (try dsimp only at N2)
    k_steps
    all_goals (refine' J1_next hI hni hpm hnb ?j1a ?j1b hh' hpp ?j1c ?j1d ?j1e ?j1f ?j1g ?j1h ?j1i ?j1j ?j1k ?j1l; (case j1a => omega); (case j1b => omega); (case j1c => with_unfolding_all rfl); (case j1d => with_unfolding_all rfl); (case j1e => k_mem); (case j1f => k_mem); (case j1g => k_mem); (case j1h => k_mem); (case j1i => k_mem); (case j1j => k_mem); (case j1k => k_mem); (case j1l => k_mem)))
end Mine
end
theorem PySem.Challenge.cw_ez0234_01_holds : PySem.Challenge.rw_ez0234_01.Holds := by
  exact Mine.law_walked
