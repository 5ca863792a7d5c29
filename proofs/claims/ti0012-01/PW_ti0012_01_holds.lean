import PyProof.Rows.All
import Wide.All
import OpenK.AllK
import Wide.FinOn
import Lean
import PySem.Challenge.RW_ti0012_01
open PySem PySem.W PyProof.Rows
set_option Elab.async false
set_option maxRecDepth 100000
set_option maxHeartbeats 8000000
set_option linter.unusedVariables false
namespace Mine
open_top hd for PySem.Challenge.rw_ti0012_01
theorem fill_it : PySem.Challenge.rw_ti0012_01 = PySem.Challenge.rw_ti0012_01 ∧ hd.heap_39 = hd.heap_39 := by
  k_fill
  exact ⟨rfl, rfl⟩
end Mine
namespace Mine
open Builtin Builtin.Str
theorem gives_find4 (x y : Str) (i j : Int) (t u v v2 : Tok) : Gives («str.find» ⟨[.str x t, .str y u, .int i v, .int j v2], []⟩)
    (.int (match occurrences x y (fromIndex x.length i) (min (fromIndex x.length j) x.length) 1 with | k :: _ => (k : Int) | [] => -1)) := by
  show Gives (match occurrences x y (fromIndex x.length i) (min (fromIndex x.length j) x.length) 1 with | k :: _ => retInt k | [] => (do rule "str.find.not-found"; retInt (-1))) _
  cases occurrences x y (fromIndex x.length i) (min (fromIndex x.length j) x.length) 1 with
  | nil => exact .rule (.of_eq rfl)
  | cons k _ => exact .of_eq rfl
def find4 (x y : Str) (i j : Int) : Int := match occurrences x y (fromIndex x.length i) (min (fromIndex x.length j) x.length) 1 with | k :: _ => (k : Int) | [] => -1
section
variable {prog : Program} {w : World} {A : Around} {E : Value → Shared → Prop} {s : Shared} {Q : Value → Shared → Prop}
theorem call_find4 {x y : Str} {i j : Int} {t u v v2 : Tok} (hq : Q (.int (find4 x y i j) s.toks) { s with toks := s.toks + 1 }) :
    wpAny (model prog w) A (call (.builtin "str.find") [.str x t, .str y u, .int i v, .int j v2]) Q E s :=
  call_gives F.slot_str_find (typeIs_str _ _ _) F.entry_str_find (F.args_str_find_4 _ _ _ _) (gives_find4 x y i j t u v v2) hq
end
def findAll (got : Str) (ep : Nat) : Nat → List Str → Bool
  | _, [] => true
  | sp, w :: r => match occurrences got w sp ep 1 with
    | [] => false
    | i :: _ => findAll got ep (i + w.length) r

def ematch (want got : Str) : Bool :=
  if (occurrences want (Str.ofString "...") 0 want.length 1).isEmpty then want == got
  else
    let ws := Txt.split want (Str.ofString "...")
    let a := ws.headD Str.empty
    let ws1 := if a.length = 0 then ws else ws.tail
    let z := ws1.getLastD Str.empty
    let ws2 := if z.length = 0 then ws1 else ws1.dropLast
    (a.length = 0 || Txt.startswith got a) && ((z.length = 0 || Txt.endswith got z) && (decide (a.length + z.length ≤ got.length) && findAll got (got.length - z.length) a.length ws2))
theorem allNe {d : Addr} : ∀ {l : List (Addr × Obj)}, AllLt d l → ∀ p ∈ l, p.1 ≠ d
  | [], _ => fun _ h => nomatch h
  | q :: r, ⟨h1, h2⟩ => fun p hp => by
    rcases List.mem_cons.mp hp with rfl | hp
    · exact Nat.ne_of_lt h1
    · exact allNe h2 p hp
section
variable {prog : Program} {w : World} {A : Around} {E : Value → Shared → Prop} {s : Shared} {L D : Addr} {h₀ : Heap} {m : Str → Option Value} {news news' : List (Addr × Obj)}
theorem del_K {its : Array Value} {n k : Nat} {i : Int} {u : Tok} {Q : Unit → Shared → Prop} (F : Fr h₀ L s.heap m) (N : News h₀ L s.heap news)
    (hfit : Builtin.List.listFitsIndex i = true) (hk : seqIndex? i its.size = some k)
    (U : Upd D (listOf its n) (listOf (its.toList.eraseIdx k).toArray (n + 1)) news news')
    (h : ∀ h', Fr h₀ L h' m → News h₀ L h' news' → Q () { s with heap := h' }) (hsz : its.size ≤ sizeLine) : wpAny (model prog w) A (delItem (.ref D) (.int i u)) Q E s := by
  obtain ⟨pre, post, rfl, rfl, a, b⟩ := U.split
  have z := N (D, listOf its n) (List.mem_append.mpr (.inr (.head _)))
  exact delItem_at (hsz := hsz) z.1 hfit hk fun h' hs ho' => h h' (F.change hs z.2.1 z.2.2) (news_set N a b hs ho')
end
section
variable {prog : Program} {w : World} {A : Around} {E : Value → Shared → Prop} {s : Shared} {env : Env} {h₀ : Heap} {x : Str} {body : List Stmt} {Q : Flow → Shared → Prop}
/-- a for over a list of the ledger, whatever its items: an invariant over the turn's number, the frame's map and the ledger -/
theorem iter_vals {l : Addr} {vs : List Value} {nn : Nat} {m₀ : Str → Option Value} {news : List (Addr × Obj)} (J : Nat → (Str → Option Value) → List (Addr × Obj) → Prop)
    (hh : A.handled = none) (hl : (l, listOf vs.toArray nn) ∈ news) (F : Fr h₀ env.locals s.heap m₀) (N : News h₀ env.locals s.heap news) (hj : J 0 m₀ news)
    (turn : ∀ i v m₁ news₁ h tk own, vs[i]? = some v → news₁.map (·.1) = news.map (·.1) → OwnOff own (news.map (·.1)) → (l, listOf vs.toArray nn) ∈ news₁ → J i m₁ news₁ →
      Fr h₀ env.locals h (fun y => if y = x then some v else m₁ y) → News h₀ env.locals h (news₁ ++ own) →
      wpAny (model prog w) A (execs body env) (InvPostN h₀ env.locals (fun m' nx => (l, listOf vs.toArray nn) ∈ nx ∧ J (i + 1) m' nx) own (news.map (·.1)) { s with heap := h, toks := tk } Q) E { s with heap := h, toks := tk })
    (done : ∀ m₁ news₁ h tk, (l, listOf vs.toArray nn) ∈ news₁ → J vs.length m₁ news₁ → Fr h₀ env.locals h m₁ → News h₀ env.locals h news₁ → Q .next { s with heap := h, toks := tk }) :
    wpAny (model prog w) A (pyIter (.ref l)) (fun it s₂ => LoopAtV prog w A h₀ env x body Q E it s₂) E s := by
  have hol : s.heap.get? l = some (listOf vs.toArray nn) := (N _ hl).1
  have hls : s.heap.IsList l vs.toArray := ⟨_, hol, rfl, nn, rfl⟩
  have hne : l ≠ s.heap.objs.size := Nat.ne_of_lt (Heap.lt_size hol)
  have fresh : ∀ q ∈ news, q.1 ≠ s.heap.objs.size := fun q hq => Nat.ne_of_lt (Heap.lt_size (N q hq).1)
  refine wpAny_pyIter_list hls ?_
  have W := Walks.list (prog := prog) (w := w) hh s.heap.objs.size l hne vs.toArray
  refine ⟨_, _, _, _, _, _, m₀, news, (fun i m nx => nx.map (·.1) = news.map (·.1) ∧ (l, listOf vs.toArray nn) ∈ nx ∧ J i m nx), rfl, W, ?_, ?_, ?_,
    ⟨⟨_, Heap.get?_push_size _ rfl, rfl, rfl⟩, hls.at fun o e => Heap.get?_push_of_some _ e⟩, F.push _, (fun p hp => ⟨Heap.get?_push_of_some _ (N p hp).1, (N p hp).2⟩), ⟨rfl, hl, hj⟩, ?_, ?_⟩
  · intro hm
    rcases List.mem_cons.mp hm with e | hm
    · exact absurd F.ns.lt (e ▸ Nat.lt_irrefl _)
    · exact (N _ hl).2.1 ((List.mem_singleton.mp hm).symm)
  · intro b hb
    rw [List.mem_singleton.mp hb]
    exact next_is_new F
  · intro p hp hI
    exact fresh p hp (List.mem_singleton.mp hI)
  · rintro i v m₁ news₁ s₁ own ⟨hh', tk', rfl⟩ _ hP ⟨hadr, hl₁, hJ⟩ _ hown hget _ _ F₁ N₁
    let own' := own.filter fun p => decide (p.1 = s.heap.objs.size)
    have isI : ∀ p ∈ own', p.1 = s.heap.objs.size := fun p hp => by simpa using (List.mem_filter.mp hp).2
    have hsep : OwnOff own' (news.map (·.1)) := by
      intro p hp b hb e
      obtain ⟨q, hq, rfl⟩ := List.mem_map.mp hb
      exact fresh q hq (e ▸ isI p hp)
    have hv : vs[i]? = some v := by simpa using hP
    have N₂ : News h₀ env.locals hh' (news₁ ++ own') := fun p hp => N₁ p (by
      rcases List.mem_append.mp hp with h | h
      · exact List.mem_append.mpr (.inr h)
      · exact List.mem_append.mpr (.inl (List.mem_filter.mp h).1))
    have hlo : hh'.get? l = some (listOf vs.toArray nn) := (N₁ _ (List.mem_append.mpr (.inr hl₁))).1
    refine wpAny_mono (turn i v m₁ news₁ hh' tk' own' hv hadr hsep hl₁ hJ F₁ N₂) (fun f s₂ p => ?_) fun _ _ e => e
    have fin : InvEndN h₀ env.locals (fun m' nx => (l, listOf vs.toArray nn) ∈ nx ∧ J (i + 1) m' nx) own' (news.map (·.1)) { s with heap := hh', toks := tk' } s₂ →
        LoopStepU h₀ env.locals [s.heap.objs.size] own (fun m nx => nx.map (·.1) = news.map (·.1) ∧ (l, listOf vs.toArray nn) ∈ nx ∧ J (i + 1) m nx) { s with heap := hh', toks := tk' } .next s₂ := by
      rintro ⟨h', tk, m', news', nx, e, F', N', hn, ho, ha, hm⟩
      refine ⟨rfl, h', tk, m', nx, e, F', fun p hp => ?_, fun p hp hI => ?_, ha, hm⟩
      · rcases List.mem_append.mp hp with h | h
        · by_cases hI : p.1 = s.heap.objs.size
          · exact N' p (ho p (List.mem_filter.mpr ⟨h, by simpa using hI⟩))
          · have h1 : p.1 = l := by
              rcases List.mem_cons.mp (hown p h) with h2 | h2
              · exact absurd h2 hI
              · exact List.mem_singleton.mp h2
            have h2 : hh'.get? p.1 = some p.2 := hget p h
            rw [h1, hlo] at h2
            have h3 : p = (l, listOf vs.toArray nn) := Prod.ext h1 (Option.some.inj h2).symm
            rw [h3]
            exact N' _ (hn _ hm.1)
        · exact N' p (hn p h)
      · have h1 : p.1 ∈ nx.map (·.1) := List.mem_map.mpr ⟨p, hp, rfl⟩
        rw [ha] at h1
        obtain ⟨q, hq, e⟩ := List.mem_map.mp h1
        exact fresh q hq (by rw [e]; exact List.mem_singleton.mp hI)
    cases f with
    | ret v => exact .ret p
    | brk => exact .brk p
    | next => exact .next (fin p)
    | cont => exact .cont (fin p)
  · rintro h' tk m' news' F' N' _ ⟨_, hl', hJ⟩
    have hJ' : J vs.length m' news' := by simpa using hJ
    exact done m' news' h' tk hl' hJ' F' N'
end

section
variable {prog : Program} {w : World} {A : Around} {E : Value → Shared → Prop} {s : Shared} {L D : Addr} {h₀ : Heap} {m : Str → Option Value} {news news' : List (Addr × Obj)}
theorem strValues_length (l : List (Str × Tok)) : (strValues l).length = l.length := by simp [strValues]
theorem strValues_get {l : List (Str × Tok)} {i : Nat} {v : Value} (h : (strValues l)[i]? = some v) : ∃ x t, l[i]? = some (x, t) ∧ v = .str x t := by
  unfold strValues at h
  rw [List.getElem?_map] at h
  cases hl : l[i]? with
  | none => rw [hl] at h; cases h
  | some p => rw [hl] at h; obtain ⟨x, t⟩ := p; exact ⟨x, t, rfl, (Option.some.inj h).symm⟩
theorem del0_K {l : List (Str × Tok)} {n : Nat} {u : Tok} {Q : Unit → Shared → Prop} (F : Fr h₀ L s.heap m) (N : News h₀ L s.heap news) (hl : 0 < l.length) (hz : l.length ≤ 1000)
    (U : Upd D (listOf (strValues l).toArray n) (listOf (strValues l.tail).toArray (n + 1)) news news')
    (h : ∀ h', Fr h₀ L h' m → News h₀ L h' news' → Q () { s with heap := h' }) : wpAny (model prog w) A (delItem (.ref D) (.int 0 u)) Q E s := by
  have e : ((strValues l).toArray.toList.eraseIdx 0) = strValues l.tail := by
    cases l with
    | nil => cases hl
    | cons a r => simp [strValues]
  refine del_K (k := 0) F N (by decide) ?_ (by rw [e]; exact U) h ?_
  · rw [List.size_toArray, strValues_length]; exact seqIndex_at (by decide) (by omega)
  · rw [List.size_toArray, strValues_length, sizeLine_eq]; omega
theorem delLast_K {l : List (Str × Tok)} {n : Nat} {u : Tok} {Q : Unit → Shared → Prop} (F : Fr h₀ L s.heap m) (N : News h₀ L s.heap news) (hl : 0 < l.length) (hz : l.length ≤ 1000)
    (U : Upd D (listOf (strValues l).toArray n) (listOf (strValues l.dropLast).toArray (n + 1)) news news')
    (h : ∀ h', Fr h₀ L h' m → News h₀ L h' news' → Q () { s with heap := h' }) : wpAny (model prog w) A (delItem (.ref D) (.int (-1) u)) Q E s := by
  have e : ((strValues l).toArray.toList.eraseIdx (l.length - 1)) = strValues l.dropLast := by
    show (strValues l).eraseIdx (l.length - 1) = _
    have e1 : (strValues l).eraseIdx (l.length - 1) = (strValues l).dropLast := by
      apply List.ext_getElem?
      intro i
      rw [List.getElem?_eraseIdx, List.dropLast_eq_take, List.getElem?_take, strValues_length]
      split
      · rfl
      · rw [List.getElem?_eq_none (by rw [strValues_length]; omega)]
    rw [e1]
    unfold strValues
    rw [List.map_dropLast]
  refine del_K (k := l.length - 1) F N (by decide) ?_ (by rw [e]; exact U) h ?_
  · rw [List.size_toArray, strValues_length]
    have := seqIndex_back (i := -1) (n := l.length) (by decide) (by omega)
    rw [this]; congr 1; omega
  · rw [List.size_toArray, strValues_length, sizeLine_eq]; omega
end
theorem join_len (sep : Str) : ∀ (a : Str) (r : List Str), (Str.join sep (a :: r)).length = ((a :: r).map (·.length)).sum + r.length * sep.length
  | a, [] => by simp [Str.join]
  | a, b :: r => by
    have h := join_len sep b r
    show (a ++ sep ++ Str.join sep (b :: r)).length = _
    rw [Str.length_append, Str.length_append, h]
    simp only [List.map_cons, List.sum_cons, List.length_cons, Nat.succ_mul]
    omega
theorem le_sum_of_mem : ∀ {ps : List Str} {y : Str}, y ∈ ps → y.length ≤ (ps.map (·.length)).sum
  | a :: r, y, h => by
    simp only [List.map_cons, List.sum_cons]
    rcases List.mem_cons.mp h with rfl | h
    · omega
    · have := le_sum_of_mem h; omega
theorem splitLen (want sep : Str) {n : Nat} (h : want.length ≤ n) : ∀ y ∈ Txt.split want sep, y.length ≤ n := by
  intro y hy
  have e := StrLaws.join_split want sep
  cases hs : Txt.split want sep with
  | nil => rw [hs] at hy; cases hy
  | cons a r =>
    rw [hs] at e hy
    have h1 := join_len sep a r
    rw [e] at h1
    have h2 := le_sum_of_mem hy
    omega
theorem splitCount (want sep : Str) {n : Nat} (h : want.length ≤ n) (hs : sep.length = 3) : (Txt.split want sep).length ≤ n + 1 := by
  have e := StrLaws.join_split want sep
  cases hs' : Txt.split want sep with
  | nil => simp
  | cons a r =>
    rw [hs'] at e
    have h1 := join_len sep a r
    rw [e, hs] at h1
    simp only [List.length_cons]
    omega
theorem split_cuts {want sep : Str} (h3 : sep.length = 3) (hk : Builtin.Str.strKind sep = 1) (h : (occurrences want sep 0 want.length 1).isEmpty = false) :
    Txt.split want sep = partsBetween want (occurrences want sep 0 want.length (want.length + 1)) sep.length ∧ (occurrences want sep 0 want.length (want.length + 1)) ≠ [] := by
  have hf : (!(occurrences want sep 0 want.length 1).isEmpty) = true := by rw [h]; rfl
  obtain ⟨i, hi, hs⟩ := (StrLaws.found_iff want sep).mp hf
  have hne : (occurrences want sep 0 want.length (want.length + 1)) ≠ [] := by
    intro h0
    rcases StrLaws.occ_head_from want sep 0 (want.length + 1) (by omega) with ⟨_, hn⟩ | ⟨i', r, h1, _⟩
    · exact hn i (Nat.zero_le _) ⟨hi, hs⟩
    · rw [h0] at h1; cases h1
  refine ⟨?_, hne⟩
  unfold Txt.split
  rw [if_neg, if_neg]
  · intro hc; exact hne (List.isEmpty_iff.mp hc)
  · have hkw : 1 ≤ Builtin.Str.strKind want := by unfold Builtin.Str.strKind; (repeat' split) <;> omega
    rw [hk]
    simp only [Bool.or_eq_true, decide_eq_true_eq, not_or]
    omega
theorem split_two {want sep : Str} (h3 : sep.length = 3) (hk : Builtin.Str.strKind sep = 1) (h : (occurrences want sep 0 want.length 1).isEmpty = false) : 2 ≤ (Txt.split want sep).length := by
  obtain ⟨e, hne⟩ := split_cuts h3 hk h
  rw [e]
  unfold partsBetween
  cases hc : (occurrences want sep 0 want.length (want.length + 1)) with
  | nil => exact absurd hc hne
  | cons a r => simp
section
variable {prog : Program} {w : World} {A : Around} {E : Value → Shared → Prop} {s : Shared} {L D : Addr} {h₀ : Heap} {m : Str → Option Value} {news news' : List (Addr × Obj)}
theorem isList_of {vs : List Value} {n : Nat} (N : News h₀ L s.heap news) (hm : (D, listOf vs.toArray n) ∈ news) : s.heap.IsList D vs.toArray := ⟨_, (N _ hm).1, rfl, n, rfl⟩
theorem last_K {l : List (Str × Tok)} {n : Nat} {value slice : Expr} {u : Tok} {Q : Value → Shared → Prop} (N : News h₀ L s.heap news) (hm : (D, listOf (strValues l).toArray n) ∈ news) (hne : 0 < l.length)
    (h : ∀ z tz, l.getLast? = some (z, tz) → Q (.str z tz) s)
    (hs : subscripted slice false (.ref D) (.int (-1) u) = operate [.ref D, .int (-1) u] (getItem (.ref D) (.int (-1) u))) :
    wpAny (model prog w) A (subscriptTail value slice (.ref D) (.int (-1) u)) Q E s := by
  cases hl : l.getLast? with
  | none => rw [List.getLast?_eq_none_iff] at hl; subst hl; cases hne
  | some p =>
    obtain ⟨z, tz⟩ := p
    have hg : l[l.length - 1]? = some (z, tz) := by rw [← List.getLast?_eq_getElem?]; exact hl
    refine kde_neg (j := l.length - 1) (v := .str z tz) (isList_of N hm) (by decide) (by decide) ?_ ?_ (h z tz hl) hs
    · rw [strValues_length]
      have := seqIndex_back (i := -1) (n := l.length) (by decide) (by omega)
      rw [this]; congr 1; omega
    · unfold strValues; rw [List.getElem?_map, hg]; rfl
end
section
variable {prog : Program} {w : World} {A : Around} {E : Value → Shared → Prop} {s : Shared} {env : Env} {h₀ : Heap} {body : List Stmt} {Q : Flow → Shared → Prop}
/-- one name that turns, over a list of texts of the ledger; the rest of the frame and the ledger as they stood -/
def OneJ (news : List (Addr × Obj)) (x y : Str) (m₀ : Str → Option Value) (P : Int → Prop) (m : Str → Option Value) (nx : List (Addr × Obj)) : Prop :=
  nx = news ∧ (∃ a t, m y = some (.int a t) ∧ P a) ∧ ∀ z, z ≠ x → z ≠ y → m z = m₀ z
theorem iter_strs1 {x y : Str} {D : Addr} {l : List (Str × Tok)} {nn : Nat} {m₀ : Str → Option Value} {news : List (Addr × Obj)} {a₀ : Int} {t₀ : Tok} (P : List Str → Int → Prop)
    (hh : A.handled = none) (hl : (D, listOf (strValues l).toArray nn) ∈ news) (F : Fr h₀ env.locals s.heap m₀) (N : News h₀ env.locals s.heap news) (hy : m₀ y = some (.int a₀ t₀)) (h0 : P (l.map (·.1)) a₀)
    (turn : ∀ v tv rest a ta h tk own, (v, tv) ∈ l → OwnOff own (news.map (·.1)) → P (v :: rest) a →
      Fr h₀ env.locals h (fun z => if z = x then some (.str v tv) else if z = y then some (.int a ta) else m₀ z) → News h₀ env.locals h (news ++ own) →
      wpAny (model prog w) A (execs body env) (InvPostN h₀ env.locals (OneJ news x y m₀ (P rest)) own (news.map (·.1)) { s with heap := h, toks := tk } Q) E { s with heap := h, toks := tk })
    (done : ∀ (u : Str → Option Value) a ta h tk, P [] a → Fr h₀ env.locals h (fun z => if z = x then u z else if z = y then some (.int a ta) else m₀ z) → News h₀ env.locals h news → Q .next { s with heap := h, toks := tk }) :
    wpAny (model prog w) A (pyIter (.ref D)) (fun it s₂ => LoopAtV prog w A h₀ env x body Q E it s₂) E s := by
  refine iter_vals (fun i => OneJ news x y m₀ (P ((l.map (·.1)).drop i))) hh hl F N ⟨rfl, ⟨a₀, t₀, hy, by simpa using h0⟩, fun _ _ _ => rfl⟩ ?_ ?_
  · rintro i v m₁ news₁ h tk own hv _ hoff hl₁ ⟨rfl, ⟨a, ta, ha, hP⟩, hm⟩ F₁ N₁
    obtain ⟨v, tv, hv', rfl⟩ := strValues_get hv
    rw [map_one ha hm] at F₁
    have hd : (l.map (·.1)).drop i = v :: (l.map (·.1)).drop (i + 1) := by
      have hlt : i < (l.map (·.1)).length := by
        rw [List.length_map]
        exact (List.getElem?_eq_some_iff.mp hv').1
      rw [List.drop_eq_getElem_cons hlt]
      congr 1
      have := (List.getElem?_eq_some_iff.mp hv').2
      rw [List.getElem_map, this]
    rw [hd] at hP
    refine wpAny_mono (turn v tv _ a ta h tk own (List.mem_of_getElem? hv') hoff hP F₁ N₁) (fun f s₂ p => ?_) fun _ _ e => e
    have fin : InvEndN h₀ env.locals (OneJ news₁ x y m₀ (P ((l.map (·.1)).drop (i + 1)))) own (news₁.map (·.1)) { s with heap := h, toks := tk } s₂ →
        InvEndN h₀ env.locals (fun m' nx => (D, listOf (strValues l).toArray nn) ∈ nx ∧ OneJ news₁ x y m₀ (P ((l.map (·.1)).drop (i + 1))) m' nx) own (news₁.map (·.1)) { s with heap := h, toks := tk } s₂ := by
      rintro ⟨h', tk', m', news', nx, e, F', N', hn, ho, ha', hJ⟩
      exact ⟨h', tk', m', news', nx, e, F', N', hn, ho, ha', by rw [hJ.1]; exact hl, hJ⟩
    cases f with
    | ret v => exact p
    | brk => exact p
    | next => exact fin p
    | cont => exact fin p
  · rintro m₁ news₁ h tk _ ⟨rfl, ⟨a, ta, ha, hP⟩, hm⟩ F₁ N₁
    rw [strValues_length, List.drop_eq_nil_of_le (by simp)] at hP
    refine done m₁ a ta h tk hP ?_ N₁
    have e : (fun z => if z = x then m₁ z else if z = y then some (Value.int a ta) else m₀ z) = m₁ := by
      funext z
      by_cases h1 : z = x
      · simp [h1]
      · simp only [if_neg h1]
        by_cases h2 : z = y
        · subst h2; simp [ha]
        · simp only [if_neg h2]; exact (hm z h1 h2).symm
    rw [e]; exact F₁
end
theorem ematch_of {want got a z : Str} {ws ws1 : List Str} (hocc : (occurrences want (Str.ofString "...") 0 want.length 1).isEmpty = false) (hs : ws = Txt.split want (Str.ofString "..."))
    (ha : ws.head? = some a) (h1 : ws1 = if a.length = 0 then ws else ws.tail) (hz : ws1.getLast? = some z) :
    ematch want got = ((a.length = 0 || Txt.startswith got a) && ((z.length = 0 || Txt.endswith got z) && (decide (a.length + z.length ≤ got.length) && findAll got (got.length - z.length) a.length (if z.length = 0 then ws1 else ws1.dropLast)))) := by
  subst hs
  have e1 : (Txt.split want (Str.ofString "...")).headD Str.empty = a := by rw [List.headD_eq_head?_getD, ha]; rfl
  have e2 : ws1.getLastD Str.empty = z := by rw [List.getLastD_eq_getLast?, hz]; rfl
  unfold ematch
  rw [hocc]
  simp only [Bool.false_eq_true, if_false, e1, ← h1, e2]
theorem ematch_pre {want got a : Str} {ws : List Str} (hocc : (occurrences want (Str.ofString "...") 0 want.length 1).isEmpty = false) (hs : ws = Txt.split want (Str.ofString "..."))
    (ha : ws.head? = some a) (hne : a.length ≠ 0) (hf : Txt.startswith got a = false) : ematch want got = false := by
  subst hs
  have e1 : (Txt.split want (Str.ofString "...")).headD Str.empty = a := by rw [List.headD_eq_head?_getD, ha]; rfl
  unfold ematch
  rw [hocc]
  simp only [Bool.false_eq_true, if_false, e1, hf]
  simp [hne]
theorem findAll_cons {got w : Str} {ep sp : Nat} {r : List Str} : findAll got ep sp (w :: r) = match occurrences got w sp ep 1 with
    | [] => false
    | i :: _ => findAll got ep (i + w.length) r := rfl
theorem find4_nat {got w : Str} {ep sp : Nat} (h : ep ≤ got.length) : find4 got w (sp : Int) (ep : Int) = match occurrences got w sp ep 1 with | k :: _ => (k : Int) | [] => -1 := by
  have e1 : fromIndex got.length (sp : Int) = sp := by unfold fromIndex; rw [if_neg (by omega)]; omega
  have e2 : fromIndex got.length (ep : Int) = ep := by unfold fromIndex; rw [if_neg (by omega)]; omega
  unfold find4
  rw [e1, e2, Nat.min_eq_left h]
/-- what the loop's one name says of the whole: what is left to be sought from there on -/
def Seek (want got : Str) (ep : Nat) (rest : List Str) (a : Int) : Prop := ∃ sp : Nat, a = (sp : Int) ∧ ematch want got = findAll got ep sp rest
theorem Seek.miss {want got w : Str} {ep : Nat} {epI : Int} {rest : List Str} {a : Int} (h : Seek want got ep (w :: rest) a) (hI : epI = (ep : Int)) (he : ep ≤ got.length) (hlt : find4 got w a epI < 0) : ematch want got = false := by
  subst hI
  obtain ⟨sp, rfl, e⟩ := h
  rw [find4_nat he] at hlt
  rw [e, findAll_cons]
  cases ho : occurrences got w sp ep 1 with
  | nil => rfl
  | cons k r => rw [ho] at hlt; exact absurd hlt (by simp)
theorem Seek.go {want got w : Str} {ep : Nat} {epI : Int} {rest : List Str} {a : Int} (h : Seek want got ep (w :: rest) a) (hI : epI = (ep : Int)) (he : ep ≤ got.length) (hge : ¬ find4 got w a epI < 0) : Seek want got ep rest (find4 got w a epI + (w.length : Int)) := by
  subst hI
  obtain ⟨sp, rfl, e⟩ := h
  rw [find4_nat he] at hge ⊢
  rw [findAll_cons] at e
  cases ho : occurrences got w sp ep 1 with
  | nil => rw [ho] at hge; exact absurd hge (by simp)
  | cons k r =>
    rw [ho] at e
    exact ⟨k + w.length, by simp, e⟩
theorem seek_zero {want got z : Str} {en : Bool} {n : Nat} {aI : Int} {l1 l2 : List (Str × Tok)}
    (h : ematch want got = ((decide (z.length = 0) || en) && (decide (n + z.length ≤ got.length) && findAll got (got.length - z.length) n ((if z.length = 0 then l1 else l2).map (fun x => x.1)))))
    (hz : (z.length : Int) = 0) (hn : n ≤ got.length) (ha : aI = (n : Int)) : Seek want got got.length (l1.map (fun x => x.1)) aI := by
  have h0 : z.length = 0 := by omega
  refine ⟨n, ha, ?_⟩
  rw [h, h0]
  simp [hn]
theorem seek_some {want got z : Str} {en : Bool} {n : Nat} {aI : Int} {l1 l2 : List (Str × Tok)}
    (h : ematch want got = ((decide (z.length = 0) || en) && (decide (n + z.length ≤ got.length) && findAll got (got.length - z.length) n ((if z.length = 0 then l1 else l2).map (fun x => x.1)))))
    (hz : (z.length : Int) ≠ 0) (he : en = true) (hn : n + z.length ≤ got.length) (ha : aI = (n : Int)) : Seek want got (got.length - z.length) (l2.map (fun x => x.1)) aI := by
  have h0 : ¬ z.length = 0 := by omega
  refine ⟨n, ha, ?_⟩
  rw [h, he]
  simp [hn, h0]
theorem head_of_get0 {l : List Str} {y : Str} (h : l[Int.toNat 0]? = some y) : l.head? = some y := by rw [List.head?_eq_getElem?]; exact h
theorem getLast_map1 {l : List (Str × Tok)} {z : Str} {t : Tok} (h : l.getLast? = some (z, t)) : (l.map (fun x => x.1)).getLast? = some z := by rw [List.getLast?_map, h]; rfl
theorem ematch_two {want got a z : Str} {l : List (Str × Tok)} {t : Tok} (hocc : (occurrences want (Str.ofString "...") 0 want.length 1).isEmpty = false) (hs : l.map (fun x => x.1) = Txt.split want (Str.ofString "..."))
    (ha : (l.map (fun x => x.1)).head? = some a) (hne : (a.length : Int) ≠ 0) (hst : Txt.startswith got a = true) (hz : l.tail.getLast? = some (z, t)) :
    ematch want got = ((decide (z.length = 0) || Txt.endswith got z) && (decide (a.length + z.length ≤ got.length) && findAll got (got.length - z.length) a.length ((if z.length = 0 then l.tail else l.tail.dropLast).map (fun x => x.1)))) := by
  have hn : ¬ a.length = 0 := by omega
  have h1 := ematch_of (got := got) (ws1 := l.tail.map (fun x => x.1)) hocc hs ha (by rw [if_neg hn, List.map_tail]) (getLast_map1 hz)
  rw [h1, hst]
  by_cases h0 : z.length = 0
  · simp [hn, h0]
  · simp [hn, h0]
theorem ematch_one {want got a z : Str} {l : List (Str × Tok)} {t : Tok} (hocc : (occurrences want (Str.ofString "...") 0 want.length 1).isEmpty = false) (hs : l.map (fun x => x.1) = Txt.split want (Str.ofString "..."))
    (ha : (l.map (fun x => x.1)).head? = some a) (h0 : (a.length : Int) = 0) (hz : l.getLast? = some (z, t)) :
    ematch want got = ((decide (z.length = 0) || Txt.endswith got z) && (decide (0 + z.length ≤ got.length) && findAll got (got.length - z.length) 0 ((if z.length = 0 then l else l.dropLast).map (fun x => x.1)))) := by
  have hn : a.length = 0 := by omega
  have h1 := ematch_of (got := got) (ws1 := l.map (fun x => x.1)) hocc hs ha (by rw [if_pos hn]) (getLast_map1 hz)
  rw [h1, hn]
  by_cases h0 : z.length = 0
  · simp [h0]
  · simp [h0]
theorem ematch_false1 {e en rest : Bool} {z : Str} (h : e = ((decide (z.length = 0) || en) && rest)) (hz : (z.length : Int) ≠ 0) (hen : en = false) : e = false := by
  have hn : ¬ z.length = 0 := by omega
  rw [h, hen]; simp [hn]
theorem ematch_false2 {e b rest : Bool} {n g : Nat} (h : e = (b && (decide (n ≤ g) && rest))) (hn : ¬ n ≤ g) : e = false := by
  rw [h]; simp [hn]
/-- what a call of one of the text's defs is shown to do, for every caller -/
abbrev DefClaim (prog : Program) (w : World) (K : Frag) (p : Program) (loose : List Str) (mean : ExcName → Option Value) (mg mb : Str → Option Value) (f : Addr) (news : List (Addr × Obj)) (fr un' : Nat) (pre : Prop) (vs : List Value)
    (Post : Heap → Addr → (Str → Option Value) → Shared → (Value → Shared → Prop) → Prop) : Prop :=
  ∀ (dp un : Nat) (gd : Option (List Code)) (cn : Str) (cs : Scope) (a : Addr) (ccd : Value) (cl : List (Str × Addr)) (outer : List Env) (A₀ : Around) (base h₀ : Heap) (L : Addr) (m : Str → Option Value) (s : Shared) (Q E : Value → Shared → Prop),
    Below A₀ base outer h₀ → Fr h₀ L s.heap m → K.In h₀ → News h₀ L s.heap news → Top p loose mean mg mb h₀ → cs.kind = .function → pre → dp + fr < recursionLimit → un + un' < cLine → Post h₀ L m s Q →
      wpAny (model prog w) (ktrTop dp un gd cn cs L a ccd cl outer) (call (.ref f) vs) Q E s
/-- a mark that stops the walk -/
def Halt (P : Prop) : Prop := P
theorem Halt.of {P : Prop} (h : Halt P) : P := h
theorem Halt.go {P : Prop} (h : P) : Halt P := h
theorem map_two' {x y : Str} {m₁ m₀ : Str → Option Value} {u : Value} (ha : m₁ x = some u) (hm : ∀ z, z ≠ x → z ≠ y → m₁ z = m₀ z) :
    m₁ = fun z => if z = x then some u else if z = y then m₁ y else m₀ z := by
  funext z
  by_cases h1 : z = x
  · subst h1; simp [ha]
  · by_cases h2 : z = y
    · subst h2; simp [h1]
    · simp only [if_neg h1, if_neg h2]; exact hm z h1 h2
theorem map_one' {x : Str} {m₁ m₀ : Str → Option Value} {u : Value} (ha : m₁ x = some u) (hm : ∀ z, z ≠ x → m₁ z = m₀ z) :
    m₁ = fun z => if z = x then some u else m₀ z := by
  funext z
  by_cases h1 : z = x
  · subst h1; simp [ha]
  · simp only [if_neg h1]; exact hm z h1
theorem ltNe {d : Addr} {l : List (Addr × Obj)} (h : ∀ p ∈ l, p.1 < d) : ∀ p ∈ l, p.1 ≠ d := fun p hp => Nat.ne_of_lt (h p hp)
section
variable {prog : Program} {w : World} {A : Around} {E : Value → Shared → Prop} {s : Shared} {L D : Addr} {h₀ : Heap} {m : Str → Option Value} {news news' : List (Addr × Obj)}
theorem append_strs {l : List (Str × Tok)} {n : Nat} {x : Str} {t : Tok} {Q : Value → Shared → Prop} (F : Fr h₀ L s.heap m) (N : News h₀ L s.heap news) (hz : l.length ≤ 1000)
    (U : Upd D (listOf (strValues l).toArray n) (listOf (strValues (l ++ [(x, t)])).toArray (n + 1)) news news')
    (h : ∀ h', Fr h₀ L h' m → News h₀ L h' news' → Q .none { s with heap := h' }) : wpAny (model prog w) A (call (.builtin "list.append") [.ref D, .str x t]) Q E s := by
  have e : (strValues l).toArray.push (.str x t) = (strValues (l ++ [(x, t)])).toArray := by simp [strValues]
  exact append_K F N (by rw [e]; exact U) h (by rw [List.size_toArray, strValues_length, sizeLine_eq]; omega)
end
section
variable {prog : Program} {w : World} {A : Around} {E : Value → Shared → Prop} {s : Shared} {L D : Addr} {h₀ : Heap} {m : Str → Option Value} {news news' : List (Addr × Obj)}
theorem item_ints {vs : List Value} {ns : List Int} {n : Nat} {value slice : Expr} {k : Int} {u : Tok} {Q : Value → Shared → Prop} (N : News h₀ L s.heap news) (hm : (D, listOf vs.toArray n) ∈ news) (hI : IntsAre vs ns)
    (h0 : 0 ≤ k) (hk : k.toNat < ns.length) (hz : ns.length ≤ 1000) (h : ∀ v t, ns[k.toNat]? = some v → Q (.int v t) s)
    (hs : subscripted slice false (.ref D) (.int k u) = operate [.ref D, .int k u] (getItem (.ref D) (.int k u))) :
    wpAny (model prog w) A (subscriptTail value slice (.ref D) (.int k u)) Q E s := by
  have hl := isList_of N hm
  obtain ⟨t, hx⟩ := hI.get k.toNat ns[k.toNat] (by simp [hk])
  exact tail_any hl.typeIs slot_list_getitem.lookup (wpAny_getItem_list hl h0 (by omega) (by simpa using hx) (h _ t (by simp [hk]))) hs
end
section
variable {prog : Program} {w : World} {A : Around} {h₀ : Heap} {L : Addr} {m : Str → Option Value} {env : Env} {elt : Expr} {x : Str} {scope : Scope} {cl : List (Str × Addr)} {s : Shared} {S : List (Addr × Obj) → Prop} {P : Nat → Value → Prop} {Fin : List Value → List (Addr × Obj) → Prop} {news : List (Addr × Obj)}
/-- a comprehension's turns, by what holds of the values so far -/
theorem rest_of {n : Nat} (J : Nat → List Value → Prop) (h0 : J 0 [])
    (turn : ∀ i ys v I oI C oC D m₂ h tk (E' : Value → Shared → Prop), i < n → P i v → J i ys → LCg.NsObj oC m₂ → m₂ x = some v → Fr h₀ L h m → News h₀ L h ((I, oI) :: (C, oC) :: (D, LCg.lst ys) :: news) → LCg.Off3 I C D news → ((@Ne Nat I C) ∧ (@Ne Nat I D) ∧ (@Ne Nat C D)) →
      wpAny (model prog w) A (eval elt (compEnvC scope cl C env)) (LCg.CompEnd h₀ L m { s with heap := h, toks := tk } I oI C oC D (LCg.lst ys) S (fun y news' => news' = news ∧ J (i + 1) (ys ++ [y]))) E' { s with heap := h, toks := tk })
    (fin : ∀ ys, J n ys → Fin ys news) : LCg.CompRest prog w A h₀ L m env elt x scope cl s S P Fin n 0 [] news := by
  have key : ∀ (j i : Nat) (ys : List Value), i + j = n → J i ys → LCg.CompRest prog w A h₀ L m env elt x scope cl s S P Fin j i ys news := by
    intro j
    induction j with
    | zero =>
      intro i ys hi hy
      have e : i = n := by omega
      subst e
      exact LCg.CompRest.zero (fin ys hy)
    | succ j ih =>
      intro i ys hi hy
      refine LCg.CompRest.succ ?_
      intro v I oI C oC D m₂ h tk E' hv hC hx F N off ne
      refine wpAny_mono (turn i ys v I oI C oC D m₂ h tk E' (by omega) hv hy hC hx F N off ne) (fun y s₂ hq => ?_) fun _ _ e => e
      obtain ⟨h', tk', nw, e, F', N', off', hS, rfl, hJ⟩ := hq
      exact ⟨h', tk', nw, e, F', N', off', hS, ih (i + 1) _ (by omega) hJ⟩
  exact key n 0 [] (by omega) h0
end
end Mine
namespace Mine
/-! the plain law: patterns as lists of signs' numbers, their tokens, what matches -/
inductive Tk where
  | lit (c : Nat)
  | gap
def toks : List Nat → List Tk
  | 46 :: 46 :: 46 :: r => .gap :: toks r
  | c :: r => .lit c :: toks r
  | [] => []
def Tk.txt : Tk → List Nat
  | .lit c => [c]
  | .gap => [46, 46, 46]
def Mt : List Tk → List Nat → Prop
  | [], t => t = []
  | .lit c :: ts, t => ∃ r, t = c :: r ∧ Mt ts r
  | .gap :: ts, t => ∃ g r, t = g ++ r ∧ Mt ts r
def lits : List Tk → List Nat
  | [] => []
  | .lit c :: ts => c :: lits ts
  | .gap :: ts => lits ts
/-- does a text begin by three dots -/
def dots (l : List Nat) : Bool := l.take 3 == [46, 46, 46]
theorem dots_iff {l : List Nat} : dots l = true ↔ ∃ r, l = 46 :: 46 :: 46 :: r := by
  unfold dots
  constructor
  · intro h
    match l, h with
    | [], h => cases h
    | [a], h => simp at h
    | [a, b], h => simp at h
    | a :: b :: c :: r, h => simp at h; obtain ⟨rfl, rfl, rfl⟩ := h; exact ⟨r, rfl⟩
  · rintro ⟨r, rfl⟩; rfl
theorem toks_dots (r : List Nat) : toks (46 :: 46 :: 46 :: r) = .gap :: toks r := by rw [toks]
theorem toks_lit {c : Nat} {r : List Nat} (h : dots (c :: r) = false) : toks (c :: r) = .lit c :: toks r := by
  rw [toks]
  rintro r' rfl rfl
  simp [dots] at h
theorem toks_txt (l : List Nat) : (toks l).flatMap Tk.txt = l := by
  fun_induction toks l with
  | case1 r ih => rw [List.flatMap_cons, ih]; rfl
  | case2 c r _ ih => rw [List.flatMap_cons, ih]; rfl
  | case3 => rfl
theorem toks_pre : ∀ (n : Nat) (l : List Nat), (∀ k, k < n → dots (l.drop k) = false) → toks l = (l.take n).map .lit ++ toks (l.drop n)
  | 0, l, _ => by simp
  | n + 1, [], _ => by simp [toks]
  | n + 1, c :: r, h => by
    have h0 := h 0 (by omega)
    rw [List.drop_zero] at h0
    rw [toks_lit h0, toks_pre n r fun k hk => by simpa using h (k + 1) (by omega)]
    simp
theorem toks_chars {P : Nat → Prop} (l : List Nat) (h : ∀ c ∈ l, P c) : ∀ c, .lit c ∈ toks l → P c := by
  intro c hc
  have : c ∈ (toks l).flatMap Tk.txt := List.mem_flatMap.mpr ⟨_, hc, by simp [Tk.txt]⟩
  rw [toks_txt] at this
  exact h c this
theorem lits_chars {ts : List Tk} {c : Nat} (h : c ∈ lits ts) : .lit c ∈ ts := by
  induction ts with
  | nil => cases h
  | cons t ts ih =>
    cases t with
    | gap => exact .tail _ (ih h)
    | lit d =>
      rcases List.mem_cons.mp h with rfl | h
      · exact .head _
      · exact .tail _ (ih h)
theorem Mt.self (ts : List Tk) : Mt ts (ts.flatMap Tk.txt) := by
  induction ts with
  | nil => rfl
  | cons t ts ih =>
    rw [List.flatMap_cons]
    cases t with
    | lit c => exact ⟨_, rfl, ih⟩
    | gap => exact ⟨_, _, rfl, ih⟩
theorem Mt.len {ts : List Tk} : ∀ {t : List Nat}, Mt ts t → (lits ts).length ≤ t.length := by
  induction ts with
  | nil => intro t h; exact Nat.zero_le _
  | cons a ts ih =>
    cases a with
    | lit c => rintro t ⟨r, rfl, h⟩; have := ih h; simp only [lits, List.length_cons]; omega
    | gap => rintro t ⟨g, r, rfl, h⟩; have := ih h; simp only [lits, List.length_append]; omega
theorem Mt.tight {ts : List Tk} : ∀ {t : List Nat}, Mt ts t → t.length = (lits ts).length → t = lits ts := by
  induction ts with
  | nil => intro t h _; exact h
  | cons a ts ih =>
    cases a with
    | lit c =>
      rintro t ⟨r, rfl, h⟩ hl
      simp only [lits, List.length_cons] at hl ⊢
      rw [ih h (by omega)]
    | gap =>
      rintro t ⟨g, r, rfl, h⟩ hl
      simp only [lits, List.length_append] at hl ⊢
      have := h.len
      have hg : g = [] := List.eq_nil_of_length_eq_zero (by omega)
      subst hg
      exact ih h (by simpa using hl)
/-- a text that is let in, and none of it can go: the signs alone -/
theorem Mt.least {ts : List Tk} : ∀ {t : List Nat}, Mt ts t → t = lits ts ∨ ∃ i, i < t.length ∧ Mt ts (t.eraseIdx i) := by
  induction ts with
  | nil => intro t h; exact .inl h
  | cons a ts ih =>
    cases a with
    | lit c =>
      rintro t ⟨r, rfl, h⟩
      rcases ih h with e | ⟨i, hi, hm⟩
      · exact .inl (by rw [e]; rfl)
      · exact .inr ⟨i + 1, by simpa using hi, r.eraseIdx i, by simp, hm⟩
    | gap =>
      rintro t ⟨g, r, rfl, h⟩
      cases g with
      | cons c g => exact .inr ⟨0, by simp, g, r, by simp, h⟩
      | nil =>
        rcases ih h with e | ⟨i, hi, hm⟩
        · exact .inl (by rw [e]; rfl)
        · exact .inr ⟨i, by simpa using hi, [], r.eraseIdx i, by simp, hm⟩
def gapAt : List Tk → Nat → Bool
  | [], _ => false
  | .lit _ :: _, 0 => false
  | .lit _ :: ts, p + 1 => gapAt ts p
  | .gap :: ts, p => p == 0 || gapAt ts p
theorem Mt.put {z : Nat} {ts : List Tk} : ∀ {p : Nat}, gapAt ts p = true → Mt ts ((lits ts).take p ++ z :: (lits ts).drop p) := by
  have base : ∀ ts : List Tk, Mt ts (lits ts) := by
    intro ts
    induction ts with
    | nil => rfl
    | cons a ts ih =>
      cases a with
      | lit c => exact ⟨_, rfl, ih⟩
      | gap => exact ⟨[], _, rfl, ih⟩
  induction ts with
  | nil => intro p h; cases h
  | cons a ts ih =>
    cases a with
    | lit c =>
      intro p h
      cases p with
      | zero => cases h
      | succ p => exact ⟨_, by simp [lits], ih h⟩
    | gap =>
      intro p h
      simp only [gapAt, Bool.or_eq_true, beq_iff_eq] at h
      by_cases h0 : p = 0
      · subst h0
        exact ⟨[z], lits ts, by simp [lits], base ts⟩
      · exact ⟨[], _, by simp [lits], ih (h.resolve_left h0)⟩
theorem Mt.take {z : Nat} {ts : List Tk} : ∀ {a b : List Nat}, z ∉ lits ts → Mt ts (a ++ z :: b) → a.length + b.length = (lits ts).length → gapAt ts a.length = true := by
  induction ts with
  | nil =>
    intro a b _ h _
    have : a ++ z :: b = [] := h
    simp at this
  | cons t ts ih =>
    cases t with
    | lit c =>
      rintro a b hz ⟨r, e, h⟩ hl
      cases a with
      | nil =>
        simp only [List.nil_append, List.cons.injEq] at e
        exact absurd (by rw [e.1]; exact .head _) hz
      | cons c' a =>
        simp only [List.cons_append, List.cons.injEq] at e
        obtain ⟨rfl, rfl⟩ := e
        exact ih (fun h' => hz (.tail _ h')) h (by simp only [lits, List.length_cons] at hl; omega)
    | gap =>
      rintro a b hz ⟨g, r, e, h⟩ hl
      have hlen := h.len
      have hz' : z ∉ lits ts := hz
      have hl' : a.length + b.length = (lits ts).length := hl
      simp only [gapAt, Bool.or_eq_true, beq_iff_eq]
      rcases List.append_eq_append_iff.mp e with ⟨g2, rfl, e2⟩ | ⟨a2, rfl, e2⟩
      · -- g = a ++ g2, z :: b = g2 ++ r
        cases g2 with
        | nil =>
          simp only [List.nil_append] at e2
          subst e2
          simp only [List.length_cons] at hlen
          by_cases h0 : a.length = 0
          · exact .inl h0
          · have hr : (z :: b).length = (lits ts).length := by simp only [List.length_cons]; omega
            have := h.tight hr
            exact absurd (by rw [← this]; exact .head _) hz'
        | cons x g2 =>
          simp only [List.cons_append, List.cons.injEq] at e2
          obtain ⟨rfl, rfl⟩ := e2
          left
          simp only [List.length_append] at hl'
          omega
      · -- a = g ++ a2, r = a2 ++ z :: b
        subst e2
        simp only [List.length_append, List.length_cons] at hlen hl' ⊢
        by_cases h0 : g.length = 0
        · have hg : g = [] := List.eq_nil_of_length_eq_zero h0
          subst hg
          right
          simpa using ih hz' h (by simpa using hl')
        · have hr : (a2 ++ z :: b).length = (lits ts).length := by simp only [List.length_append, List.length_cons]; omega
          have := h.tight hr
          exact absurd (by rw [← this]; simp) hz'
theorem put_iff {z : Nat} {ts : List Tk} {p : Nat} (hz : z ∉ lits ts) (hp : p ≤ (lits ts).length) : Mt ts ((lits ts).take p ++ z :: (lits ts).drop p) ↔ gapAt ts p = true := by
  refine ⟨fun h => ?_, Mt.put⟩
  have := h.take hz (by rw [List.length_take, List.length_drop]; omega)
  rwa [List.length_take, Nat.min_eq_left hp] at this
end Mine
namespace Mine
open Builtin Builtin.Str StrLaws
abbrev chars (x : Str) : List Nat := x.cps.toList
theorem chars_length (x : Str) : (chars x).length = x.length := by simp [chars, Str.length]
theorem chars_append (a b : Str) : chars (a ++ b) = chars a ++ chars b := Array.toList_append
theorem chars_inj {x y : Str} (h : chars x = chars y) : x = y := Str.ext' (Array.toList_inj.mp h)
def segs : List Tk → List (List Nat)
  | [] => [[]]
  | .lit c :: ts => (c :: (segs ts).headD []) :: (segs ts).tail
  | .gap :: ts => [] :: segs ts
theorem segs_cons (ts : List Tk) : ∃ s r, segs ts = s :: r := by
  cases ts with
  | nil => exact ⟨_, _, rfl⟩
  | cons t ts => cases t <;> exact ⟨_, _, rfl⟩
def MS : List (List Nat) → List Nat → Prop
  | [], _ => False
  | [l], t => t = l
  | l :: l' :: ls, t => ∃ g r, t = l ++ g ++ r ∧ MS (l' :: ls) r
theorem mt_iff {ts : List Tk} : ∀ {t : List Nat}, Mt ts t ↔ MS (segs ts) t := by
  induction ts with
  | nil => intro t; exact Iff.rfl
  | cons a ts ih =>
    obtain ⟨s, r, hs⟩ := segs_cons ts
    cases a with
    | lit c =>
      intro t
      simp only [segs, hs, List.headD_cons, List.tail_cons]
      show (∃ q, t = c :: q ∧ Mt ts q) ↔ _
      rw [hs] at ih
      cases r with
      | nil =>
        constructor
        · rintro ⟨q, rfl, h⟩; show c :: q = c :: s; rw [ih.mp h]
        · intro h; exact ⟨s, h, ih.mpr rfl⟩
      | cons s' r =>
        constructor
        · rintro ⟨q, rfl, h⟩
          obtain ⟨g, q', rfl, h'⟩ := ih.mp h
          exact ⟨g, q', by simp, h'⟩
        · rintro ⟨g, q', rfl, h'⟩
          exact ⟨s ++ g ++ q', by simp, ih.mpr ⟨g, q', rfl, h'⟩⟩
    | gap =>
      intro t
      simp only [segs, hs]
      show (∃ g q, t = g ++ q ∧ Mt ts q) ↔ ∃ g q, t = [] ++ g ++ q ∧ MS (s :: r) q
      rw [hs] at ih
      constructor
      · rintro ⟨g, q, rfl, h⟩; exact ⟨g, q, by simp, ih.mp h⟩
      · rintro ⟨g, q, rfl, h⟩; exact ⟨g, q, by simp, ih.mpr h⟩
theorem segs_lits (l : List Nat) (ts : List Tk) : segs (l.map .lit ++ ts) = (l ++ (segs ts).headD []) :: (segs ts).tail := by
  induction l with
  | nil => obtain ⟨s, r, hs⟩ := segs_cons ts; simp [hs]
  | cons c l ih => simp only [List.map_cons, List.cons_append, segs, ih, List.headD_cons, List.tail_cons]
abbrev D3 : Str := Str.ofString "..."
theorem D3_len : D3.length = 3 := by decide +kernel
theorem D3_chars : chars D3 = [46, 46, 46] := by decide +kernel
theorem at_dots {x : Str} {k : Nat} : At x D3 x.length k ↔ dots ((chars x).drop k) = true := by
  unfold At dots
  rw [subAt_eq, D3_len]
  show k + 3 ≤ x.length ∧ ((chars x).drop k).take 3 == chars D3 ↔ _
  rw [D3_chars]
  constructor
  · rintro ⟨_, h⟩; exact h
  · intro h
    refine ⟨?_, h⟩
    have := congrArg List.length (beq_iff_eq.mp h)
    rw [List.length_take, List.length_drop, chars_length] at this
    simp only [List.length_cons, List.length_nil] at this
    omega
theorem strSub_chars (x : Str) (i j : Nat) : chars (strSub x i j) = ((chars x).drop i).take (j - i) := strSub_toList x i j
theorem parts_segs (x : Str) : ∀ (cuts : List Nat) (a f : Nat), ChainG x D3 x.length a cuts f → (∀ k, f ≤ k → ¬ At x D3 x.length k) →
    (partsFrom x 3 a cuts).map chars = segs (toks ((chars x).drop a))
  | [], a, f, h, hn => by
    have hf : f = a := h
    subst hf
    have e : toks ((chars x).drop f) = ((chars x).drop f).map .lit := by
      have := toks_pre ((chars x).drop f).length ((chars x).drop f) (fun k _ => by
        have h1 := hn (f + k) (by omega)
        rw [at_dots] at h1
        rw [List.drop_drop]
        simpa using h1)
      rw [List.take_length, List.drop_length] at this
      rw [this]; simp [toks]
    have e2 := segs_lits ((chars x).drop f) []
    rw [List.append_nil] at e2
    rw [e, e2]
    simp only [partsFrom, List.map_cons, List.map_nil, strSub_chars, segs, List.headD_cons, List.tail_cons, List.append_nil]
    rw [List.take_of_length_le (by rw [List.length_drop, chars_length]; omega)]
  | c :: r, a, f, h, hn => by
    obtain ⟨hac, hc, hno, hr⟩ := h
    rw [D3_len] at hr
    have ih := parts_segs x r (c + 3) f hr hn
    have e := toks_pre (c - a) ((chars x).drop a) (fun k hk => by
      have h1 := hno (a + k) (by omega) (by omega)
      rw [at_dots] at h1
      rw [List.drop_drop]
      simpa using h1)
    rw [List.drop_drop, show a + (c - a) = c from by omega] at e
    obtain ⟨q, hq⟩ := dots_iff.mp (at_dots.mp hc)
    have hq3 : (chars x).drop (c + 3) = q := by
      rw [← List.drop_drop, hq]; rfl
    rw [hq, toks_dots, ← hq3] at e
    rw [e, segs_lits]
    simp only [partsFrom, List.map_cons, strSub_chars, segs, List.headD_cons, List.tail_cons, List.append_nil, ih]
theorem split_segs {want : Str} (h : (occurrences want D3 0 want.length 1).isEmpty = false) : (Txt.split want D3).map chars = segs (toks (chars want)) := by
  obtain ⟨e, _⟩ := split_cuts D3_len (by decide +kernel) h
  obtain ⟨f, hc, hn⟩ := occ_tight want D3 (by rw [D3_len]; decide)
  rw [e, D3_len, partsBetween_eq]
  have := parts_segs want _ 0 f hc hn
  rwa [List.drop_zero] at this
theorem nosplit {want : Str} (h : (occurrences want D3 0 want.length 1).isEmpty = true) : toks (chars want) = (chars want).map .lit := by
  have hn : ∀ k, dots ((chars want).drop k) = false := by
    intro k
    cases hd : dots ((chars want).drop k) with
    | false => rfl
    | true =>
      have hA := at_dots.mpr hd
      have : (!(occurrences want D3 0 want.length 1).isEmpty) = true := (found_iff want D3).mpr ⟨k, hA.1, hA.2⟩
      rw [h] at this; cases this
  have := toks_pre (chars want).length (chars want) (fun k _ => hn k)
  rw [List.take_length, List.drop_length] at this
  rw [this]; simp [toks]
theorem mt_lits {u : List Nat} : ∀ {t : List Nat}, Mt (u.map .lit) t ↔ t = u := by
  induction u with
  | nil => intro t; exact Iff.rfl
  | cons c u ih =>
    intro t
    show (∃ r, t = c :: r ∧ Mt (u.map .lit) r) ↔ _
    constructor
    · rintro ⟨r, rfl, h⟩; rw [ih.mp h]
    · rintro rfl; exact ⟨u, rfl, ih.mpr rfl⟩
/-! in order -/
def InO : List (List Nat) → List Nat → Prop
  | [], _ => True
  | w :: r, t => ∃ g t', t = g ++ w ++ t' ∧ InO r t'
theorem InO.mono {r : List (List Nat)} (x : List Nat) {t : List Nat} (h : InO r t) : InO r (x ++ t) := by
  cases r with
  | nil => trivial
  | cons w r =>
    obtain ⟨g, t', rfl, h'⟩ := h
    exact ⟨x ++ g, t', by simp, h'⟩
theorem inO_nil {r : List (List Nat)} {t : List Nat} : InO ([] :: r) t ↔ InO r t := by
  constructor
  · rintro ⟨g, t', rfl, h⟩; rw [List.append_nil]; exact h.mono g
  · intro h; exact ⟨[], t, by simp, h⟩
theorem inO_snoc {r : List (List Nat)} : ∀ {t : List Nat}, InO (r ++ [[]]) t ↔ InO r t := by
  induction r with
  | nil => intro t; exact ⟨fun _ => trivial, fun _ => ⟨t, [], by simp, trivial⟩⟩
  | cons w r ih =>
    intro t
    constructor
    · rintro ⟨g, t', rfl, h⟩; exact ⟨g, t', rfl, ih.mp h⟩
    · rintro ⟨g, t', rfl, h⟩; exact ⟨g, t', rfl, ih.mpr h⟩
theorem ms_mid {z : List Nat} : ∀ {mid : List (List Nat)} {a t : List Nat}, MS (a :: (mid ++ [z])) t ↔ ∃ m, t = a ++ m ++ z ∧ InO mid m := by
  intro mid
  induction mid with
  | nil =>
    intro a t
    constructor
    · rintro ⟨g, r, rfl, rfl⟩; exact ⟨g, rfl, trivial⟩
    · rintro ⟨m, rfl, _⟩; exact ⟨m, z, rfl, rfl⟩
  | cons w mid ih =>
    intro a t
    constructor
    · rintro ⟨g, r, rfl, h⟩
      obtain ⟨m, rfl, h'⟩ := ih.mp h
      exact ⟨g ++ w ++ m, by simp, g, m, rfl, h'⟩
    · rintro ⟨m, rfl, g, t', rfl, h'⟩
      exact ⟨g, w ++ t' ++ z, by simp, ih.mpr ⟨t', rfl, h'⟩⟩
theorem occ1 (x y : Str) (lo hi : Nat) :
    (occurrences x y lo hi 1 = [] ∧ ∀ i, lo ≤ i → ¬ At x y hi i) ∨ ∃ i r, occurrences x y lo hi 1 = i :: r ∧ lo ≤ i ∧ At x y hi i ∧ ∀ k, lo ≤ k → k < i → ¬ At x y hi k := by
  rw [occ_eq]
  rcases occ_first x y hi 1 (Nat.le_refl 1) (List.range' lo (hi + 1 - lo)) lo (fun i hi' => (List.mem_range'_1.mp hi').1) with ⟨h0, hn⟩ | ⟨pre, a, post, e, h0, ha, hn⟩
  · refine .inl ⟨by rw [h0], fun i hlo hA => ?_⟩
    exact hn i (by have := hA.1; rw [List.mem_range'_1]; omega) hA
  · have hs := range'_split_from e
    refine .inr ⟨a, ((forIn (List.range' lo (hi + 1 - lo)) ((#[] : Array Nat), lo) (occBody x y hi 1)).run.fst.toList).tail, ?_, hs.1, ha, fun k hk0 hk => hn k (hs.2 k hk0 hk)⟩
    generalize (forIn (List.range' lo (hi + 1 - lo)) ((#[] : Array Nat), lo) (occBody x y hi 1)).run.fst = arr at h0
    have h1 : arr.toList[0]? = some a := by simpa using h0
    cases hL : arr.toList with
    | nil => rw [hL] at h1; cases h1
    | cons b t => rw [hL] at h1; simp at h1; rw [h1]; rfl
theorem at_pre {x y : Str} {hi i : Nat} (hh : hi ≤ x.length) : At x y hi i ↔ i + y.length ≤ hi ∧ ∃ t', ((chars x).take hi).drop i = chars y ++ t' := by
  unfold At
  rw [subAt_eq]
  constructor
  · rintro ⟨h1, h2⟩
    refine ⟨h1, (((chars x).take hi).drop i).drop y.length, ?_⟩
    have h3 : ((chars x).drop i).take y.length = chars y := beq_iff_eq.mp h2
    have h4 : (((chars x).take hi).drop i).take y.length = chars y := by
      rw [List.drop_take, List.take_take, Nat.min_eq_left (by omega)]; exact h3
    rw [← h4, List.take_append_drop]
  · rintro ⟨h1, t', h2⟩
    refine ⟨h1, beq_iff_eq.mpr ?_⟩
    have h4 := congrArg (List.take y.length) h2
    rw [List.drop_take, List.take_take, Nat.min_eq_left (by omega), List.take_append_of_le_length (by rw [chars_length]; exact Nat.le_refl _)] at h4
    have h5 : (chars y).take y.length = chars y := List.take_of_length_le (by rw [chars_length]; exact Nat.le_refl _)
    rw [h5] at h4
    exact h4
theorem findAll_iff {got : Str} {ep : Nat} (he : ep ≤ got.length) : ∀ (ws : List Str) (sp : Nat), sp ≤ ep → (findAll got ep sp ws = true ↔ InO (ws.map chars) (((chars got).take ep).drop sp))
  | [], sp, _ => ⟨fun _ => trivial, fun _ => rfl⟩
  | w :: r, sp, hs => by
    have hL : ((chars got).take ep).length = ep := by rw [List.length_take, chars_length]; omega
    rw [findAll_cons, List.map_cons]
    have hit : ∀ g t', ((chars got).take ep).drop sp = g ++ chars w ++ t' → At got w ep (sp + g.length) ∧ t' = ((chars got).take ep).drop (sp + g.length + w.length) := by
      intro g t' e
      have e1 : ((chars got).take ep).drop (sp + g.length) = chars w ++ t' := by rw [← List.drop_drop, e, List.append_assoc, List.drop_left]
      refine ⟨(at_pre he).mpr ⟨?_, t', e1⟩, ?_⟩
      · have := congrArg List.length e
        rw [List.length_drop, hL] at this
        simp only [List.length_append, chars_length] at this
        omega
      · rw [← List.drop_drop, e1, List.drop_append_of_le_length (by rw [chars_length]; exact Nat.le_refl _), List.drop_of_length_le (by rw [chars_length]; exact Nat.le_refl _), List.nil_append]
    rcases occ1 got w sp ep with ⟨h0, hn⟩ | ⟨i, q, h0, hlo, hA, hn⟩
    · rw [h0]
      constructor
      · intro h; cases h
      · rintro ⟨g, t', e, _⟩
        exact absurd (hit g t' e).1 (hn _ (by omega))
    · rw [h0]
      obtain ⟨h1, t1, h2⟩ := (at_pre he).mp hA
      rw [findAll_iff he r (i + w.length) h1]
      constructor
      · intro h
        refine ⟨(((chars got).take ep).drop sp).take (i - sp), _, ?_, h⟩
        have e3 : (((chars got).take ep).drop sp).drop (i - sp) = chars w ++ ((chars got).take ep).drop (i + w.length) := by
          rw [List.drop_drop, show sp + (i - sp) = i from by omega, h2]
          congr 1
          rw [← List.drop_drop, h2, List.drop_append_of_le_length (by rw [chars_length]; exact Nat.le_refl _), List.drop_of_length_le (by rw [chars_length]; exact Nat.le_refl _), List.nil_append]
        rw [List.append_assoc, ← e3, List.take_append_drop]
      · rintro ⟨g, t', e, h⟩
        obtain ⟨hA', ht⟩ := hit g t' e
        have hge : i ≤ sp + g.length := by
          apply Nat.le_of_not_lt
          intro hlt
          exact hn _ (by omega) hlt hA'
        rw [ht] at h
        have e4 : ((chars got).take ep).drop (i + w.length) = (((chars got).take ep).drop (i + w.length)).take (sp + g.length - i) ++ ((chars got).take ep).drop (sp + g.length + w.length) := by
          have : ((chars got).take ep).drop (sp + g.length + w.length) = (((chars got).take ep).drop (i + w.length)).drop (sp + g.length - i) := by rw [List.drop_drop]; congr 1; omega
          rw [this, List.take_append_drop]
        rw [e4]
        exact h.mono _
theorem starts_iff {x y : Str} : Txt.startswith x y = true ↔ ∃ t, chars x = chars y ++ t := by
  unfold Txt.startswith
  rw [Bool.and_eq_true, decide_eq_true_eq]
  have h := at_pre (x := x) (y := y) (hi := x.length) (i := 0) (Nat.le_refl _)
  unfold At at h
  rw [h, ← chars_length x, List.take_length, List.drop_zero]
  constructor
  · rintro ⟨_, h⟩; exact h
  · rintro ⟨t, ht⟩
    refine ⟨?_, t, ht⟩
    rw [ht, List.length_append, chars_length]; omega
theorem ends_iff {x y : Str} : Txt.endswith x y = true ↔ ∃ t, chars x = t ++ chars y := by
  unfold Txt.endswith
  rw [Bool.and_eq_true, decide_eq_true_eq, subAt_eq]
  constructor
  · rintro ⟨h1, h2⟩
    refine ⟨(chars x).take (x.length - y.length), ?_⟩
    have h3 : ((chars x).drop (x.length - y.length)).take y.length = chars y := beq_iff_eq.mp h2
    rw [List.take_of_length_le (by rw [List.length_drop, chars_length]; omega)] at h3
    rw [← h3, List.take_append_drop]
  · rintro ⟨t, ht⟩
    have hl : x.length = t.length + y.length := by
      have := congrArg List.length ht
      rw [List.length_append, chars_length, chars_length] at this; exact this
    refine ⟨by omega, beq_iff_eq.mpr ?_⟩
    show ((chars x).drop (x.length - y.length)).take y.length = chars y
    rw [ht, show x.length - y.length = t.length from by omega, List.drop_left]
    exact List.take_of_length_le (by rw [chars_length]; exact Nat.le_refl _)
/-- the function's answer is the pattern's language -/
theorem ematch_iff {want got : Str} : ematch want got = true ↔ Mt (toks (chars want)) (chars got) := by
  cases hocc : (occurrences want D3 0 want.length 1).isEmpty with
  | true =>
    have e : ematch want got = (want == got) := by unfold ematch; rw [if_pos hocc]
    rw [e, nosplit hocc, mt_lits, beq_iff_eq]
    exact ⟨fun h => by rw [h], fun h => (chars_inj h).symm⟩
  | false =>
    have h2 := split_two D3_len (by decide +kernel) hocc
    have hseg := split_segs hocc
    obtain ⟨a, mid, z, hws⟩ : ∃ a mid z, Txt.split want D3 = a :: (mid ++ [z]) := by
      cases hw : Txt.split want D3 with
      | nil => rw [hw] at h2; simp at h2
      | cons a r =>
        rw [hw] at h2
        have hr : r ≠ [] := by rintro rfl; simp at h2
        exact ⟨a, r.dropLast, r.getLast hr, by rw [List.dropLast_concat_getLast hr]⟩
    rw [hws] at hseg
    rw [mt_iff, ← hseg]
    simp only [List.map_cons, List.map_append, List.map_nil]
    rw [ms_mid]
    have e := ematch_of (got := got) (a := a) (z := z) (ws := a :: (mid ++ [z])) (ws1 := if a.length = 0 then a :: (mid ++ [z]) else mid ++ [z]) hocc hws.symm rfl (by split <;> rfl)
      (by split
          · rw [← List.cons_append, List.getLast?_concat]
          · rw [List.getLast?_concat])
    have hnil : ∀ {y : Str}, y.length = 0 → chars y = [] := fun h => List.eq_nil_of_length_eq_zero (by rw [chars_length]; exact h)
    -- what is sought in between
    have hin : ∀ t, InO ((if z.length = 0 then (if a.length = 0 then a :: (mid ++ [z]) else mid ++ [z]) else (if a.length = 0 then a :: (mid ++ [z]) else mid ++ [z]).dropLast).map chars) t ↔ InO (mid.map chars) t := by
      intro t
      by_cases ha : a.length = 0
      · by_cases hz : z.length = 0
        · simp only [ha, hz, if_true, List.map_cons, List.map_append, List.map_nil, hnil ha, hnil hz]
          rw [inO_nil, inO_snoc]
        · simp only [ha, hz, if_true, if_false]
          rw [← List.cons_append, List.dropLast_concat, List.map_cons, hnil ha, inO_nil]
      · by_cases hz : z.length = 0
        · simp only [ha, hz, if_true, if_false, List.map_append, List.map_cons, List.map_nil, hnil hz]
          rw [inO_snoc]
        · simp only [ha, hz, if_false]
          rw [List.dropLast_concat]
    have hst : (a.length = 0 || Txt.startswith got a) = true ↔ ∃ t, chars got = chars a ++ t := by
      rw [Bool.or_eq_true, decide_eq_true_eq, starts_iff]
      constructor
      · rintro (h | h)
        · rw [hnil h]; exact ⟨chars got, rfl⟩
        · exact h
      · exact .inr
    have hen : (z.length = 0 || Txt.endswith got z) = true ↔ ∃ t, chars got = t ++ chars z := by
      rw [Bool.or_eq_true, decide_eq_true_eq, ends_iff]
      constructor
      · rintro (h | h)
        · rw [hnil h]; exact ⟨chars got, by simp⟩
        · exact h
      · exact .inr
    rw [e, Bool.and_eq_true, Bool.and_eq_true, Bool.and_eq_true, decide_eq_true_eq, hst, hen]
    constructor
    · rintro ⟨⟨t1, h1⟩, ⟨t2, h2'⟩, hle, hf⟩
      rw [findAll_iff (by omega) _ _ (by omega), hin] at hf
      refine ⟨_, ?_, hf⟩
      have hl : (chars got).length = t2.length + z.length := by rw [h2', List.length_append, chars_length]
      rw [chars_length] at hl
      have e2 : (chars got).take (got.length - z.length) = t2 := by rw [h2', List.take_append_of_le_length (by omega)]; exact List.take_of_length_le (by omega)
      have e1 : (t2.take a.length) = chars a := by
        rw [← e2, h1, List.take_take, Nat.min_eq_left (by omega), List.take_append_of_le_length (by rw [chars_length]; exact Nat.le_refl _)]
        exact List.take_of_length_le (by rw [chars_length]; exact Nat.le_refl _)
      rw [e2]
      rw [← e1, List.take_append_drop, ← h2']
    · rintro ⟨m, h, hm⟩
      have hl : got.length = a.length + m.length + z.length := by
        have := congrArg List.length h
        rw [List.length_append, List.length_append, chars_length, chars_length, chars_length] at this; exact this
      refine ⟨⟨m ++ chars z, by rw [h, List.append_assoc]⟩, ⟨chars a ++ m, h⟩, by omega, ?_⟩
      rw [findAll_iff (by omega) _ _ (by omega), hin]
      have e2 : ((chars got).take (got.length - z.length)).drop a.length = m := by
        rw [h, List.take_append_of_le_length (by rw [List.length_append, chars_length]; omega), List.take_of_length_le (by rw [List.length_append, chars_length]; omega)]
        have : a.length = (chars a).length := (chars_length a).symm
        rw [this, List.drop_left]
      rw [e2]
      exact hm
/-! slices -/
theorem slice_clip (x : Str) (a b : Nat) : Txt.slice x (some (a : Int)) (some (b : Int)) = Txt.slice x (some ((min a x.length : Nat) : Int)) (some ((min b x.length : Nat) : Int)) := by
  have e : strSliceIndices (some (a : Int)) (some (b : Int)) 1 x.length = strSliceIndices (some ((min a x.length : Nat) : Int)) (some ((min b x.length : Nat) : Int)) 1 x.length := by
    have h1 : ¬ ((a : Int) < 0) := by omega
    have h2 : ¬ ((b : Int) < 0) := by omega
    have h3 : ¬ (((min a x.length : Nat) : Int) < 0) := by omega
    have h4 : ¬ (((min b x.length : Nat) : Int) < 0) := by omega
    have e1 : max (0 : Int) (min (a : Int) (x.length : Int)) = max (0 : Int) (min ((min a x.length : Nat) : Int) (x.length : Int)) := by omega
    have e2 : max (0 : Int) (min (b : Int) (x.length : Int)) = max (0 : Int) (min ((min b x.length : Nat) : Int) (x.length : Int)) := by omega
    simp only [strSliceIndices, h1, h2, h3, h4, if_false, show ((1 : Int) > 0) = True from by simp, if_true, e1, e2]
  unfold Txt.slice
  rw [e]
theorem slice_chars (x : Str) (a b : Nat) (h : a ≤ b) : chars (Txt.slice x (some (a : Int)) (some (b : Int))) = ((chars x).drop a).take (b - a) := by
  rw [slice_clip]
  have := sliceText_nat x (a := min a x.length) (b := min b x.length) (by omega) (by omega)
  have e : Txt.slice x (some ((min a x.length : Nat) : Int)) (some ((min b x.length : Nat) : Int)) = ⟨((x.cps.toList.drop (min a x.length)).take (min b x.length - min a x.length)).toArray⟩ := this
  rw [e]
  show ((chars x).drop (min a x.length)).take (min b x.length - min a x.length) = _
  have hl := chars_length x
  by_cases ha : a ≤ x.length
  · rw [Nat.min_eq_left ha]
    by_cases hb : b ≤ x.length
    · rw [Nat.min_eq_left hb]
    · rw [List.take_of_length_le (by rw [List.length_drop]; omega), List.take_of_length_le (by rw [List.length_drop]; omega)]
  · rw [List.drop_of_length_le (by omega), List.drop_of_length_le (by omega)]; simp
theorem slice_chars_to (x : Str) (b : Nat) : chars (Txt.slice x none (some (b : Int))) = (chars x).take b := by
  have e : Txt.slice x none (some (b : Int)) = Txt.slice x (some ((0 : Nat) : Int)) (some (b : Int)) := by
    unfold Txt.slice; rw [sliceIdx_none_lo]; rfl
  rw [e, slice_chars x 0 b (Nat.zero_le _)]; simp
theorem slice_chars_from (x : Str) (a : Nat) : chars (Txt.slice x (some (a : Int)) none) = (chars x).drop a := by
  have e : Txt.slice x (some (a : Int)) none = Txt.slice x (some (a : Int)) (some (x.length : Int)) := by
    unfold Txt.slice; rw [sliceIdx_none_hi]
  rw [e]
  by_cases h : a ≤ x.length
  · rw [slice_chars x a x.length h, List.take_of_length_le (by rw [List.length_drop, chars_length]; omega)]
  · rw [slice_clip, Nat.min_eq_right (by omega), Nat.min_self, slice_chars x _ _ (Nat.le_refl _), List.drop_of_length_le (by rw [chars_length]; exact Nat.le_refl _), List.drop_of_length_le (by rw [chars_length]; omega)]; simp
/-! the signs of a pattern; the tokens one by one -/
def Sg (l : List Nat) : Prop := ∀ c ∈ l, c = 44 ∨ c = 46 ∨ c = 59
def In4 (l : List Nat) : Prop := l = [44] ∨ l = [46] ∨ l = [59] ∨ l = [46, 46, 46]
theorem tok_step {r : List Nat} {n : Nat} (hne : r ≠ []) (hs : Sg r) (h1 : 1 ≤ n) (h3 : n ≤ 3) (hin : In4 (r.take n)) (hno : ∀ k, n < k → k ≤ 3 → ¬ In4 (r.take k)) :
    ∃ tk, toks r = tk :: toks (r.drop n) ∧ tk.txt = r.take n := by
  have one : ∀ c, (c = 44 ∨ c = 46 ∨ c = 59) → In4 [c] := by
    rintro c (rfl | rfl | rfl)
    · exact .inl rfl
    · exact .inr (.inl rfl)
    · exact .inr (.inr (.inl rfl))
  match r, hne, hs, hin, hno with
  | [a], _, hs, hin, hno =>
    have ha := one a (hs a (.head _))
    have hn : n = 3 := by
      apply Nat.le_antisymm h3
      apply Nat.le_of_not_lt
      intro hlt
      exact hno 3 hlt (Nat.le_refl _) ha
    subst hn
    exact ⟨.lit a, by rw [toks_lit (by simp [dots])]; rfl, rfl⟩
  | [a, b], _, hs, hin, hno =>
    have : n = 1 := by
      have hx : n = 1 ∨ n = 2 ∨ n = 3 := by omega
      rcases hx with h | h | h
      · exact h
      · subst h; simp [In4] at hin
      · subst h; simp [In4] at hin
    subst this
    exact ⟨.lit a, by rw [toks_lit (by simp [dots])]; rfl, rfl⟩
  | a :: b :: c :: r, _, hs, hin, hno =>
    have hx : n = 1 ∨ n = 2 ∨ n = 3 := by omega
    rcases hx with h | h | h
    · subst h
      refine ⟨.lit a, ?_, rfl⟩
      rw [toks_lit]
      · rfl
      · cases hd : dots (a :: b :: c :: r) with
        | false => rfl
        | true => exact absurd (.inr (.inr (.inr (beq_iff_eq.mp hd)))) (hno 3 (by decide) (Nat.le_refl _))
    · subst h; simp [In4] at hin
    · subst h
      simp [In4] at hin
      obtain ⟨rfl, rfl, rfl⟩ := hin
      exact ⟨.gap, toks_dots r, rfl⟩
theorem in4_take {r : List Nat} (hne : r ≠ []) (hs : Sg r) : In4 (r.take 1) := by
  cases r with
  | nil => exact absurd rfl hne
  | cons a r =>
    rcases hs a (.head _) with rfl | rfl | rfl
    · exact .inl rfl
    · exact .inr (.inl rfl)
    · exact .inr (.inr (.inl rfl))
def ngaps : List Tk → Nat
  | [] => 0
  | .lit _ :: ts => ngaps ts
  | .gap :: ts => ngaps ts + 1
theorem ngaps_append (a b : List Tk) : ngaps (a ++ b) = ngaps a + ngaps b := by
  induction a with
  | nil => simp [ngaps]
  | cons t a ih => cases t <;> simp only [List.cons_append, ngaps, ih] <;> omega
theorem ngaps_le (ts : List Tk) : 3 * ngaps ts ≤ (ts.flatMap Tk.txt).length := by
  induction ts with
  | nil => simp [ngaps]
  | cons t ts ih =>
    rw [List.flatMap_cons, List.length_append]
    cases t <;> simp only [ngaps, Tk.txt, List.length_cons, List.length_nil] <;> omega
theorem ngaps_toks (u : List Nat) : 3 * ngaps (toks u) ≤ u.length := by
  have := ngaps_le (toks u)
  rwa [toks_txt] at this
theorem Mt.snoc_lit {ts : List Tk} {c : Nat} : ∀ {t : List Nat}, Mt ts t → Mt (ts ++ [.lit c]) (t ++ [c]) := by
  induction ts with
  | nil => intro t h; have : t = [] := h; subst this; exact ⟨[], rfl, rfl⟩
  | cons a ts ih =>
    cases a with
    | lit d => rintro t ⟨r, rfl, h⟩; exact ⟨r ++ [c], rfl, ih h⟩
    | gap => rintro t ⟨g, r, rfl, h⟩; exact ⟨g, r ++ [c], by simp, ih h⟩
theorem Mt.snoc_gap {ts : List Tk} (q : List Nat) : ∀ {t : List Nat}, Mt ts t → Mt (ts ++ [.gap]) (t ++ q) := by
  induction ts with
  | nil => intro t h; have : t = [] := h; subst this; exact ⟨q, [], by simp, rfl⟩
  | cons a ts ih =>
    cases a with
    | lit d => rintro t ⟨r, rfl, h⟩; exact ⟨r ++ q, rfl, ih h⟩
    | gap => rintro t ⟨g, r, rfl, h⟩; exact ⟨g, r ++ q, by simp, ih h⟩
end Mine
namespace Mine
section
variable {M : Model} {A : Around} {R : GenEnd} {Y : Protocol} {n : Nat} {s₀ : Shared} {c : Code} {fs : List Frame} {s : Shared} {env : Env}
  {K : Flow → Sem Fin} {H : Value → Sem Fin} {gd : Bool → Bool} {lv : List Value → List Value}
/-- the frame that a call leaves below the called code -/
def callFrame : Sem Fin → Code → Pos → Frame
  | .call _ h g l k, c, p => .ret k h g l c p []
  | _, c, p => .ret (fun _ => .raise .none) none false [] c p []
/-- a frame that waits below a for or a while of a generator -/
def ownFrame (c' : Code) (K : Flow → Sem Fin) (H : Value → Sem Fin) (gd : Bool → Bool) (lv : List Value → List Value) (env : Env) (c : Code) (p : Pos) : Frame :=
  callFrame ((runOwn c' env).wrap K H gd lv) c p
theorem seg_For {target iter : Expr} {body orelse : List Stmt} {pos : Pos}
    (h : wpAny M (A.over c fs) (eval iter env) (fun x s₁ => wpAny M (A.over c fs) (pyIter x) (fun it s₂ =>
      Halt (∀ p, Seg M A R Y n s₀ (.forLoop target it body orelse env) (M.den (.forLoop target it body orelse env)) (ownFrame (.forLoop target it body orelse env) K H gd lv env c p :: fs) s₂)) (fun _ _ => False) s₁) (fun _ _ => False) s)
    (hs : ∀ x, foldedSetIterable iter env x = pure x := by intro _; rfl) :
    Seg M A R Y n s₀ c ((exec (.For target iter body orelse pos) env).wrap K H gd lv) fs s := by
  rw [exec_For]
  have e : ∀ x, foldedSetIterable iter env x = pure x := hs
  simp only [e]
  show Seg M A R Y n s₀ c (.at pos fun _ => (eval iter env >>= fun x => standAt iter.pos >>= fun _ => holding [x] (pyIter x) >>= fun it => runOwn (.forLoop target it body orelse env) env).wrap K H gd lv) fs s
  refine seg_at ?_
  rw [Sem.bind_eq_wrap', Sem.wrap_wrap]
  refine seg_wrap (wpAny_mono h (fun x s₁ h₁ => ?_) fun _ _ x => x.elim)
  show Seg M A R Y n s₀ c (.at iter.pos fun _ => (holding [x] (pyIter x) >>= fun it => runOwn (.forLoop target it body orelse env) env).wrap K H gd lv) fs s₁
  refine seg_at ?_
  rw [Sem.bind_eq_wrap', Sem.wrap_wrap]
  refine seg_wrap (wpAny_holding (wpAny_mono h₁ (fun it s₂ h₂ => ?_) fun _ _ x => x.elim))
  exact seg_call h₂
theorem seg_While' {test : Expr} {body orelse : List Stmt} {pos : Pos}
    (h : ∀ p, Seg M A R Y n s₀ (.whileLoop test body orelse env) (M.den (.whileLoop test body orelse env)) (ownFrame (.whileLoop test body orelse env) K H gd lv env c p :: fs) s) :
    Seg M A R Y n s₀ c ((exec (.While test body orelse pos) env).wrap K H gd lv) fs s := seg_While h
theorem seg_If {test : Expr} {body orelse : List Stmt} {pos : Pos}
    (h : wpAny M (A.over c fs) (isTrue test env (eval test env)) (fun b s' => Halt (b = true ∧ Seg M A R Y n s₀ c ((execs body env).wrap K H gd lv) fs s')) (fun _ _ => False) s) :
    Seg M A R Y n s₀ c ((exec (.If test body orelse pos) env).wrap K H gd lv) fs s := by
  rw [exec_If]
  show Seg M A R Y n s₀ c (.at pos fun _ => (isTrue test env (eval test env) >>= fun b => if b = true then execs body env else execs orelse env).wrap K H gd lv) fs s
  refine seg_at ?_
  rw [Sem.bind_eq_wrap', Sem.wrap_wrap]
  refine seg_wrap (wpAny_mono h (fun b s₁ h₁ => ?_) fun _ _ x => x.elim)
  obtain ⟨rfl, h₁⟩ := h₁
  exact h₁
/-- a statement that holds no yield, by its own rule; it goes on to the next one -/
theorem seg_step {st : Stmt} {rest : List Stmt}
    (h : wpAny M (A.over c fs) (exec st env) (fun f s' => Halt (f = .next ∧ Seg M A R Y n s₀ c ((execs rest env).wrap K H gd lv) fs s')) (fun _ _ => False) s) :
    Seg M A R Y n s₀ c ((execs (st :: rest) env).wrap K H gd lv) fs s := by
  refine seg_execs_cons (seg_wrap (wpAny_mono h (fun f s' h' => ?_) fun _ _ x => x.elim))
  obtain ⟨rfl, h'⟩ := h'
  exact h'
theorem seg_tail {st : Stmt} 
    (h : Seg M A R Y n s₀ c ((exec st env).wrap (fun f => match f with | .next => (execs [] env).wrap K H gd lv | f => K f) H gd lv) fs s) :
    Seg M A R Y n s₀ c ((execs [st] env).wrap K H gd lv) fs s := seg_execs_cons h
theorem seg_yields {e : Expr} {ypos pos : Pos} {rest : List Stmt} (hfs : splitAtGen fs = none) (hgd : gd false = false) (hfg : fs.any Frame.guarded = false)
    (h : wpAny M (A.over c fs) (eval e env) (fun v s' => Halt (∀ kap : Resume → Shared → Prop,
        (∀ s'', Seg M A R Y n s'' c ((execs rest env).wrap K H gd lv) fs s'' → kap (.send .none) s'') → Y n s₀ v s' kap))
      (fun x s' => False) s) (hco : env.scope.isCoroutine = false := by rfl) (hi : interactive env = false := by rfl) :
    Seg M A R Y (n + 1) s₀ c ((execs (.Expr (.Yield (some e) ypos) pos :: rest) env).wrap K H gd lv) fs s := by
  refine seg_execs_cons (seg_Expr_Yield hfs hgd hfg (wpAny_mono h (fun v s' h' => ?_) fun _ _ x => x.elim) hco hi)
  intro kap hk
  exact h' kap fun s'' hs => hk .none s'' hs
end
section
variable {prog : Program} {w : World} {A : Around} {R : GenEnd} {Y : Protocol} {n : Nat} {s₀ : Shared} {fs : List Frame} {s : Shared} {env : Env}
def forK (target : Expr) (it : Value) (body orelse : List Stmt) (env : Env) (f : Flow) : Sem Fin := match f with
  | .next | .cont => .pure (.again (.forLoop target it body orelse env))
  | .brk => .pure (.done .next)
  | .ret v => .pure (.done (.ret v))
def notedH (env : Env) (e : Value) : Sem Fin := (do noteFrame e env; theTreesLotGoes e : Sem Unit).wrap (fun _ => .raise e) .raise id id
theorem seg_forLoop {target : Expr} {it : Value} {body orelse : List Stmt}
    (h : wpAny (model prog w) (A.over (.forLoop target it body orelse env) fs) (pyNext it) (fun r s₁ => ∃ v, r = some v ∧
        wpAny (model prog w) (A.over (.forLoop target it body orelse env) fs) (assign target env v) (fun _ s₂ =>
          Halt (Seg (model prog w) A R Y n s₀ (.forLoop target it body orelse env) ((execs body env).wrap (forK target it body orelse env) (notedH env) id id) fs s₂)) (fun _ _ => False) s₁) (fun _ _ => False) s)
    (ht : ∀ v, letOwnedTupleGo target it v = pure () := by intro _; rfl) :
    Seg (model prog w) A R Y n s₀ (.forLoop target it body orelse env) ((model prog w).den (.forLoop target it body orelse env)) fs s := by
  show Seg _ A R Y n s₀ _ ((forTurn target it body orelse env).onRaise (fun x => do noteFrame x env; theTreesLotGoes x)) fs s
  unfold forTurn
  rw [Sem.onRaise_eq_wrap]
  show Seg _ A R Y n s₀ _ (.at target.pos fun _ => Sem.wrap _ _ _ _ ((pyNext it).onRaise (fun _ => standAt { target.pos with line := 0 }) >>= _)) fs s
  refine seg_at ?_
  rw [Sem.bind_eq_wrap', Sem.onRaise_eq_wrap, Sem.wrap_wrap, Sem.wrap_wrap]
  refine seg_wrap (wpAny_mono h (fun r s₁ h₁ => ?_) fun _ _ x => x.elim)
  obtain ⟨v, rfl, h₁⟩ := h₁
  show Seg _ A R Y n s₀ _ (Sem.wrap _ _ _ _ (letOwnedTupleGo target it v >>= fun _ => assign target env v >>= fun _ => execs body env >>= _)) fs s₁
  rw [ht v]
  show Seg _ A R Y n s₀ _ (Sem.wrap _ _ _ _ (assign target env v >>= fun _ => execs body env >>= _)) fs s₁
  rw [Sem.bind_eq_wrap', Sem.wrap_wrap]
  refine seg_wrap (wpAny_mono h₁ (fun _ s₂ h₂ => ?_) fun _ _ x => x.elim)
  show Seg _ A R Y n s₀ _ (Sem.wrap _ _ _ _ (execs body env >>= _)) fs s₂
  rw [Sem.bind_eq_wrap', Sem.wrap_wrap]
  rw [Sem.wrap_congr (execs body env) _ _ (K' := forK target it body orelse env) (H' := notedH env) (fun f => by cases f <;> rfl)
    (fun e => by first | exact Sem.bind_eq_wrap _ _ | (show (do noteFrame e env; theTreesLotGoes e : Sem Unit).bind (fun _ => .raise e) = _; rw [Sem.bind_eq_wrap]; rfl))]
  exact h₂
theorem seg_for_ind {target : Expr} {it : Value} {body orelse : List Stmt} (J : Nat → Shared → Shared → Prop)
    (turn : ∀ n s₀ s, J n s₀ s → (∀ n' s₀' s', n' < n → J n' s₀' s' → Seg (model prog w) A R Y n' s₀' (.forLoop target it body orelse env) (.pure (.again (.forLoop target it body orelse env))) fs s') →
      wpAny (model prog w) (A.over (.forLoop target it body orelse env) fs) (pyNext it) (fun r s₁ => ∃ v, r = some v ∧
        wpAny (model prog w) (A.over (.forLoop target it body orelse env) fs) (assign target env v) (fun _ s₂ =>
          Halt (Seg (model prog w) A R Y n s₀ (.forLoop target it body orelse env) ((execs body env).wrap (forK target it body orelse env) (notedH env) id id) fs s₂)) (fun _ _ => False) s₁) (fun _ _ => False) s)
    (hq : (Code.forLoop target it body orelse env).quiet = true := by rfl) (ht : ∀ v, letOwnedTupleGo target it v = pure () := by intro _; rfl) : ∀ n s₀ s, J n s₀ s →
    Seg (model prog w) A R Y n s₀ (.forLoop target it body orelse env) ((model prog w).den (.forLoop target it body orelse env)) fs s := by
  intro n
  induction n using Nat.strongRecOn with
  | _ n ih =>
    intro s₀ s hJ
    refine seg_forLoop (turn n s₀ s hJ fun n' s₀' s' hn hJ' => seg_again hq (ih n' hn s₀' s' hJ')) ht
def whileK (test : Expr) (body orelse : List Stmt) (env : Env) (f : Flow) : Sem Fin := match f with
  | .next | .cont => .pure (.again (.whileLoop test body orelse env))
  | .brk => .pure (.done .next)
  | .ret v => .pure (.done (.ret v))
theorem seg_while_ind {test : Expr} {body orelse : List Stmt} (J : Nat → Shared → Shared → Prop)
    (turn : ∀ n s₀ s, J n s₀ s → (∀ n' s₀' s', n' < n → J n' s₀' s' → Seg (model prog w) A R Y n' s₀' (.whileLoop test body orelse env) (.pure (.again (.whileLoop test body orelse env))) fs s') →
      wpAny (model prog w) (A.over (.whileLoop test body orelse env) fs) (isTrue test env (eval test env)) (fun b s' => Halt (b = true ∧
          Seg (model prog w) A R Y n s₀ (.whileLoop test body orelse env) ((execs body env).wrap (whileK test body orelse env) (notedH env) id id) fs s')) (fun _ _ => False) s)
    (hq : (Code.whileLoop test body orelse env).quiet = true := by rfl) : ∀ n s₀ s, J n s₀ s →
    Seg (model prog w) A R Y n s₀ (.whileLoop test body orelse env) ((model prog w).den (.whileLoop test body orelse env)) fs s := by
  intro n
  induction n using Nat.strongRecOn with
  | _ n ih =>
    intro s₀ s hJ
    refine seg_whileLoop (wpAny_mono (turn n s₀ s hJ fun n' s₀' s' hn hJ' => seg_again hq (ih n' hn s₀' s' hJ')) (fun b s' h => ?_) fun _ _ x => x.elim)
    obtain ⟨rfl, h⟩ := h
    rw [if_pos rfl]
    refine Eq.mp (congrArg (fun t => Seg (model prog w) A R Y n s₀ (.whileLoop test body orelse env) t fs s') (Sem.wrap_congr (K := whileK test body orelse env) (H := notedH env) (execs body env) id id ?_ ?_)) h
    · intro f; cases f <;> rfl
    · intro _; rfl
end
/-- the heap's first part -/
def pre (h : Heap) (n : Nat) : Heap := ⟨h.objs.extract 0 n, h.life⟩
theorem pre_get {h : Heap} {n b : Nat} (hb : b < n) : (pre h n).get? b = h.get? b := by
  unfold Heap.get? pre
  have e : (h.objs.extract 0 n)[b]? = h.objs[b]? := by
    simp only [Array.getElem?_extract]
    split
    · simp
    · rename_i h1
      rw [eq_comm, Array.getElem?_eq_none_iff]
      omega
  simp only [e]
theorem pre_size {h : Heap} {n : Nat} : (pre h n).objs.size ≤ n := by
  unfold pre
  simp only [Array.size_extract]
  omega
theorem pre_none {h : Heap} {n b : Nat} (hb : n ≤ b) : (pre h n).get? b = none := by
  cases e : (pre h n).get? b with
  | none => rfl
  | some o => exact absurd (Nat.lt_of_lt_of_le (Heap.lt_size e) pre_size) (by omega)
theorem pre_some {h : Heap} {n b : Nat} {o : Obj} (e : (pre h n).get? b = some o) : b < n ∧ h.get? b = some o := by
  have hb : b < n := Nat.lt_of_lt_of_le (Heap.lt_size e) pre_size
  exact ⟨hb, by rw [← pre_get hb]; exact e⟩
theorem pre_keeps {h₀ h : Heap} {n : Nat} (hs : h₀.objs.size ≤ n) (hk : ∀ b o, h₀.get? b = some o → h.get? b = some o) : ∀ b o, h₀.get? b = some o → (pre h n).get? b = some o := by
  intro b o e
  rw [pre_get (Nat.lt_of_lt_of_le (Heap.lt_size e) hs)]
  exact hk b o e

section
variable {prog : Program} {w : World} {A : Around} {E : Value → Shared → Prop} {s : Shared}
theorem pyNext_tell {a : Addr} {g n : Nat} {gs : GenState} {Y : Protocol} {Q : Option Value → Shared → Prop}
    (hl : s.heap.NoLimit) (hroom : A.depth < recursionLimit)
    (hg : s.heap.IsGen a g) (hgs : s.gens[g]? = some gs)
    (hgo : gs.Goes (model prog w) A.in1 (fun _ _ _ _ => False) Y (n + 1) (.send .none) (s.setGen g .running))
    (hY : ∀ v s₁ gs', gs'.bare = true → Y n (s.setGen g .running) v s₁ (fun r' s'' => gs'.Goes (model prog w) A.in1 (fun _ _ _ _ => False) Y n r' s'') → Q (some v) (s₁.setGen g gs')) :
    wpAny (model prog w) A (pyNext (.ref a)) Q E s := by
  unfold pyNext
  refine wpAny_bind (wpAny_attempt (wpAny_callSpecial?_slot (name := Str.ofString "__next__") hg.typeIs slot_gen_next
    (wpAny_call_entry slot_gen_next hg.typeIs entry_gen_next ?_ (args_gen_next _))))
  show wpAny _ A.in1 (Builtin.Generator.genWake (.ref a) (.send .none)) _ _ s
  unfold Builtin.Generator.genWake
  refine wpAny_bind (wpAny_holding (wpAny_genNumber hg (wpAny_bind (wpAny_genState hgs ?_))))
  cases gs with
  | running => exact hgo.elim
  | finished => exact hgo.elim
  | _ =>
    refine wpAny_bind (wpAny_roomToWake hl hroom ?_)
    show wpAny _ A.in1 (.resume g (.send .none) [] _) _ _ s
    refine wpAny_resumeQ hgs hgo (fun x s₁ hx => hx.elim) (fun v s₁ gs' hb hv => ?_)
    exact wpAny_pure ⟨v, rfl, wpAny_pure (hY v s₁ gs' hb hv)⟩
end
/-- what a generator tells that runs on for ever: its frame's dict stands at Lg, itself at Lg + 1 -/
def TellY (h₀ : Heap) (D : Addr) (oD : Obj) (Lg : Addr) (oa : Obj) (item : Nat → Int) (T : Nat) : Protocol := fun n s₀ v s' kap =>
  ∃ t h' tk It oL oI, v = .int (item (T - 1 - n)) t ∧ s' = { s₀ with heap := h', toks := tk } ∧ h'.get? Lg = some oL ∧ h'.get? It = some oI ∧ Lg + 2 ≤ It ∧ h'.get? (Lg + 1) = some oa ∧
    (∀ b o, b < Lg → s₀.heap.get? b = some o → h'.get? b = some o) ∧
    (∀ s'', (∀ b o, h₀.get? b = some o → s''.heap.get? b = some o) → s''.heap.get? D = some oD → (∀ p ∈ [(Lg, oL), (It, oI), (Lg + 1, oa)], s''.heap.get? p.1 = some p.2) → 0 < n → kap (.send .none) s'')
section
variable {prog : Program} {w : World} {A : Around} {s : Shared} {env : Env} {h₀ : Heap}
theorem codeAny_forLoop_gen {E : Value → Shared → Prop} {Q : Flow → Shared → Prop} {x : Str} {px : Pos} {body : List Stmt} {g Lg D : Addr} {oD oa : Obj} {gs : GenState} {item : Nat → Int} {m : Str → Option Value} {news keep : List (Addr × Obj)} {k₀ : Nat}
    (hx : env.kindOf x = some .local) (hp : (env.scope.kind == .class || (env.scope.kind == .module && env.locals != env.globals)) = false)
    (hE : PassesOwn (model prog w) A env E)
    (F : Fr h₀ env.locals s.heap m) (N : News h₀ env.locals s.heap news) (hD : (D, oD) ∈ news) (Nk : News h₀ env.locals s.heap keep) (hoff : OwnOff keep (news.map (·.1)))
    (hlt : ∀ p ∈ news, p.1 < Lg) (hL : env.locals < Lg) (hka : (Lg + 1, oa) ∈ keep) (hoa : ∃ nm qn, oa.cls = .type "generator" ∧ oa.data = .fields #[.int g 0, nm, qn] ∧ oa.slots = #[])
    (hgs : s.gens[g]? = some gs) (hb : AllBare s.gens) (hroom : A.depth < recursionLimit) (hlim : h₀.NoLimit)
    (hgo : ∀ s'' : Shared, (∀ b o, h₀.get? b = some o → s''.heap.get? b = some o) → s''.heap.get? D = some oD → (∀ p ∈ keep, s''.heap.get? p.1 = some p.2) →
      gs.Goes (model prog w) A.in1 (fun _ _ _ _ => False) (TellY h₀ D oD Lg oa item (k₀ + 1)) (k₀ + 1) (.send .none) s'')
    (J : Nat → Nat → (Str → Option Value) → Prop) (h0 : J k₀ 0 m)
    (turn : ∀ k i m₁ h tk gens t own, J k i m₁ → AllBare gens → OwnOff own (news.map (·.1)) → Fr h₀ env.locals h (fun y => if y = x then some (.int (item i) t) else m₁ y) → News h₀ env.locals h (news ++ own) →
      wpAny (model prog w) A (execs body env) (InvPostN h₀ env.locals (fun m' nx => nx = news ∧ ∃ k', k' < k ∧ J k' (i + 1) m') own (news.map (·.1)) { s with heap := h, toks := tk, gens := gens } Q) E { s with heap := h, toks := tk, gens := gens }) :
    codeAny (model prog w) A (.forLoop (.Name x px) (.ref (Lg + 1)) body [] env) (fun r s' => match r with | .ok f => Q f s' | .error e => cameBackBy (model prog w) A env E e s') s := by
  refine codeAny_forLoop
    (fun k s' => ∃ i h' tk gens m' kp gs', s' = { s with heap := h', toks := tk, gens := gens } ∧ Fr h₀ env.locals h' m' ∧ News h₀ env.locals h' news ∧ News h₀ env.locals h' kp ∧ OwnOff kp (news.map (·.1)) ∧ (Lg + 1, oa) ∈ kp ∧
      gens[g]? = some gs' ∧ AllBare gens ∧ (∀ s'' : Shared, (∀ b o, h₀.get? b = some o → s''.heap.get? b = some o) → s''.heap.get? D = some oD → (∀ p ∈ kp, s''.heap.get? p.1 = some p.2) →
      gs'.Goes (model prog w) A.in1 (fun _ _ _ _ => False) (TellY h₀ D oD Lg oa item (k₀ + 1)) (k₀ + 1 - i) (.send .none) s'') ∧ J k i m' ∧ i + k ≤ k₀) ?_ k₀
    ⟨0, s.heap, s.toks, s.gens, m, keep, gs, rfl, F, N, Nk, hoff, hka, hgs, hb, hgo, h0, by omega⟩
  rintro k s' ⟨i, h', tk, gens, m', kp, gs', rfl, F', N', Nk', hoff', hka', hgs', hb', hgo', hJ, hik⟩
  have hsz : h₀.objs.size ≤ env.locals := F'.above
  obtain ⟨n, hn⟩ : ∃ n, k₀ + 1 - i = n + 1 := ⟨k₀ - i, by omega⟩
  rw [hn] at hgo'
  have hg : h'.IsGen (Lg + 1) g := by
    obtain ⟨nm, qn, hc, hd, hsl⟩ := hoa
    exact ⟨oa, nm, qn, (Nk' _ hka').1, hc, hd, hsl⟩
  refine pyNext_tell (n := n) (hlim.keeps F'.keep) hroom hg hgs' (hgo' _ F'.keep (N' _ hD).1 fun p hp => (Nk' p hp).1) ?_
  rintro v s₁ gs₁ hbare ⟨t, h₁, tk₁, It, oL, oI, rfl, rfl, hoL, hoI, hIt, hoa₁, hkeep, hnext⟩
  have hitem : k₀ + 1 - 1 - n = i := by omega
  rw [hitem]
  have keep₁ : ∀ b o, b < Lg → h'.get? b = some o → h₁.get? b = some o := hkeep
  have F₁ : Fr h₀ env.locals h₁ m' := ⟨F'.ns.at' fun o e => keep₁ _ o hL e, fun b o e => keep₁ b o (Nat.lt_trans (Nat.lt_of_lt_of_le (Heap.lt_size e) hsz) hL) (F'.keep b o e), F'.above⟩
  have N₁ : News h₀ env.locals h₁ news := fun p hp => ⟨keep₁ _ _ (hlt p hp) (N' p hp).1, (N' p hp).2⟩
  have hno : ∀ b, Lg ≤ b → h₀.get? b = none := fun b hb => by
    cases e : h₀.get? b with
    | none => rfl
    | some o => exact absurd (Nat.lt_trans (Nat.lt_of_lt_of_le (Heap.lt_size e) hsz) hL) (Nat.not_lt.mpr hb)
  have hItL : Lg ≤ It := Nat.le_trans (Nat.le_add_right Lg 2) hIt
  have Nk₁ : News h₀ env.locals h₁ [(Lg, oL), (It, oI), (Lg + 1, oa)] := by
    intro p hp
    simp only [List.mem_cons, List.not_mem_nil, or_false] at hp
    rcases hp with rfl | rfl | rfl
    · exact ⟨hoL, fun e => absurd hL (by rw [← e]; exact Nat.lt_irrefl _), hno _ (Nat.le_refl _)⟩
    · exact ⟨hoI, fun e => absurd hL (by rw [← e]; exact Nat.not_lt.mpr hItL), hno _ hItL⟩
    · exact ⟨hoa₁, fun e => absurd hL (by rw [← e]; exact Nat.not_lt.mpr (Nat.le_succ _)), hno _ (Nat.le_succ _)⟩
  have hoff₁ : OwnOff [(Lg, oL), (It, oI), (Lg + 1, oa)] (news.map (·.1)) := by
    intro p hp b hb
    obtain ⟨q, hq, rfl⟩ := List.mem_map.mp hb
    have := hlt q hq
    simp only [List.mem_cons, List.not_mem_nil, or_false] at hp
    rcases hp with rfl | rfl | rfl
    · exact fun e => absurd this (by rw [← e]; exact Nat.lt_irrefl _)
    · exact fun e => absurd this (by rw [← e]; exact Nat.not_lt.mpr hItL)
    · exact fun e => absurd this (by rw [← e]; exact Nat.not_lt.mpr (Nat.le_succ _))
  have hself : (gens.setIfInBounds g .running)[g]? = some .running := setGen_self (s := { s with heap := h', toks := tk, gens := gens }) (x := .running) hgs'
  have hself₂ : ((gens.setIfInBounds g .running).setIfInBounds g gs₁)[g]? = some gs₁ := setGen_self (s := { s with heap := h', toks := tk, gens := gens.setIfInBounds g .running }) (x := gs₁) hself
  have hb₁ : AllBare ((gens.setIfInBounds g .running).setIfInBounds g gs₁) := by
    refine GenOnlyQ.bare (g := g) (a := gens) (.of ?_ hself₂ hbare) hb'
    exact (GenOnly.setGen { s with heap := h', toks := tk, gens := gens } g .running).trans (GenOnly.setGen { s with heap := h', toks := tk, gens := gens.setIfInBounds g .running } g gs₁)
  refine wpAny_assign_Name (wpAny_storeName_local hx F₁.ns (fun h₂ hn₂ hs₂ => ?_) hp)
  have F₂ := F₁.set hn₂ hs₂
  refine wpAny_mono (wpAny_passesOwn hE (turn k i m' h₂ _ _ t _ hJ hb₁ hoff₁ F₂ ((N₁.append Nk₁).set hs₂))) (fun f s₃ h₃ => ?_) fun _ _ e => e
  have fin : InvEndN h₀ env.locals (fun m' nx => nx = news ∧ ∃ k', k' < k ∧ J k' (i + 1) m') [(Lg, oL), (It, oI), (Lg + 1, oa)] (news.map (·.1)) { s with heap := h₂, toks := tk₁ + 1, gens := (gens.setIfInBounds g .running).setIfInBounds g gs₁ } s₃ →
      ∃ k', k' < k ∧ ∃ i h' tk gens m' kp gs', s₃ = { s with heap := h', toks := tk, gens := gens } ∧ Fr h₀ env.locals h' m' ∧ News h₀ env.locals h' news ∧ News h₀ env.locals h' kp ∧ OwnOff kp (news.map (·.1)) ∧ (Lg + 1, oa) ∈ kp ∧
      gens[g]? = some gs' ∧ AllBare gens ∧ (∀ s'' : Shared, (∀ b o, h₀.get? b = some o → s''.heap.get? b = some o) → s''.heap.get? D = some oD → (∀ p ∈ kp, s''.heap.get? p.1 = some p.2) →
      gs'.Goes (model prog w) A.in1 (fun _ _ _ _ => False) (TellY h₀ D oD Lg oa item (k₀ + 1)) (k₀ + 1 - i) (.send .none) s'') ∧ J k' i m' ∧ i + k' ≤ k₀ := by
    rintro ⟨h₃', tk₃, m₃, news₃, nx, rfl, F₃, N₃, hn₃, ho₃, ha₃, rfl, k', hk', hJ'⟩
    refine ⟨k', hk', i + 1, h₃', tk₃, _, m₃, _, gs₁, rfl, F₃, fun p hp => N₃ p (hn₃ p hp), fun p hp => N₃ p (ho₃ p hp), hoff₁, by simp, hself₂, hb₁, ?_, hJ', by omega⟩
    intro s'' c1 c2 c3
    have e : k₀ + 1 - (i + 1) = n := by omega
    rw [e]
    exact hnext s'' c1 c2 c3 (by omega)
  cases f with
  | ret v => exact h₃
  | brk => exact h₃
  | next => exact fin h₃
  | cont => exact fin h₃
end

section
variable {prog : Program} {w : World} {A : Around} {s : Shared} {K : Frag} {h₀ : Heap} {L : Addr} {m mg mb : Str → Option Value} {p : Program} {loose : List Str} {mean : ExcName → Option Value} {news : List (Addr × Obj)}
  {R : Result → Shared → Prop} {name qual : Str} {params : Arguments} {body : List Stmt} {scope : Scope} {dV kV doc pm cdv ct oc : Value} {an od : Option Addr} {osl : Array (Option Value)} {f : Addr} {args : Args} {binds : List (Str × Value)}
def genObj (g : Nat) (nm qn : Value) : Obj := { cls := .type "generator", data := .fields #[.int g 0, nm, qn] }
theorem code_gen (F : Fr h₀ L s.heap m) (X₀ : K.In h₀) (N : News h₀ L s.heap news) (T : Top p loose mean mg mb h₀)
    (ho : K.lookup f = some ⟨oc, od, .func (fnOf name qual params body scope dV kV doc pm an cdv ct), osl⟩) (hcd : codeIn K cdv qual = true) (hroom : A.depth < recursionLimit)
    (hbind : BindsTo s (fnOf name qual params body scope dV kV doc pm an cdv ct) args binds) (hloc : ∀ y ∈ binds, scope.names.lookup y.1 = some .local)
    (hcell : ∀ x ∈ scope.names, x.2 ≠ .cell) (hco : scope.isCoroutine = false) (hgen : scope.isGenerator = true) (hk : scope.kind = .function)
    (h : ∀ h' tk nm qn Lg, Lg = s.heap.objs.size → Fr h₀ L h' m → News h₀ L h' news → h'.Ns Lg (fun y => binds.reverse.lookup y) → h'.get? (Lg + 1) = some (genObj s.gens.size nm qn) →
      (∀ b o, s.heap.get? b = some o → h'.get? b = some o) →
      R (.ok (.ret (.ref (Lg + 1)))) { s with heap := h', toks := tk, gens := s.gens.push (.fresh (.func body (envOf qual scope Lg f cdv))) }) :
    codeAny (model prog w) A (.call (.ref f) args) R s := by
  refine codeAny_call_generator (fd := fnOf name qual params body scope dV kV doc pm an cdv ct) (body := body) hroom ((X₀.keeps F.keep) _ _ ho) rfl hco hgen rfl (codeRec_of (X₀.keeps F.keep) hcd) ?_
  refine hbind _ _ _ _ ?_
  refine wpAny_newFunctionEnv hcell hloc (fun h₁ hn hs => ?_) hk
  have hsz : h₁.objs.size = s.heap.objs.size + 1 := by rw [hs.1, Heap.size_push]
  have k1 : ∀ b o, s.heap.get? b = some o → h₁.get? b = some o := fun b o e => hs.extBut b o (Nat.ne_of_lt (Heap.lt_size e)) (Heap.get?_push_of_some _ e)
  refine ⟨(T.nolimit.keeps F.keep).keeps k1, ?_⟩
  have k2 : ∀ (ob : Obj) b o, s.heap.get? b = some o → (h₁.push ob).get? b = some o := fun ob b o e => Heap.get?_push_of_some _ (k1 b o e)
  show R (.ok (.ret (.ref h₁.objs.size))) { s with heap := _, toks := _, gens := _ }
  rw [hsz]
  refine h _ _ (.str name (s.toks + binds.length)) (.str qual (s.toks + binds.length + 1)) s.heap.objs.size rfl ?_ ?_ (hn.push _) ?_ (k2 _)
  · exact ⟨F.ns.at' fun o e => k2 _ _ _ e, fun b o e => k2 _ _ _ (F.keep b o e), F.above⟩
  · exact fun q hq => ⟨k2 _ _ _ (N q hq).1, (N q hq).2⟩
  · rw [← hsz]; exact Heap.get?_push_size _ rfl
end

section
variable {K : Frag} {p : Program} {loose : List Str} {mean : ExcName → Option Value} {mg mb : Str → Option Value}
theorem seg_start {h₀ h : Heap} {Lg : Addr} {m : Str → Option Value} {nx : List (Addr × Obj)} (X : K.In h₀) (T : Top p loose mean mg mb h₀) (hk : ∀ b o, h₀.get? b = some o → h.get? b = some o) (hs : h₀.objs.size ≤ Lg)
    (hn : h.Ns Lg m) (hnx : ∀ q ∈ nx, Lg < q.1 ∧ h.get? q.1 = some q.2) :
    Fr (pre h Lg) Lg h m ∧ News (pre h Lg) Lg h nx ∧ K.In (pre h Lg) ∧ Top p loose mean mg mb (pre h Lg) := by
  have k : ∀ b o, h₀.get? b = some o → (pre h Lg).get? b = some o := pre_keeps hs hk
  refine ⟨⟨hn, fun b o e => (pre_some e).2, pre_size⟩, fun q hq => ⟨(hnx q hq).2, fun e => ?_, pre_none (Nat.le_of_lt (hnx q hq).1)⟩, X.keeps k, T.keeps k⟩
  have := (hnx q hq).1
  rw [e] at this
  exact Nat.lt_irrefl _ this
theorem Ns_of_get {h h' : Heap} {a : Addr} {m : Str → Option Value} {o : Obj} (hn : h.Ns a m) (e : h.get? a = some o) (e' : h'.get? a = some o) : h'.Ns a m :=
  hn.at' fun o' h1 => by rw [e] at h1; rw [e', ← h1]
/-- a segment's end, as the protocol asks it -/
theorem tell_of {h₀ h' : Heap} {D Lg It : Addr} {oD oa oI : Obj} {item : Nat → Int} {T n : Nat} {tk : Nat} {t : Tok} {s₀ : Shared} {m' : Str → Option Value} {kap : Resume → Shared → Prop} {nx : List (Addr × Obj)} {z : Int}
    (F : Fr (pre s₀.heap Lg) Lg h' m') (N : News (pre s₀.heap Lg) Lg h' nx) (hI : (It, oI) ∈ nx) (ha : (Lg + 1, oa) ∈ nx) (hIt : Lg + 2 ≤ It) (hz : z = item (T - 1 - n))
    (next : ∀ s'' : Shared, (∀ b o, h₀.get? b = some o → s''.heap.get? b = some o) → s''.heap.get? D = some oD → s''.heap.Ns Lg m' → s''.heap.get? It = some oI → s''.heap.get? (Lg + 1) = some oa → 0 < n → kap (.send .none) s'') :
    TellY h₀ D oD Lg oa item T n s₀ (.int z t) { s₀ with heap := h', toks := tk } kap := by
  subst hz
  obtain ⟨oL, es, ep, hL, r⟩ := id F.ns
  refine ⟨t, h', tk, It, oL, oI, rfl, rfl, hL, (N _ hI).1, hIt, (N _ ha).1, fun b o hb e => F.keep b o ?_, ?_⟩
  · rw [pre_get hb]; exact e
  · intro s'' c1 c2 c3 c4
    exact next s'' c1 c2 (Ns_of_get F.ns hL (c3 _ (.head _))) (c3 _ (.tail _ (.head _))) (c3 _ (.tail _ (.tail _ (.head _)))) c4
end

section
variable {prog : Program} {w : World} {A : Around} {E : Value → Shared → Prop} {s : Shared}
theorem pyIter_list' {l : Addr} {items : Array Value} {Q : Value → Shared → Prop} (hl : s.heap.IsList l items)
    (hQ : ∀ It h' oI, It = s.heap.objs.size → oI.cls = .type "list_iterator" → oI.data = .fields #[.ref l, .int (0 : Nat) 0] → h'.get? It = some oI → (∀ b o, s.heap.get? b = some o → h'.get? b = some o) → Q (.ref It) { s with heap := h' }) :
    wpAny (model prog w) A (pyIter (.ref l)) Q E s :=
  wpAny_pyIter_list hl (hQ _ _ _ rfl rfl rfl (Heap.get?_push_size _ rfl) fun _ _ e => Heap.get?_push_of_some _ e)
end
end Mine
namespace Mine
theorem seq_list_iadd : seqSlot? (.type "list") (dunderI "add") = pure (some (.builtin "list.__iadd__")) := PySem.seqSlot_of F.slot_list_iadd.lookup (by decide +kernel)
theorem noFillI_list_add : fillsInplaceSlot (.type "list") "add" (Operator.Add == .Add) = pure false := by
  unfold fillsInplaceSlot
  show (typeLookup (.type "list") (dunderI "add") >>= fun fi => pure (fi.isSome && !isSeqSlot fi)) = pure false
  rw [F.slot_list_iadd.lookup]
  show (pure _ : Sem Bool) = pure false
  congr 1
section
variable {prog : Program} {w : World} {A : Around} {E : Value → Shared → Prop} {s : Shared} {h₀ : Heap} {L : Addr} {m : Str → Option Value}
theorem wpAny_iadd_list {l b : Addr} {items items2 : Array Value} {n n2 : Nat} {Q : Value → Shared → Prop} (hl : s.heap.get? l = some { cls := .type "list", data := .seq items n }) (hb : s.heap.get? b = some { cls := .type "list", data := .seq items2 n2 })
    (hsz : items.size + items2.size ≤ sizeLine) (h : Q (.ref l) { s with heap := s.heap.update l (Obj.mapSeq fun x => x ++ items2) }) :
    wpAny (model prog w) A (inplaceOp .Add (.ref l) (.ref b)) Q E s := by
  have ha : s.TypeIs (.ref l) "list" := ⟨_, hl, rfl⟩
  have hb' : s.TypeIs (.ref b) "list" := ⟨_, hb, rfl⟩
  unfold inplaceOp
  refine wpAny_holding ?_
  refine wpAny_bind (wpAny_typeOf ha (wpAny_bind (wpAny_of_eq noFillI_list_add ?_)))
  show wpAny _ A (if false = true then _ else _) Q E s
  rw [if_neg Bool.false_ne_true]
  refine wpAny_bind (wpAny_binaryOp1_none (nm := "add") ha hb' noFill_list_add ?_)
  refine wpAny_bind (wpAny_of_eq seq_list_iadd ?_)
  refine wpAny_bind (wpAny_rule ?_)
  exact (call_meets F.slot_list_iadd ha F.entry_list_iadd (F.args_list_iadd_2 _ _) (AutoSeq1.list___iadd___list_list_0 l items n b items2 n2 (extend_door hsz) (Nat.le_trans (Nat.le_add_right _ _) hsz)) ⟨hl, hb, h⟩)
end

section
variable {prog : Program} {w : World} {A : Around} {E : Value → Shared → Prop} {s : Shared} {h₀ : Heap} {L : Addr} {m : Str → Option Value} {news news' : List (Addr × Obj)}
theorem iadd_K {D b : Addr} {ys zs : List Value} {n : Nat} {Q : Value → Shared → Prop} (F : Fr h₀ L s.heap m) (N : News h₀ L s.heap news) (hb : (b, listOf zs.toArray zs.length) ∈ news)
    (hz : ys.length + zs.length ≤ 1000) (pre post : List (Addr × Obj)) (hn : news = pre ++ (D, listOf ys.toArray n) :: post) (h1 : ∀ p ∈ pre, p.1 ≠ D) (h2 : ∀ p ∈ post, p.1 ≠ D)
    (h : ∀ h' n', Fr h₀ L h' m → News h₀ L h' (pre ++ (D, listOf (ys ++ zs).toArray n') :: post) → Q (.ref D) { s with heap := h' }) :
    wpAny (model prog w) A (inplaceOp .Add (.ref D) (.ref b)) Q E s := by
  subst hn
  have hm := N (D, listOf ys.toArray n) (List.mem_append_right _ (.head _))
  have hsz : ys.toArray.size + zs.toArray.size ≤ sizeLine := by rw [List.size_toArray, List.size_toArray, sizeLine_eq]; omega
  refine wpAny_iadd_list hm.1 (N _ hb).1 hsz ?_
  have e : ys.toArray ++ zs.toArray = (ys ++ zs).toArray := by simp
  have ho' : (s.heap.update D (Obj.mapSeq fun x => x ++ zs.toArray)).get? D = some (listOf (ys ++ zs).toArray (if (ys.toArray ++ zs.toArray).size == ys.toArray.size then n else n + 1)) := by
    rw [Heap.get?_update_self _ hm.1 (by rw [mapSeq_app]; rfl), mapSeq_app, e]
  exact h _ _ (F.change (Heap.SameBut.update ..) hm.2.1 hm.2.2) (N.setIn h1 h2 (Heap.SameBut.update ..) ho')
end
section
variable {prog : Program} {w : World} {A : Around} {E : Value → Shared → Prop} {s : Shared} {h₀ : Heap} {L : Addr} {m : Str → Option Value} {env : Env}
theorem str_st {h₀ : Heap} {L I : Addr} {T : String} {x : Str} {t : Tok} : ∀ i (h h' : Heap) (o : Obj) (nw : List (Addr × Obj)), h.IsStrIter I T x t i → h.get? I = some o → h'.get? I = some o → (∀ b o, h₀.get? b = some o → h'.get? b = some o) → News h₀ L h' nw → True → h'.IsStrIter I T x t i :=
  fun i h h' o nw st e e' _ _ _ => by obtain ⟨o', q, r⟩ := st; rw [e] at q; cases q; exact ⟨o, e', r⟩
/-- a list display that runs over the signs of a text -/
theorem ListComp_S {elt iter : Expr} {x : Str} {px : Pos} {scope : Scope} {cl : List (Str × Addr)} {pos : Pos} {Q : Value → Shared → Prop} (F₀ : Fr h₀ L s.heap m)
    (hclos : closureFor scope env = pure cl) (hcell : ∀ y ∈ scope.names, y.2 ≠ .cell) (hkind : scope.kind = .function)
    (hnames : ∀ y ∈ scope.names, y.2 = .local → scope.names.lookup y.1 = some .local) (hx : scope.names.lookup x = some .local)
    (h : wpAny (model prog w) A (eval iter env) (fun xv s₁ => Halt (∃ y t news, xv = .str y t ∧ A.handled = none ∧ Fr h₀ L s₁.heap m ∧ News h₀ L s₁.heap news ∧ y.length ≤ sizeLine ∧
      ∀ s₂ : Shared, (∃ h, s₂ = { s₁ with heap := h }) → LCg.CompRest prog w A h₀ L m env elt x scope cl s₂ (fun _ => True) (SignAt y) (LCg.FinE h₀ L m s₂ Q) y.cps.size 0 [] news)) E s)
    (hs : ∀ x, foldedSetIterable iter env x = pure x := by intro _; rfl) :
    wpAny (model prog w) A (eval (.ListComp elt [⟨.Name x px, iter, [], 0⟩] scope pos) env) Q E s := by
  rw [eval_ListComp]
  refine wpAny_comprehension_free (use := none) rfl hs hclos hkind hnames (wpAny_mono h (fun xv s₁ h₁ => ?_) fun _ _ e => e)
  obtain ⟨y, t, news, rfl, hh, F, N, hsz, R⟩ := h₁
  cases ha : y.cps.all (· < 128)
  · refine wpAny_pyIter_wide ha ?_
    refine LCg.block_U (Walks.strWide hh _ y t) hsz (fun i h st => by obtain ⟨o, e, _⟩ := st; exact ⟨o, e⟩) str_st hcell hkind hx ⟨_, Heap.get?_push_size _ rfl, rfl, rfl⟩ (fun b hb => ?_)
      (F.keeps fun _ _ e => Heap.get?_push_of_some _ e) (N.grown fun _ _ e => Heap.get?_push_of_some _ e) (Nat.ne_of_lt F.ns.lt) (next_is_new F) (fun p hp => Nat.ne_of_lt (Heap.lt_size (N p hp).1)) trivial (R _ ⟨_, rfl⟩) ?_
    · rw [List.mem_singleton.mp hb]
      show s₁.heap.objs.size < (s₁.heap.push _).objs.size
      rw [Heap.size_push]; exact Nat.lt_succ_self _
    · intro D C h tk m' ys news' F' N' o1 hn hC₀ hD₀ hCL hDL hCD offC fin
      refine ⟨m', hn, fun h'' hs'' => fin D h'' tk (F'.change hs'' hCL hC₀) (fun p hp => ?_) o1⟩
      refine ⟨hs''.extBut _ _ ?_ (N' p hp).1, (N' p hp).2⟩
      rcases List.mem_cons.mp hp with rfl | hp
      · exact Ne.symm hCD
      · exact offC p hp
  · refine wpAny_pyIter_ascii ha ?_
    refine LCg.block_U (Walks.strAscii hh _ y t) hsz (fun i h st => by obtain ⟨o, e, _⟩ := st; exact ⟨o, e⟩) str_st hcell hkind hx ⟨_, Heap.get?_push_size _ rfl, rfl, rfl⟩ (fun b hb => ?_)
      (F.keeps fun _ _ e => Heap.get?_push_of_some _ e) (N.grown fun _ _ e => Heap.get?_push_of_some _ e) (Nat.ne_of_lt F.ns.lt) (next_is_new F) (fun p hp => Nat.ne_of_lt (Heap.lt_size (N p hp).1)) trivial (R _ ⟨_, rfl⟩) ?_
    · rw [List.mem_singleton.mp hb]
      show s₁.heap.objs.size < (s₁.heap.push _).objs.size
      rw [Heap.size_push]; exact Nat.lt_succ_self _
    · intro D C h tk m' ys news' F' N' o1 hn hC₀ hD₀ hCL hDL hCD offC fin
      refine ⟨m', hn, fun h'' hs'' => fin D h'' tk (F'.change hs'' hCL hC₀) (fun p hp => ?_) o1⟩
      refine ⟨hs''.extBut _ _ ?_ (N' p hp).1, (N' p hp).2⟩
      rcases List.mem_cons.mp hp with rfl | hp
      · exact Ne.symm hCD
      · exact offC p hp
end

section
variable {prog : Program} {w : World} {A : Around} {E : Value → Shared → Prop} {s : Shared} {env : Env} {h₀ : Heap} {x : Str} {body : List Stmt} {Q : Flow → Shared → Prop}
/-- a for over a range from a on: an invariant over the turn's number, the frame's map and the ledger -/
theorem iter_rng {r : Addr} {a b : Int} {t u v : Tok} {n : Nat} {m₀ : Str → Option Value} {news : List (Addr × Obj)} (J : Nat → (Str → Option Value) → List (Addr × Obj) → Prop)
    (hh : A.handled = none) (hr : IsRange s.heap r a b 1 t u v) (hsm : Builtin.Range.small a b 1 = true) (hn : Builtin.Range.rangeSize a b 1 = ((n : Nat) : Int)) (F : Fr h₀ env.locals s.heap m₀) (N : News h₀ env.locals s.heap news) (hj : J 0 m₀ news)
    (turn : ∀ i ti m₁ news₁ h tk own, i < n → news₁.map (·.1) = news.map (·.1) → OwnOff own (news.map (·.1)) → J i m₁ news₁ →
      Fr h₀ env.locals h (fun y => if y = x then some (.int (a + (i : Int)) ti) else m₁ y) → News h₀ env.locals h (news₁ ++ own) →
      wpAny (model prog w) A (execs body env) (InvPostN h₀ env.locals (fun m' nx => J (i + 1) m' nx) own (news.map (·.1)) { s with heap := h, toks := tk } Q) E { s with heap := h, toks := tk })
    (done : ∀ m₁ news₁ h tk, J n m₁ news₁ → Fr h₀ env.locals h m₁ → News h₀ env.locals h news₁ → Q .next { s with heap := h, toks := tk }) :
    wpAny (model prog w) A (pyIter (.ref r)) (fun it s₂ => LoopAtV prog w A h₀ env x body Q E it s₂) E s := by
  have fresh : ∀ q ∈ news, q.1 ≠ s.heap.objs.size := fun q hq => Nat.ne_of_lt (Heap.lt_size (N q hq).1)
  refine wpAny_pyIter_range hr hsm ?_
  have W := LCg.range_walks (prog := prog) (w := w) (I := s.heap.objs.size) hh a n
  refine ⟨_, _, _, _, _, _, m₀, news, (fun i m nx => nx.map (·.1) = news.map (·.1) ∧ J i m nx), rfl, W, ?_, ?_, ?_,
    (by show IsRangeIter _ _ _ _ _; rw [hn]; simpa using Heap.get?_push_size _ rfl), F.keeps (fun _ _ e => Heap.get?_push_of_some _ e), N.grown (fun _ _ e => Heap.get?_push_of_some _ e), ⟨rfl, hj⟩, ?_, ?_⟩
  · intro hm
    exact absurd F.ns.lt ((List.mem_singleton.mp hm) ▸ Nat.lt_irrefl _)
  · intro b hb
    rw [List.mem_singleton.mp hb]
    exact next_is_new F
  · intro p hp hI
    exact fresh p hp (List.mem_singleton.mp hI)
  · rintro i vv m₁ news₁ s₁ own ⟨hh', tk', rfl⟩ hin ⟨ti, rfl⟩ ⟨hadr, hJ⟩ _ hown hget _ _ F₁ N₁
    have hsep : OwnOff own (news.map (·.1)) := by
      intro p hp b hb e
      obtain ⟨q, hq, rfl⟩ := List.mem_map.mp hb
      exact fresh q hq (e ▸ List.mem_singleton.mp (hown p hp))
    have N₂ : News h₀ env.locals hh' (news₁ ++ own) := fun p hp => N₁ p (by
      rcases List.mem_append.mp hp with h | h
      · exact List.mem_append.mpr (.inr h)
      · exact List.mem_append.mpr (.inl h))
    refine wpAny_mono (turn i ti m₁ news₁ hh' tk' own hin hadr hsep hJ F₁ N₂) (fun f s₂ p => ?_) fun _ _ e => e
    have fin : InvEndN h₀ env.locals (fun m' nx => J (i + 1) m' nx) own (news.map (·.1)) { s with heap := hh', toks := tk' } s₂ →
        LoopStepU h₀ env.locals [s.heap.objs.size] own (fun m nx => nx.map (·.1) = news.map (·.1) ∧ J (i + 1) m nx) { s with heap := hh', toks := tk' } .next s₂ := by
      rintro ⟨h', tk, m', news', nx, e, F', N', hn, ho, ha, hm⟩
      refine ⟨rfl, h', tk, m', nx, e, F', fun p hp => ?_, fun p hp hI => ?_, ha, hm⟩
      · rcases List.mem_append.mp hp with h | h
        · exact N' p (ho p h)
        · exact N' p (hn p h)
      · have h1 : p.1 ∈ nx.map (·.1) := List.mem_map.mpr ⟨p, hp, rfl⟩
        rw [ha] at h1
        obtain ⟨q, hq, e⟩ := List.mem_map.mp h1
        exact fresh q hq (by rw [e]; exact List.mem_singleton.mp hI)
    cases f with
    | ret v => exact .ret p
    | brk => exact .brk p
    | next => exact .next (fin p)
    | cont => exact .cont (fin p)
  · rintro h' tk m' news' F' N' _ ⟨_, hJ⟩
    exact done m' news' h' tk hJ F' N'
end

end Mine
namespace Mine
theorem off_MW : True := by
  w_top off
  trivial
open Builtin Builtin.Str
local macro_rules | `(tactic| k_all) => `(tactic| exact allNe (by assumption))
local macro_rules | `(tactic| walk_at "call builtin:str.split") => `(tactic| (k_here; (with_reducible show wpAny _ _ (call (Value.builtin "str.split") _) _ _ _); (refine KSpl.split1 (by k_asm) (by k_asm) (by decide) ?_ ?kz); (case kz => (rw [sizeLine_eq]; omega)); (intro D' l' h' k' e' a' F' N' l1); (replace l1 := allLt_of l1)))
local macro_rules | `(tactic| walk_at "call builtin:len") => `(tactic| (k_here; (with_reducible show wpAny _ _ (call (Value.builtin "len") [Value.str _ _]) _ _ _); (refine P.len_str ?kz ?_); (case kz => omega)))
local macro_rules | `(tactic| walk_at "truthy str") => `(tactic| (k_here; (with_reducible show wpAny _ _ (PySem.truthy (Value.str _ _)) _ _ _); (refine P.truthy_str ?kz ?_); (case kz => omega)))
local macro_rules | `(tactic| walk_at "exec For Name Name cons nil") => `(tactic| (k_here; (rename Fr _ _ _ _ => lF'); (with_unfolding_all refine' For_invVF lF' ?k1 ?k2 ?_; (case k1 => exact rfl); (case k2 => exact rfl); k_whole)))
local macro_rules | `(tactic| walk_at "subscriptTail Name UnaryOp ref int") => `(tactic| (k_here; (with_unfolding_all refine' last_K ?k1 ?k2 ?k3 ?_ ?k5; (case k1 => k_asm); (case k2 => k_mem); (case k3 => (first | omega | (simp only [List.length_tail]; omega))); (case k5 => with_unfolding_all rfl)); intro z' tz' hz'))
local macro_rules | `(tactic| walk_at "call builtin:str.find") => `(tactic| (k_here; (with_reducible show wpAny _ _ (call (Value.builtin "str.find") [Value.str _ _, Value.str _ _, Value.int _ _, Value.int _ _]) _ _ _); refine call_find4 ?_))
theorem match_spec {prog p : Program} {loose : List Str} {w : World} {mean : ExcName → Option Value} {mg mb : Str → Option Value} {news : List (Addr × Obj)} (want got : Str) (t u : Tok) :
    CbClaim prog w (hd.heap_39 w.params) p loose mean mg mb 21 news [] (want.length ≤ 100 ∧ got.length ≤ 100) [.str want t, .str got u] (fun _ => .bool (ematch want got)) := by
  dsimp only [CbClaim, CbLists, CbRet]
  intro dp un gd cn cs a ccd cl outer A₀ base h₀ L m s Q E B F X N T hk hpre hd hu hret
  obtain ⟨hw100, hg100⟩ := hpre
  refine wpAny_call ?_
  k_dflt cell_enter
  k_steps
  · rename_i hocc kF kN Tc kX
    have e : ematch want got = (want == got) := by unfold ematch; rw [if_pos hocc]
    rw [← e]
    exact hret 0 _ _ kF kN
  · rename (List.map _ _ = Txt.split _ _) => hsp
    rename (Builtin.Str.occurrences _ _ _ _ _).isEmpty = false => hocc
    rename (_[_]? = some _) => hy0
    have hlen := splitLen want (Str.ofString "...") hw100
    have hcnt := splitCount want (Str.ofString "...") hw100 (by decide +kernel)
    have htwo := split_two (by decide +kernel) (by decide +kernel) hocc
    rw [← hsp] at hlen hcnt htwo
    rw [List.length_map] at hcnt htwo
    have hy100 := hlen _ (List.mem_of_getElem? hy0)
    refine P.truthy_str (by omega) ?_
    have hhead := head_of_get0 hy0
    k_steps
    rotate_left
    · rename_i hne hst kF kN Tc kX
      have e := ematch_pre (got := got) hocc hsp hhead (by omega) hst
      rw [← e]
      exact hret 0 _ _ kF (cb_drop kN (fun p hp => .tail _ (.tail _ hp)))
    focus
      rename (Str.length _ : Int) = 0 => hne
      rename List.getLast? _ = some _ => hz
      have hem := ematch_one (got := got) hocc hsp hhead hne hz
      have hzl := hlen _ (List.mem_map_of_mem (List.mem_of_getLast? hz))
    rotate_left
    focus
      rename (Str.length _ : Int) ≠ 0 => hne
      rename Txt.startswith got _ = true => hst
      refine' del0_K ?hF ?hN ?ha ?hz ?hU ?_
      case hF => k_asm
      case hN => k_asm
      case hU => k_upd
      case ha => omega
      case hz => omega
      intro h' F' N'
      k_steps
      rename List.getLast? _ = some _ => hz
      have hem := ematch_two (got := got) hocc hsp hhead hne hst hz
      have hzl := hlen _ (List.mem_of_mem_tail (by rw [← List.map_tail]; exact List.mem_map_of_mem (List.mem_of_getLast? hz)))
    all_goals (
      dsimp only at hzl
      refine P.truthy_str (by omega) ?_
      k_steps)
    all_goals (first
      | (rename_i kF kN Tc kX
         have e : ematch want got = false := by
           first
           | exact ematch_false1 hem (by assumption) (by assumption)
           | exact ematch_false2 hem (by omega)
         rw [← e]
         exact hret 0 _ _ kF (cb_drop kN (fun p hp => .tail _ (.tail _ hp))))
      | skip)
    rotate_left
    focus
      have hS := seek_zero (aI := (Str.length _ : Int)) hem (by assumption) (by omega) rfl
      refine' iter_strs1 (x := Str.ofString "w") (y := Str.ofString "startpos") (Seek want got got.length) (by rfl) ?hl ?F ?N ?hy hS ?turn ?done
      case F => k_asm
      case N => k_asm
      case hl => k_mem
      case hy => exact rfl
      case turn =>
        intro v tv rest a' ta h tk own hv hoff hP F1 N1
        have hv100 : v.length ≤ 100 := hlen _ (List.mem_of_mem_tail (by rw [← List.map_tail]; exact List.mem_map_of_mem hv))
        k_steps
        · rename_i hlt kF kN Tc kX
          have e := hP.miss rfl (by omega) hlt
          rw [← e]
          exact hret 0 _ _ kF (cb_drop kN (fun p hp => .tail _ (.tail _ (List.mem_append.mpr (.inl hp)))))
        · rename (¬ find4 _ _ _ _ < 0) => hge
          refine InvEndN.intro (by assumption) (by assumption) ⟨rfl, ⟨_, _, by with_unfolding_all rfl, hP.go rfl (by omega) hge⟩, ?_⟩ (by rfl) (fun p hp => List.mem_append.mpr (.inl hp)) (fun p hp => List.mem_append.mpr (.inr hp))
          intro z h1 h2
          simp only [h1, h2, if_false]
      case done =>
        intro u a' ta h tk hP F1 N1
        obtain ⟨sp, _, e⟩ := hP
        replace e : ematch want got = true := e
        k_steps
        rename_i kF kN Tc kX
        rw [← e]
        exact hret 0 _ _ kF (cb_drop kN (fun p hp => .tail _ (.tail _ hp)))
    rotate_left
    focus
      have hS := seek_zero (aI := 0) hem (by assumption) (by omega) rfl
      refine' iter_strs1 (x := Str.ofString "w") (y := Str.ofString "startpos") (Seek want got got.length) (by rfl) ?hl ?F ?N ?hy hS ?turn ?done
      case F => k_asm
      case N => k_asm
      case hl => k_mem
      case hy => exact rfl
      case turn =>
        intro v tv rest a' ta h tk own hv hoff hP F1 N1
        have hv100 : v.length ≤ 100 := hlen _ (List.mem_map_of_mem hv)
        k_steps
        · rename_i hlt kF kN Tc kX
          have e := hP.miss rfl (by omega) hlt
          rw [← e]
          exact hret 0 _ _ kF (cb_drop kN (fun p hp => .tail _ (.tail _ (List.mem_append.mpr (.inl hp)))))
        · rename (¬ find4 _ _ _ _ < 0) => hge
          refine InvEndN.intro (by assumption) (by assumption) ⟨rfl, ⟨_, _, by with_unfolding_all rfl, hP.go rfl (by omega) hge⟩, ?_⟩ (by rfl) (fun p hp => List.mem_append.mpr (.inl hp)) (fun p hp => List.mem_append.mpr (.inr hp))
          intro z h1 h2
          simp only [h1, h2, if_false]
      case done =>
        intro u a' ta h tk hP F1 N1
        obtain ⟨sp, _, e⟩ := hP
        replace e : ematch want got = true := e
        k_steps
        rename_i kF kN Tc kX
        rw [← e]
        exact hret 0 _ _ kF (cb_drop kN (fun p hp => .tail _ (.tail _ hp)))
    focus
      rename (Str.length _ : Int) ≠ 0 => hzne
      rename Txt.endswith got _ = true => hze
      refine' delLast_K ?hF ?hN ?ha ?hz ?hU ?_
      case hF => k_asm
      case hN => k_asm
      case hU => k_upd
      case ha => (simp only [List.length_tail]; omega)
      case hz => (simp only [List.length_tail]; omega)
      intro h' F' N'
      k_steps
      · rename_i hlt kF kN Tc kX
        have e : ematch want got = false := ematch_false2 hem (by omega)
        rw [← e]
        exact hret 0 _ _ kF (cb_drop kN (fun p hp => .tail _ (.tail _ hp)))
      have hS := seek_some (aI := (Str.length _ : Int)) hem hzne hze (by omega) rfl
      refine' iter_strs1 (x := Str.ofString "w") (y := Str.ofString "startpos") (Seek want got _) (by rfl) ?hl ?F ?N ?hy hS ?turn ?done
      case F => k_asm
      case N => k_asm
      case hl => k_mem
      case hy => exact rfl
      case turn =>
        intro v tv rest a' ta h tk own hv hoff hP F1 N1
        have hv100 : v.length ≤ 100 := hlen _ (List.mem_of_mem_tail (by rw [← List.map_tail]; exact List.mem_map_of_mem (List.dropLast_subset _ hv)))
        k_steps
        · rename_i hlt kF kN Tc kX
          have e := hP.miss (by omega) (by omega) hlt
          rw [← e]
          exact hret 0 _ _ kF (cb_drop kN (fun p hp => .tail _ (.tail _ (List.mem_append.mpr (.inl hp)))))
        · rename (¬ find4 _ _ _ _ < 0) => hge
          refine InvEndN.intro (by assumption) (by assumption) ⟨rfl, ⟨_, _, by with_unfolding_all rfl, hP.go (by omega) (by omega) hge⟩, ?_⟩ (by rfl) (fun p hp => List.mem_append.mpr (.inl hp)) (fun p hp => List.mem_append.mpr (.inr hp))
          intro z h1 h2
          simp only [h1, h2, if_false]
      case done =>
        intro u a' ta h tk hP F1 N1
        obtain ⟨sp, _, e⟩ := hP
        replace e : ematch want got = true := e
        k_steps
        rename_i kF kN Tc kX
        rw [← e]
        exact hret 0 _ _ kF (cb_drop kN (fun p hp => .tail _ (.tail _ hp)))
    focus
      rename (Str.length _ : Int) ≠ 0 => hzne
      rename Txt.endswith got _ = true => hze
      refine' delLast_K ?hF ?hN ?ha ?hz ?hU ?_
      case hF => k_asm
      case hN => k_asm
      case hU => k_upd
      case ha => omega
      case hz => omega
      intro h' F' N'
      k_steps
      · rename_i hlt kF kN Tc kX
        have e : ematch want got = false := ematch_false2 hem (by omega)
        rw [← e]
        exact hret 0 _ _ kF (cb_drop kN (fun p hp => .tail _ (.tail _ hp)))
      have hS := seek_some (aI := 0) hem hzne hze (by omega) rfl
      refine' iter_strs1 (x := Str.ofString "w") (y := Str.ofString "startpos") (Seek want got _) (by rfl) ?hl ?F ?N ?hy hS ?turn ?done
      case F => k_asm
      case N => k_asm
      case hl => k_mem
      case hy => exact rfl
      case turn =>
        intro v tv rest a' ta h tk own hv hoff hP F1 N1
        have hv100 : v.length ≤ 100 := hlen _ (List.mem_map_of_mem (List.dropLast_subset _ hv))
        k_steps
        · rename_i hlt kF kN Tc kX
          have e := hP.miss (by omega) (by omega) hlt
          rw [← e]
          exact hret 0 _ _ kF (cb_drop kN (fun p hp => .tail _ (.tail _ (List.mem_append.mpr (.inl hp)))))
        · rename (¬ find4 _ _ _ _ < 0) => hge
          refine InvEndN.intro (by assumption) (by assumption) ⟨rfl, ⟨_, _, by with_unfolding_all rfl, hP.go (by omega) (by omega) hge⟩, ?_⟩ (by rfl) (fun p hp => List.mem_append.mpr (.inl hp)) (fun p hp => List.mem_append.mpr (.inr hp))
          intro z h1 h2
          simp only [h1, h2, if_false]
      case done =>
        intro u a' ta h tk hP F1 N1
        obtain ⟨sp, _, e⟩ := hP
        replace e : ematch want got = true := e
        k_steps
        rename_i kF kN Tc kX
        rw [← e]
        exact hret 0 _ _ kF (cb_drop kN (fun p hp => .tail _ (.tail _ hp)))
  · exfalso
    rename (List.map _ _ = Txt.split _ _) => hsp
    rename (Builtin.Str.occurrences _ _ _ _ _).isEmpty = false => hocc
    have htwo := split_two (by decide +kernel) (by decide +kernel) hocc
    rw [← hsp, List.length_map] at htwo
    omega
end Mine
namespace Mine
theorem off_TW : True := by
  w_top off
  trivial
open Builtin Builtin.Str
local macro_rules | `(tactic| k_all) => `(tactic| exact allNe (by assumption))
local macro_rules | `(tactic| k_all) => `(tactic| exact ltNe (by assumption))
local macro_rules | `(tactic| walk_at "call builtin:len") => `(tactic| (k_here; (with_reducible show wpAny _ _ (call (Value.builtin "len") [Value.str _ _]) _ _ _); (refine P.len_str ?kz ?_); (case kz => omega)))
local macro_rules | `(tactic| walk_at "exec While Compare cons nil") => `(tactic| (k_here; refine Halt.of ?_))
/-- between two turns of the outer while: what is told so far, the place -/
def TokJ (pat : Str) (D T : Addr) (to : Obj) (news : List (Addr × Obj)) (m₀ : Str → Option Value) (n : Nat) (m : Str → Option Value) (nx : List (Addr × Obj)) : Prop :=
  ∃ (l : List (Str × Tok)) (c place : Nat) (pI : Int) (tk : Tok), nx = (T, to) :: (D, listOf (strValues l).toArray c) :: news ∧ m (Str.ofString "place") = some (.int pI tk) ∧ pI = (place : Int) ∧ place ≤ pat.length + 2 ∧ n = pat.length + 2 - place ∧ l.length ≤ place ∧
    (l.map fun x => chars x.1) ++ (toks ((chars pat).drop place)).map Tk.txt = (toks (chars pat)).map Tk.txt ∧
    ∀ z, z ≠ Str.ofString "place" → z ≠ Str.ofString "size" → m z = m₀ z
def SizeJ (pat : Str) (place : Nat) (news : List (Addr × Obj)) (m₀ : Str → Option Value) (n : Nat) (m : Str → Option Value) (nx : List (Addr × Obj)) : Prop :=
  ∃ (sz : Nat) (zI : Int) (tk : Tok), nx = news ∧ m (Str.ofString "size") = some (.int zI tk) ∧ zI = (sz : Int) ∧ 1 ≤ sz ∧ sz ≤ 3 ∧ n = sz ∧ (∀ k, sz < k → k ≤ 3 → ¬ In4 (((chars pat).drop place).take k)) ∧ ∀ z, z ≠ Str.ofString "size" → m z = m₀ z
theorem tokens_spec {prog p : Program} {loose : List Str} {w : World} {mean : ExcName → Option Value} {mg mb : Str → Option Value} {news : List (Addr × Obj)} (pat : Str) (t : Tok) :
    DefClaim prog w (hd.heap_39 w.params) p loose mean mg mb 38 news 1 8 (pat.length ≤ 100 ∧ Sg (chars pat)) [.str pat t]
      (fun h₀ L m s Q => ∀ D l n h' tk', Fr h₀ L h' m → News h₀ L h' ((D, listOf (strValues l).toArray n) :: news) → (∀ p ∈ news, p.1 < D) → (l.map fun x => chars x.1) = (toks (chars pat)).map Tk.txt → l.length ≤ pat.length + 2 → Q (.ref D) { s with heap := h', toks := tk' }) := by
  intro dp un gd cn cs a ccd cl outer A₀ base h₀ L m s Q E B F X N T hk hpre hd hu hret
  obtain ⟨hpre, hsg⟩ := hpre
  refine wpAny_call ?_
  k_dflt cell_enter
  k_steps
  refine Halt.go ?_
  rename Fr _ _ _ (fun y => if y = "tokens" then _ else _) => F1
  rename News _ _ _ (_ :: _ :: news) => N1
  rename (∀ p, p ∈ news → p.1 < _) => hlt
  refine While_inv2 (n₀ := pat.length + 2) (TokJ pat _ _ _ news _) F1 N1 ⟨[], 0, 0, _, _, rfl, rfl, rfl, by omega, rfl, Nat.le_refl _, by simp, fun _ _ _ => rfl⟩ ?_
  rintro n m₁ nx h₁ tk₁ F₂ N₂ ⟨l, c, place, _, tk, rfl, hp, rfl, hpl, rfl, hll, htk, hm⟩
  rw [map_two' hp hm] at F₂
  k_steps
  · refine Halt.go ?_
    rename (place : Int) < (pat.length : Int) => hlt2
    have hpp : place < pat.length := by omega
    have hne : (chars pat).drop place ≠ [] := by
      intro h0
      have := congrArg List.length h0
      rw [List.length_drop, chars_length] at this
      simp only [List.length_nil] at this
      omega
    have hsr : Sg ((chars pat).drop place) := fun c hc => hsg c (List.mem_of_mem_drop hc)
    rename Fr _ _ _ _ => F3
    rename News _ _ _ _ => N3
    refine While_inv2 (n₀ := 3) (SizeJ pat place _ _) F3 N3 ⟨3, _, _, rfl, rfl, rfl, by omega, by omega, rfl, by intro k h1 h2; omega, fun _ _ => rfl⟩ ?_
    rintro n m₃ nx h₃ tk₃ F₄ N₄ ⟨sz, _, tks, rfl, hs, rfl, hs1, hs3, rfl, hno, hm3⟩
    rw [map_one' hs hm3] at F₄
    have hch : ∀ x, x = Txt.slice pat (some (place : Int)) (some ((place : Int) + (n : Int))) → chars x = ((chars pat).drop place).take n := by
      rintro x rfl
      rw [← Int.natCast_add, slice_chars pat place (place + n) (by omega)]
      congr 1; omega
    k_steps
    · rename (_ || _) = true => hin
      generalize hx : Txt.slice pat (some (place : Int)) (some ((place : Int) + (n : Int))) = x at *
      have hxc := hch x rfl
      have hin4 : In4 (chars x) := by
        have hsx : Sg (chars x) := by rw [hxc]; exact fun c hc => hsr c (List.mem_of_mem_take hc)
        simp only [Bool.or_eq_true, decide_eq_true_eq, Bool.false_eq_true, or_false] at hin
        rcases hin with h | h | h | h | h | h | h | h | h | h | h | h | h | h | h | h | h | h | h | h | h | h | h | h | h | h | h | h | h | h | h | h | h | h | h | h | h | h | h | h | h | h | h | h | h | h | h | h
        all_goals first
          | exact absurd (hsx _ (by rw [h]; exact List.Mem.head _)) (by decide)
          | (rw [h]; simp [In4, chars]; done)
      rw [hxc] at hin4
      obtain ⟨tk1, hst, htx⟩ := tok_step hne hsr hs1 hs3 hin4 hno
      refine' append_strs ?hF ?hN ?hz ?hU ?_
      case hF => k_asm
      case hN => k_asm
      case hU => k_upd
      case hz => omega
      intro h5 F5 N5
      k_steps
      refine ⟨_, _, _, _, pat.length + 2 - (place + n), rfl, by assumption, by assumption, by omega, l ++ [(x, _)], c + 1, place + n, _, _, rfl, by with_unfolding_all rfl, by omega, ?_, rfl, ?_, ?_, ?_⟩
      · omega
      · rw [List.length_append]; simp only [List.length_cons, List.length_nil]; omega
      · rw [← htk, hst, List.map_append, List.append_assoc]
        simp only [List.map_cons, List.map_nil, List.cons_append, List.nil_append, htx, hxc, List.drop_drop]
      · intro z hz1 hz2
        simp only [hz1, hz2, if_false]
    · rename (_ || _) = false => hin
      generalize hx : Txt.slice pat (some (place : Int)) (some ((place : Int) + (n : Int))) = x at *
      have hxc := hch x rfl
      have hin4 : ¬ In4 (chars x) := by
        rintro (h | h | h | h)
        · have e : x = ⟨#[44]⟩ := chars_inj h
          rw [e] at hin; exact absurd hin (by decide +kernel)
        · have e : x = ⟨#[46]⟩ := chars_inj h
          rw [e] at hin; exact absurd hin (by decide +kernel)
        · have e : x = ⟨#[59]⟩ := chars_inj h
          rw [e] at hin; exact absurd hin (by decide +kernel)
        · have e : x = ⟨#[46, 46, 46]⟩ := chars_inj h
          rw [e] at hin; exact absurd hin (by decide +kernel)
      rw [hxc] at hin4
      have hn1 : n ≠ 1 := by rintro rfl; exact hin4 (in4_take hne hsr)
      refine ⟨_, _, _, _, n - 1, rfl, by assumption, by assumption, by omega, n - 1, _, _, rfl, by with_unfolding_all rfl, by omega, by omega, by omega, rfl, ?_, ?_⟩
      · intro k h1 h2
        by_cases hk : k = n
        · rw [hk]; exact hin4
        · exact hno k (by omega) h2
      · intro z hz
        simp only [hz, if_false]
  · rename ¬ ((place : Int) < (pat.length : Int)) => hge
    rename_i kF kN Tc kX
    rw [List.drop_of_length_le (by rw [chars_length]; omega)] at htk
    exact hret _ l _ _ _ kF (cb_drop kN (fun p hp => .tail _ hp)) hlt (by simpa [toks] using htk) (by omega)
end Mine
namespace Mine
theorem off_FW : True := by
  w_top off
  trivial
open Builtin Builtin.Str
local macro_rules | `(tactic| k_all) => `(tactic| exact allNe (by assumption))
local macro_rules | `(tactic| k_all) => `(tactic| exact ltNe (by assumption))
local macro_rules | `(tactic| k_all) => `(tactic| assumption)
local macro_rules | `(tactic| walk_at "exec For Name Name cons nil") => `(tactic| (k_here; (rename Fr _ _ _ _ => lF'); (with_unfolding_all refine' For_invVF lF' ?k1 ?k2 ?_; (case k1 => exact rfl); (case k2 => exact rfl); k_whole)))
local macro_rules | `(tactic| walk_at "pyIter ref") => `(tactic| (k_here; refine Halt.of ?_))
def FillJ (ts : List Tk) (Tp C : Addr) (to : Obj) (news : List (Addr × Obj)) (m₀ : Str → Option Value) (i : Nat) (m : Str → Option Value) (nx : List (Addr × Obj)) : Prop :=
  ∃ (oc : Obj) (cv : Option Value) (x : Str) (tx : Tok) (g : Int) (tg : Tok), nx = (Tp, to) :: (C, oc) :: news ∧ oc.data = .cell cv ∧ m (Str.ofString "text") = some (.str x tx) ∧ m (Str.ofString "gaps") = some (.int g tg) ∧ g = (ngaps (ts.take i) : Int) ∧ Mt (ts.take i) (chars x) ∧ x.length ≤ 2 * i ∧
    ∀ z, z ≠ Str.ofString "piece" → z ≠ Str.ofString "text" → z ≠ Str.ofString "gaps" → m z = m₀ z
local macro_rules | `(tactic| walk_at "inplaceOp Add str str") => `(tactic| (k_here; (with_reducible show wpAny _ _ (inplaceOp Operator.Add (Value.str _ _) (Value.str _ _)) _ _ _); (refine iadd_str (hsz := ?kz) ?_; (case kz => (rw [sizeLine_eq]; omega))); intro t' tk'))
local macro_rules | `(tactic| walk_at "eval ListComp") => `(tactic| (k_here; refine Halt.of ?_))
local macro_rules | `(tactic| walk_at "CompSrc") => `(tactic| (refine Halt.of ?_))
theorem toks_length (u : List Nat) : (toks u).length ≤ u.length := by
  have h := toks_txt u
  have h2 : ∀ ts : List Tk, ts.length ≤ (ts.flatMap Tk.txt).length := by
    intro ts
    induction ts with
    | nil => simp
    | cons a r ih => simp only [List.flatMap_cons, List.length_append, List.length_cons]; cases a <;> simp only [Tk.txt, List.length_cons, List.length_nil] <;> omega
  have h3 := h2 (toks u)
  rw [h] at h3
  exact h3
theorem ngaps_take (ts : List Tk) (n : Nat) : ngaps (ts.take n) ≤ ngaps ts := by
  have h := ngaps_append (ts.take n) (ts.drop n)
  rw [List.take_append_drop] at h
  omega
theorem beq_true {x y : Str} (h : (x == y) = true) : x = y := beq_iff_eq.mp h
theorem gap_of {tki : Tk} (h : chars (Str.ofString "...") = tki.txt) : tki = .gap := by
  have e : chars (Str.ofString "...") = [46, 46, 46] := by decide +kernel
  rw [e] at h
  cases tki with
  | gap => rfl
  | lit c => cases h
theorem lit_of {y : Str} {tki : Tk} (h : chars y = tki.txt) (hn : (y == Str.ofString "...") = false) : ∃ c, tki = .lit c ∧ chars y = [c] := by
  cases tki with
  | lit c => exact ⟨c, rfl, h⟩
  | gap =>
    have e : y = Str.ofString "..." := by
      apply chars_inj
      rw [h]; decide +kernel
    rw [e] at hn
    exact absurd hn (by simp)
theorem join_ones {sep : Str} (hs : sep.length = 0) : ∀ (xs : List Str), (∀ q ∈ xs, q.length = 1) → (Txt.join sep xs).length = xs.length ∧ (xs.map (·.length)).sum = xs.length := by
  intro xs h
  have e : Txt.join sep xs = Str.join sep xs := StrLaws.glued_eq_join sep xs
  have h2 : (xs.map (·.length)).sum = xs.length := by
    induction xs with
    | nil => rfl
    | cons a r ih =>
      have h1 := h a (.head _)
      have h3 := ih (fun q hq => h q (.tail _ hq)) (StrLaws.glued_eq_join sep r)
      simp only [List.map_cons, List.sum_cons, List.length_cons, h1, h3]
      omega
  refine ⟨?_, h2⟩
  rw [e]
  cases xs with
  | nil => rfl
  | cons a r => rw [join_len, h2, hs]; omega
local macro_rules | `(tactic| walk_at "call builtin:str.join") => `(tactic| (k_here; refine Halt.of ?_))
theorem filled_spec {prog p : Program} {loose : List Str} {w : World} {mean : ExcName → Option Value} {mg mb : Str → Option Value} {news : List (Addr × Obj)} (pat : Str) (D1 D2 : Addr) (l : List (Str × Tok)) (c1 c2 : Nat) (vs : List Value) (ns : List Int) :
    DefClaim prog w (hd.heap_39 w.params) p loose mean mg mb 43 news 1 8
      ((D1, listOf (strValues l).toArray c1) ∈ news ∧ (D2, listOf vs.toArray c2) ∈ news ∧ IntsAre vs ns ∧ (l.map fun x => chars x.1) = (toks (chars pat)).map Tk.txt ∧ pat.length ≤ 3 * ns.length ∧ ns.length ≤ 6 ∧ (∀ n ∈ ns, 0 ≤ n ∧ n < 1000000)) [.ref D1, .ref D2]
      (fun h₀ L m s Q => ∀ x t h' tk', Fr h₀ L h' m → News h₀ L h' news → Mt (toks (chars pat)) (chars x) → x.length ≤ 2 * l.length → Q (.str x t) { s with heap := h', toks := tk' }) := by
  intro dp un gd cn cs a ccd cl outer A₀ base h₀ L m s Q E B F X N T hk hpre hd hu hret
  obtain ⟨hD1, hD2, hI, htk, hpl, hn6, hb⟩ := hpre
  refine wpAny_call ?_
  k_dflt (refine' code_defC ?k1 ?k2 ?k3 ?k4 ?k5 ?kA ?kF ?kK ?k6 ?k7 ?k8 ?k9 ?kB ?kD ?_ ?c2 ?c3 ?c4; (case kA => exact rfl); (case kF => exact rfl); (case kK => assumption); (case k1 => k_asm); (case k2 => k_asm); (case k3 => k_asm); (case k4 => k_asm); (case k5 => k_asm); (case k6 => k_is); (case k7 => k_is); (case k8 => ktr_room); (case k9 => exact BindsTo.of_eq rfl); (case kB => exact rfl); (case kD => decide +kernel); (case c2 => exact rfl); (case c3 => exact rfl); (case c4 => exact rfl); k_whole; intro g' L' h' tk' cells' FG' F' N' Y' B' X' T' l1; k_cells Y'; (try simp only [List.cons_append, List.nil_append] at N'); (try dsimp only); (try k_fold))
  k_steps
  rename (∀ p, p ∈ news → p.1 < L') => l1
  refine Halt.go ?_
  rename Fr _ _ _ _ => F1
  rename News _ _ _ _ => N1
  refine iter_vals (FillJ (toks (chars pat)) _ _ _ news _) rfl (List.mem_cons_of_mem _ (List.mem_cons_of_mem _ hD1)) F1 N1 ⟨_, _, _, _, _, _, rfl, by assumption, rfl, rfl, rfl, rfl, by decide, fun _ _ _ _ => rfl⟩ ?_ ?_
  · rintro i v m₁ news₁ h tk own hv _ hoff hl₁ ⟨oc, cv, x, tx, _, tg, rfl, hoc, htx, htg, rfl, hmt, hxl, hm⟩ F₁ N₁
    obtain ⟨y, ty, hy, rfl⟩ := strValues_get hv
    rw [map_two htx htg hm] at F₁
    obtain ⟨tki, hti, hch⟩ : ∃ tki, (toks (chars pat))[i]? = some tki ∧ chars y = tki.txt := by
      have h1 : (l.map fun x => chars x.1)[i]? = some (chars y) := by rw [List.getElem?_map, hy]; rfl
      rw [htk, List.getElem?_map] at h1
      cases hq : (toks (chars pat))[i]? with
      | none => rw [hq] at h1; cases h1
      | some q => rw [hq] at h1; exact ⟨q, rfl, (Option.some.inj h1).symm⟩
    have hy3 : y.length ≤ 3 := by rw [← chars_length, hch]; cases tki <;> simp [Tk.txt]
    have hts : (toks (chars pat)).take (i + 1) = (toks (chars pat)).take i ++ [tki] := by rw [List.take_add_one, hti]; rfl
    have hCa : ∀ p ∈ news ++ own, p.1 ≠ L' + 1 := by
      intro p hp
      rcases List.mem_append.mp hp with h1 | h1
      · have h2 := l1 p h1
        exact Nat.ne_of_lt (Nat.lt_succ_of_lt h2)
      · exact hoff p h1 _ (.tail _ (.head _))
    have hil : i < l.length := (List.getElem?_eq_some_iff.mp hy).1
    have hl18 : l.length ≤ 18 := by
      have h3 := congrArg List.length htk
      rw [List.length_map, List.length_map] at h3
      have h4 := toks_length (chars pat)
      rw [chars_length] at h4
      omega
    k_steps
    · refine item_ints (by k_asm) (List.mem_cons_of_mem _ (List.mem_cons_of_mem _ (List.mem_append.mpr (.inl hD2)))) hI (by omega) ?_ (by omega) ?_ (by with_unfolding_all rfl)
      · have e1 := beq_true (by assumption)
        subst e1
        have e2 : tki = .gap := gap_of hch
        rw [e2] at hts
        have h5 := ngaps_append ((toks (chars pat)).take i) [Tk.gap]
        rw [← hts] at h5
        have h6 := ngaps_take (toks (chars pat)) (i + 1)
        have h7 := ngaps_toks (chars pat)
        rw [chars_length] at h7
        have h8 : ngaps [Tk.gap] = 1 := rfl
        omega
      · intro v tv hv
        k_steps
        refine Halt.go ?_
        k_dflt (refine LCg.ListComp_U (F₀ := by k_asm) (by with_unfolding_all rfl) (by decide) (by rfl) (by decide) (by rfl) ?_)
        k_steps
        refine Halt.go ?_
        have hfl0 : 0 ≤ (v.fdiv 5).fmod 3 := Int.fmod_nonneg_of_pos _ (by decide)
        have hfl3 : (v.fdiv 5).fmod 3 < 3 := Int.fmod_lt_of_pos _ (by decide)
        k_dflt (refine LCg.CompSrc.range (by rfl) (by k_asm) (by k_asm) (by assumption) (small_one (by decide) (by decide) (by omega) (by omega)) (rangeSize_nat _ _) (by rw [sizeLine_eq]; omega) ?_)
        intro gg
        refine rest_of (fun n ys => ∃ xs : List Str, StrsAre ys xs ∧ xs.length = n ∧ ∀ q ∈ xs, q.length = 1) ⟨[], .nil, rfl, fun _ h => nomatch h⟩ ?_ ?_
        · rintro j ys _ I oI C oC D m₂ h2 tk2 E' hj ⟨ts, rfl⟩ ⟨xs, hxs, hxl1, hx1⟩ hC hx F5 N5 off ne
          have hj2 : j = 0 ∨ j = 1 := by omega
          rcases hj2 with rfl | rfl
          · simp only [Int.ofNat_zero, Int.zero_add, Int.natCast_zero] at hx
            k_steps
            exact LCg.CompEnd.intro (by assumption) (by assumption) _ (fun p hp => hp) off trivial ⟨rfl, xs ++ [_], kct_snoc hxs, by simp [hxl1], fun q hq => by
              rcases List.mem_append.mp hq with h9 | h9
              · exact hx1 q h9
              · rw [List.mem_singleton.mp h9]; assumption⟩
          · simp only [Int.zero_add, Int.natCast_one] at hx
            k_steps
            exact LCg.CompEnd.intro (by assumption) (by assumption) _ (fun p hp => hp) off trivial ⟨rfl, xs ++ [_], kct_snoc hxs, by simp [hxl1], fun q hq => by
              rcases List.mem_append.mp hq with h9 | h9
              · exact hx1 q h9
              · rw [List.mem_singleton.mp h9]; assumption⟩
        · rintro ys ⟨xs, hxs, hxl, hx1⟩
          intro D h6 tk6 F6 N6 off1
          have hxl2 : xs.length ≤ 2 := by omega
          have hjs := join_ones (sep := Str.ofString "") rfl xs hx1
          k_steps
          refine Halt.go ?_
          refine join_list ⟨_, (N6 _ (.head _)).1, rfl, _, rfl⟩ hxs (by rw [hjs.2]; show _ + _ * 0 ≤ _; omega) ?_
          intro t7 k7
          have hj1 := hjs.1
          k_steps
          have e1 := beq_true (by assumption)
          subst e1
          have e2 : tki = .gap := gap_of hch
          rw [e2] at hts
          have h8 : ngaps [Tk.gap] = 1 := rfl
          exact InvEndN.intro (by assumption) (by assumption) ⟨.tail _ (.tail _ hD1), _, _, _, _, _, _, rfl, by assumption, rfl, rfl, by rw [hts, ngaps_append, h8]; rfl, by rw [hts, chars_append]; exact Mt.snoc_gap _ hmt, by rw [Str.length_append]; omega,
            fun z z1 z2 z3 => by simp only [if_neg z1, if_neg z2, if_neg z3]⟩ (by rfl) (fun q hq => .tail _ (by
              rcases List.mem_cons.mp hq with rfl | hq
              · exact .head _
              · rcases List.mem_cons.mp hq with rfl | hq
                · exact .tail _ (.head _)
                · exact .tail _ (.tail _ (List.mem_append.mpr (.inl hq))))) (fun q hq => .tail _ (.tail _ (.tail _ (List.mem_append.mpr (.inr hq)))))
    · k_steps
      obtain ⟨c, rfl, hc⟩ := lit_of hch (by assumption)
      have h8 : ngaps [Tk.lit c] = 0 := rfl
      have hy1 : y.length = 1 := by rw [← chars_length, hc]; rfl
      exact InvEndN.intro (by assumption) (by assumption) ⟨.tail _ (.tail _ hD1), _, _, _, _, _, _, rfl, by assumption, rfl, rfl, by rw [hts, ngaps_append, h8]; rfl, by rw [hts, chars_append, hc]; exact Mt.snoc_lit hmt, by rw [Str.length_append]; omega,
        fun z z1 z2 z3 => by simp only [if_neg z1, if_neg z2, if_neg z3]⟩ (by rfl) (fun q hq => List.mem_append.mpr (.inl hq)) (fun q hq => List.mem_append.mpr (.inr hq))
  · rintro m₁ news₁ h tk _ ⟨oc, cv, x, tx, _, tg, rfl, hoc, htx, htg, rfl, hmt, hxl, hm⟩ F₁ N₁
    have e9 : (toks (chars pat)).take (strValues l).length = toks (chars pat) := by
      have h3 := congrArg List.length htk
      rw [List.length_map, List.length_map] at h3
      rw [strValues_length, h3, List.take_length]
    rw [e9] at hmt
    rw [strValues_length] at hxl
    rw [map_one' (m₀ := m₁) htx (fun _ _ => rfl)] at F₁
    k_steps
    exact hret _ _ _ _ (by assumption) (cb_drop (by assumption) (fun p hp => .tail _ (.tail _ hp))) hmt hxl
end Mine
namespace Mine
theorem off_GW : True := by
  w_top off
  trivial
open Builtin Builtin.Str
def itemOf (s0 s1 : Int) (i : Nat) : Int := if i = 0 then s0 else if i = 1 then s1 else 1
def GJ (K : Frag) (p : Program) (loose : List Str) (mean : ExcName → Option Value) (mg mb : Str → Option Value) (h₀ : Heap) (D Lg : Addr) (oD oa : Obj) (It : Addr) (lo : Nat) (s0 s1 : Int) (Tn : Nat) (n : Nat) (s₀ s : Shared) : Prop :=
  ∃ (i : Nat) (oI : Obj) (m : Str → Option Value) (h : Heap) (tk : Nat) (v : Value), s = { s₀ with heap := h, toks := tk } ∧ i + n = Tn ∧ 0 < n ∧ Fr (pre s₀.heap Lg) Lg h m ∧ News (pre s₀.heap Lg) Lg h [(It, oI), (Lg + 1, oa)] ∧ K.In (pre s₀.heap Lg) ∧ Top p loose mean mg mb (pre s₀.heap Lg) ∧
    (∀ b o, h₀.get? b = some o → s₀.heap.get? b = some o) ∧ s₀.heap.get? D = some oD ∧ Lg + 2 ≤ It ∧ m (Str.ofString "last_interval") = some v ∧
    ((lo = 0 ∧ i ≤ 3 ∧ oI.cls = .type "list_iterator" ∧ oI.data = .fields #[.ref D, .int i 0] ∧ ((i = 0 ∧ v = .none) ∨ (0 < i ∧ ∃ t, v = .int (itemOf s0 s1 (i - 1)) t))) ∨ (lo = 1 ∧ 3 ≤ i ∧ ∃ t, v = .int 1 t))
theorem items_at {vs : List Value} {s0 s1 : Int} (hI : IntsAre vs [s0, s1, 1, 0]) (h0 : 1 ≤ s0 ∧ s0 ≤ 3) (h1 : 1 ≤ s1 ∧ s1 ≤ 3) {i : Nat} (hi : i ≤ 3) :
    ∃ z t, vs.toArray[i]? = some (.int z t) ∧ ((i < 3 ∧ z = itemOf s0 s1 i ∧ 1 ≤ z ∧ z ≤ 3) ∨ (i = 3 ∧ z = 0)) := by
  have key : ∀ z, [s0, s1, 1, 0][i]? = some z → ∃ t, vs.toArray[i]? = some (.int z t) := fun z hz => by
    obtain ⟨t, ht⟩ := hI.get i z hz
    exact ⟨t, by simpa using ht⟩
  have hc : i = 0 ∨ i = 1 ∨ i = 2 ∨ i = 3 := by omega
  rcases hc with rfl | rfl | rfl | rfl
  · obtain ⟨t, ht⟩ := key s0 rfl; exact ⟨s0, t, ht, .inl ⟨by decide, rfl, h0⟩⟩
  · obtain ⟨t, ht⟩ := key s1 rfl; exact ⟨s1, t, ht, .inl ⟨by decide, rfl, h1⟩⟩
  · obtain ⟨t, ht⟩ := key 1 rfl; exact ⟨1, t, ht, .inl ⟨by decide, rfl, by decide, by decide⟩⟩
  · obtain ⟨t, ht⟩ := key 0 rfl; exact ⟨0, t, ht, .inr ⟨rfl, rfl⟩⟩
theorem gen_spec {prog p : Program} {loose : List Str} {w : World} {mean : ExcName → Option Value} {mg mb : Str → Option Value} {news : List (Addr × Obj)} {A : Around} {h₀ : Heap} {L D : Addr} {m : Str → Option Value} {s : Shared} {R : Result → Shared → Prop} {vs : List Value} {c₁ : Nat} {s0 s1 : Int}
    (F : Fr h₀ L s.heap m) (X : (hd.heap_39 w.params).In h₀) (N : News h₀ L s.heap news) (T : Top p loose mean mg mb h₀) (hD : (D, listOf vs.toArray c₁) ∈ news) (hI : IntsAre vs [s0, s1, 1, 0])
    (h0 : 1 ≤ s0 ∧ s0 ≤ 3) (h1 : 1 ≤ s1 ∧ s1 ≤ 3) (hroom : A.depth < recursionLimit)
    (h : ∀ h' tk gs Lg nm qn oL, gs.bare = true → Lg = s.heap.objs.size → Fr h₀ L h' m → News h₀ L h' news → h'.get? Lg = some oL → h'.get? (Lg + 1) = some (genObj s.gens.size nm qn) →
      (∀ (A' : Around), A'.handled = none → ∀ (Tn : Nat) (s'' : Shared), (∀ b o, h₀.get? b = some o → s''.heap.get? b = some o) → s''.heap.get? D = some (listOf vs.toArray c₁) → (∀ q ∈ [(Lg, oL), (Lg + 1, genObj s.gens.size nm qn)], s''.heap.get? q.1 = some q.2) →
        gs.Goes (model prog w) A' (fun _ _ _ _ => False) (TellY h₀ D (listOf vs.toArray c₁) Lg (genObj s.gens.size nm qn) (itemOf s0 s1) (Tn + 1)) (Tn + 1) (.send .none) s'') →
      R (.ok (.ret (.ref (Lg + 1)))) { s with heap := h', toks := tk, gens := s.gens.push gs }) :
    codeAny (model prog w) A (.call (.ref 28) ⟨[.ref D], []⟩) R s := by
  k_dflt (refine' code_gen (binds := [(Str.ofString "grouping", .ref D)]) ?k1 ?k2 ?k3 ?k4 ?k5 ?k6 ?k7 ?k8 ?k9 ?kA ?kB ?kC ?kD ?_; (case k2 => assumption); (case k5 => exact rfl); (case k1 => k_asm); (case k3 => k_asm); (case k4 => k_asm); (case k6 => k_is); (case k7 => assumption); (case k8 => exact BindsTo.of_eq rfl); (case k9 => (intro y hy; rw [List.mem_singleton.mp hy]; rfl)); (case kA => decide +kernel); (case kB => exact rfl); (case kC => exact rfl); (case kD => exact rfl); k_whole)
  intro h' tk nm qn Lg hLg F' N' hns hoa hkeep
  obtain ⟨oL, es, ep, hoL, hnsr⟩ := id hns
  have hsz : h₀.objs.size ≤ Lg := by
    have h1 := F.ns.lt
    have h2 := F.above
    rw [hLg]
    exact Nat.le_of_lt (Nat.lt_of_le_of_lt h2 h1)
  have hDL : @LT.lt Nat _ D Lg := by rw [hLg]; exact Heap.lt_size (N _ hD).1
  refine h _ _ _ Lg nm qn oL rfl hLg F' N' hoL hoa ?_
  clear h F' N' hkeep F N hD hroom
  intro A' hA' Tn s'' c1 c2 c3
  have hns'' := Ns_of_get hns hoL (c3 _ (.head _))
  have hoa'' : s''.heap.get? (Lg + 1) = some (genObj s.gens.size nm qn) := c3 _ (.tail _ (.head _))
  refine ⟨rfl, seg_func (seg_step ?_)⟩
  obtain ⟨F, N, X', T'⟩ := seg_start (nx := [(Lg + 1, genObj s.gens.size nm qn)]) X T c1 hsz hns'' (fun q hq => by
    rw [List.mem_singleton.mp hq]; exact ⟨Nat.lt_succ_self _, hoa''⟩)
  have XT : Halt ((hd.heap_39 w.params).In h₀ ∧ Top p loose mean mg mb h₀) := ⟨X, T⟩
  clear X T
  k_steps
  refine Halt.go ⟨rfl, seg_tail (seg_For ?_ (by intro _; rfl))⟩
  k_steps
  have hDh : ∀ (hh : Heap), (∀ b o, (pre s''.heap Lg).get? b = some o → hh.get? b = some o) → hh.IsList D vs.toArray := fun hh hk => ⟨_, hk D _ (by rw [pre_get hDL]; exact c2), rfl, _, rfl⟩
  rename Fr _ _ _ _ => F2
  rename News _ _ _ _ => N2
  refine pyIter_list' (hDh _ F2.keep) ?_
  intro It hh oI hIt hcI hdI hoI hkp
  refine Halt.go fun pp => ?_
  have hIt2 : @LE.le Nat _ (Lg + 2) It := by
    rw [hIt]
    exact Heap.lt_size (N2 _ (.head _)).1
  clear hIt
  refine seg_for_ind (GJ (hd.heap_39 w.params) p loose mean mg mb h₀ D Lg (listOf vs.toArray c₁) (genObj s.gens.size nm qn) It 0 s0 s1 (Tn + 1)) ?_ rfl (by intro _; rfl) _ _ _ ?_
  · clear F2 N2 X' T' hns'' hoa'' c1 c2 c3 hDh hcI hdI hoI hkp oI
    rintro n s₀ s ⟨i, oI, m, h, tk, v, rfl, hin, hn, F, N, X, T, hb, hD, hIt, hv, hlast⟩ ih
    rcases hlast with ⟨_, hi, hcI, hdI, hlast⟩ | ⟨h9, _⟩
    · obtain ⟨z, t, hz, hcase⟩ := items_at hI h0 h1 hi
      have hNI := N _ (.head _)
      refine wpAny_pyNext_list_item (l := D) (i := i) ⟨_, hNI.1, hcI, hdI⟩ ⟨_, F.keep D _ (by rw [pre_get hDL]; exact hD), rfl, _, rfl⟩ hz ?_
      rintro h2 ⟨oI2, hoI2, hcI2, hdI2⟩ hs2
      refine ⟨_, rfl, ?_⟩
      have F2 := F.change hs2 hNI.2.1 hNI.2.2
      have N2 : News (pre s₀.heap Lg) Lg h2 [(It, oI2), (Lg + 1, genObj s.gens.size nm qn)] := by
        intro q hq
        rcases List.mem_cons.mp hq with rfl | hq
        · exact ⟨hoI2, hNI.2⟩
        · rw [List.mem_singleton.mp hq]
          have h9 := N (Lg + 1, genObj s.gens.size nm qn) (.tail _ (.head _))
          exact ⟨(hs2.2 _ (Nat.ne_of_lt (Nat.lt_of_succ_le hIt))).trans h9.1, h9.2⟩
      clear F N hNI hs2 hoI2 hcI hdI
      rw [map_one' (m₀ := m) hv (fun _ _ => rfl)] at F2
      rcases hcase with ⟨hi3, rfl, hz1, hz3⟩ | ⟨rfl, rfl⟩
      · generalize hzz : itemOf s0 s1 i = z at *
        k_steps
        refine Halt.go (seg_step ?_)
        k_steps
        · exfalso; omega
        refine Halt.go ⟨rfl, seg_step ?_⟩
        k_steps
        · exfalso; omega
        refine Halt.go ⟨rfl, ?_⟩
        obtain ⟨n, rfl⟩ : ∃ n', n = n' + 1 := ⟨n - 1, by omega⟩
        refine seg_yields rfl rfl rfl ?_ rfl rfl
        k_steps
        refine Halt.go fun kap hkap => ?_
        rename Fr _ _ _ _ => F4
        rename News _ _ _ _ => N4
        refine tell_of F4 N4 (.head _) (.tail _ (.head _)) hIt (by rw [← hzz]; congr 1; omega) ?_
        intro s2 d1 d2 d3 d4 d5 d6
        refine hkap _ ?_
        obtain ⟨F5, N5, X5, T5⟩ := seg_start (nx := [(It, oI2), (Lg + 1, genObj s.gens.size nm qn)]) (show _ ∧ _ from XT).1 (show _ ∧ _ from XT).2 d1 hsz d3 (fun q hq => by
          rcases List.mem_cons.mp hq with rfl | hq
          · exact ⟨Nat.lt_of_succ_lt (Nat.lt_of_succ_le hIt), d4⟩
          · rw [List.mem_singleton.mp hq]; exact ⟨Nat.lt_succ_self _, d5⟩)
        clear F4 N4 X T
        refine seg_step ?_
        k_steps
        rename Fr _ _ _ _ => F6
        rename News _ _ _ _ => N6
        refine Halt.go ⟨rfl, ih _ _ _ (Nat.lt_succ_self _) ⟨i + 1, oI2, _, _, _, _, rfl, by omega, d6, F6, N6, by assumption, by assumption, d1, d2, hIt, rfl, .inl ⟨rfl, by omega, hcI2, hdI2, .inr ⟨by omega, _, by rw [Nat.add_sub_cancel, hzz]⟩⟩⟩⟩
      · obtain ⟨t2, rfl⟩ : ∃ t2, v = .int 1 t2 := by
          rcases hlast with ⟨h9, _⟩ | ⟨_, t2, h9⟩
          · cases h9
          · exact ⟨t2, h9⟩
        clear hlast
        k_steps
        refine Halt.go (seg_step ?_)
        k_steps
        refine Halt.go ⟨rfl, seg_execs_cons (seg_If ?_)⟩
        k_steps
        refine Halt.go ⟨rfl, seg_step ?_⟩
        k_steps
        refine Halt.go ⟨rfl, seg_tail (seg_While' fun p2 => ?_)⟩
        rename Fr _ _ _ _ => F3
        rename News _ _ _ _ => N3
        refine seg_while_ind (GJ (hd.heap_39 w.params) p loose mean mg mb h₀ D Lg (listOf vs.toArray c₁) (genObj s.gens.size nm qn) It 1 s0 s1 (Tn + 1)) ?_ rfl _ _ _ ⟨3, oI2, _, _, _, _, rfl, hin, hn, F3, N3, X, T, hb, hD, hIt, rfl, .inr ⟨rfl, Nat.le_refl _, _, rfl⟩⟩
        clear F3 N3 hb hD hIt ih
        rintro n s₀ s ⟨i, oI, m, h, tk, v, rfl, hin, hn, F, N, X, T, hb, hD, hIt, hv, hlast⟩ ih
        rcases hlast with ⟨h9, _⟩ | ⟨_, hi3, t3, rfl⟩
        · exact absurd h9 (by decide)
        · rw [map_one' (m₀ := m) hv (fun _ _ => rfl)] at F
          k_steps
          refine Halt.go ⟨rfl, ?_⟩
          obtain ⟨n, rfl⟩ : ∃ n', n = n' + 1 := ⟨n - 1, by omega⟩
          refine seg_yields rfl rfl rfl ?_ rfl rfl
          k_steps
          refine Halt.go fun kap hkap => ?_
          rename Fr _ _ _ _ => F4
          rename News _ _ _ _ => N4
          refine tell_of F4 N4 (.head _) (.tail _ (.head _)) hIt (by unfold itemOf; rw [if_neg (by omega), if_neg (by omega)]) ?_
          intro s2 d1 d2 d3 d4 d5 d6
          refine hkap _ ?_
          obtain ⟨F5, N5, X5, T5⟩ := seg_start (nx := [(It, oI), (Lg + 1, genObj s.gens.size nm qn)]) (show _ ∧ _ from XT).1 (show _ ∧ _ from XT).2 d1 hsz d3 (fun q hq => by
            rcases List.mem_cons.mp hq with rfl | hq
            · exact ⟨Nat.lt_of_succ_lt (Nat.lt_of_succ_le hIt), d4⟩
            · rw [List.mem_singleton.mp hq]; exact ⟨Nat.lt_succ_self _, d5⟩)
          exact ih _ _ _ (Nat.lt_succ_self _) ⟨i + 1, oI, _, _, _, _, rfl, by omega, d6, F5, N5, X5, T5, d1, d2, hIt, rfl, .inr ⟨rfl, by omega, _, rfl⟩⟩
    · exact absurd h9 (by decide)
  · refine ⟨0, oI, _, _, _, .none, rfl, by omega, by omega, ⟨F2.ns.at' fun o e => hkp _ _ e, fun b o e => hkp _ _ (F2.keep b o e), F2.above⟩, ?_, by assumption, by assumption, c1, c2, hIt2, rfl, .inl ⟨rfl, by omega, hcI, hdI, .inl ⟨rfl, rfl⟩⟩⟩
    intro q hq
    rcases List.mem_cons.mp hq with rfl | hq
    · exact ⟨hoI, Ne.symm (Nat.ne_of_lt (Nat.lt_of_succ_lt (Nat.lt_of_succ_le hIt2))), pre_none (Nat.le_of_lt (Nat.lt_of_succ_lt (Nat.lt_of_succ_le hIt2)))⟩
    · rw [List.mem_singleton.mp hq]
      have h9 := N2 _ (.head _)
      exact ⟨hkp _ _ h9.1, h9.2⟩
end Mine
namespace Mine
theorem off_WW : True := by
  w_top off
  trivial
open Builtin Builtin.Str
local macro_rules | `(tactic| k_all) => `(tactic| exact allNe (by assumption))
local macro_rules | `(tactic| k_all) => `(tactic| exact ltNe (by assumption))
local macro_rules | `(tactic| k_all) => `(tactic| assumption)
local macro_rules | `(tactic| walk_at "exec For Name Call cons nil") => `(tactic| (k_here; refine Halt.of ?_))
local macro_rules | `(tactic| walk_at "call ref") => `(tactic| (k_here; refine Halt.of ?_))
local macro_rules | `(tactic| walk_at "exec While Compare cons nil") => `(tactic| (k_here; refine Halt.of ?_))
local macro_rules | `(tactic| walk_at "call builtin:len") => `(tactic| (k_here; (with_reducible show wpAny _ _ (call (Value.builtin "len") [Value.str _ _]) _ _ _); (refine P.len_str ?kz ?_); (case kz => omega)))
def del (x : List Nat) (i n : Nat) : List Nat := x.take i ++ x.drop (i + n)
def WhPost (pat text : Str) (news : List (Addr × Obj)) (h₀ : Heap) (L : Addr) (m : Str → Option Value) (s : Shared) (Q : Value → Shared → Prop) : Prop :=
  AllBare s.gens ∧ ∀ x t h' tk' gens', AllBare gens' → Fr h₀ L h' m → News h₀ L h' news → ematch pat x = true → (∀ i y, i < x.length → chars y = del (chars x) i 1 → ematch pat y = false) → x.length ≤ text.length → Q (.str x t) { s with heap := h', toks := tk', gens := gens' }
theorem no_of {h₀ h : Heap} {L Lg : Addr} {m : Str → Option Value} (F : Fr h₀ L h m) (hLL : @LT.lt Nat _ L Lg) : ∀ b, @LE.le Nat _ Lg b → h₀.get? b = none := fun b hb => by
  cases e : h₀.get? b with
  | none => rfl
  | some o => exact absurd (Nat.lt_trans (Nat.lt_of_lt_of_le (Heap.lt_size e) F.above) hLL) (Nat.not_lt.mpr hb)
theorem map_self2 {x y : Str} {m : Str → Option Value} {u v : Value} (hx : m x = some u) (hy : m y = some v) : m = fun z => if z = x then some u else if z = y then some v else m z := by
  funext z
  by_cases h1 : z = x
  · subst h1; simp [hx]
  · by_cases h2 : z = y
    · subst h2; simp [h1, hy]
    · simp [h1, h2]
theorem map_self5 {a b c d e : Str} {m : Str → Option Value} {va vb vc vd ve : Value} (ha : m a = some va) (hb : m b = some vb) (hc : m c = some vc) (hd : m d = some vd) (he : m e = some ve) :
    m = fun z => if z = a then some va else if z = b then some vb else if z = c then some vc else if z = d then some vd else if z = e then some ve else m z := by
  funext z
  by_cases h1 : z = a
  · subst h1; simp [ha]
  · by_cases h2 : z = b
    · subst h2; simp [h1, hb]
    · by_cases h3 : z = c
      · subst h3; simp [h1, h2, hc]
      · by_cases h4 : z = d
        · subst h4; simp [h1, h2, h3, hd]
        · by_cases h5 : z = e
          · subst h5; simp [h1, h2, h3, h4, he]
          · simp [h1, h2, h3, h4, h5]
def CutJ (pat x : Str) (tp tx : Tok) (sz : Int) (t : Tok) (led : List (Addr × Obj)) (n : Nat) (m : Str → Option Value) (nx : List (Addr × Obj)) : Prop :=
  ∃ (y : Str) (ty : Tok) (place : Nat) (pI : Int) (tk : Tok), nx = led ∧ m (Str.ofString "pattern") = some (.str pat tp) ∧ m (Str.ofString "before") = some (.str x tx) ∧ m (Str.ofString "size") = some (.int sz t) ∧
    m (Str.ofString "text") = some (.str y ty) ∧ m (Str.ofString "place") = some (.int pI tk) ∧ pI = (place : Int) ∧ place ≤ y.length + 3 ∧ n = 2 * y.length + 3 - place ∧ ematch pat y = true ∧ y.length ≤ x.length ∧
    ((y = x ∧ (sz = 1 → ∀ i z, i < place → chars z = del (chars y) i 1 → ematch pat z = false)) ∨ y.length < x.length)
theorem item_range {s0 s1 : Int} (h0 : 1 ≤ s0 ∧ s0 ≤ 3) (h1 : 1 ≤ s1 ∧ s1 ≤ 3) (i : Nat) : 1 ≤ itemOf s0 s1 i ∧ itemOf s0 s1 i ≤ 3 ∧ (2 ≤ i → itemOf s0 s1 i = 1) := by
  unfold itemOf
  by_cases h2 : i = 0
  · rw [if_pos h2]; exact ⟨h0.1, h0.2, fun h => by omega⟩
  · rw [if_neg h2]
    by_cases h3 : i = 1
    · rw [if_pos h3]; exact ⟨h1.1, h1.2, fun h => by omega⟩
    · rw [if_neg h3]; exact ⟨by decide, by decide, fun _ => rfl⟩
def WhJ (pat text : Str) (tp : Tok) (k i : Nat) (m : Str → Option Value) : Prop :=
  ∃ x tx, m (Str.ofString "pattern") = some (.str pat tp) ∧ m (Str.ofString "text") = some (.str x tx) ∧ ematch pat x = true ∧ x.length ≤ text.length ∧ k = (2 - i) + x.length + 1
theorem del_len (x : List Nat) (i n : Nat) (hi : i < x.length) (hn : 1 ≤ n) : (del x i n).length < x.length ∧ i ≤ (del x i n).length := by
  unfold del
  rw [List.length_append, List.length_take, List.length_drop]
  omega
theorem whittled_spec {prog p : Program} {loose : List Str} {w : World} {mean : ExcName → Option Value} {mg mb : Str → Option Value} {news : List (Addr × Obj)} (pat text : Str) (tp tt : Tok) (D : Addr) (c₁ : Nat) (vs : List Value) (s0 s1 : Int) :
    DefClaim prog w (hd.heap_39 w.params) p loose mean mg mb 50 news 3 16
      ((D, listOf vs.toArray c₁) ∈ news ∧ IntsAre vs [s0, s1, 1, 0] ∧ (1 ≤ s0 ∧ s0 ≤ 3) ∧ (1 ≤ s1 ∧ s1 ≤ 3) ∧ pat.length ≤ 100 ∧ text.length ≤ 100 ∧ ematch pat text = true) [.str pat tp, .str text tt, .ref D]
      (WhPost pat text news) := by
  intro dp un gd cn cs a ccd cl outer A₀ base h₀ L m s Q E B F X N T hk hpre hd hu hret
  obtain ⟨hD, hI, hs0, hs1, hp100, ht100, hem⟩ := hpre
  obtain ⟨hbare, hret⟩ := hret
  refine wpAny_call ?_
  k_dflt cell_enter
  k_steps
  refine Halt.go ?_
  refine wpAny_For ?_ (by intro _; rfl)
  k_steps
  refine Halt.go ?_
  refine wpAny_call ?_
  rename Fr _ _ _ _ => F1
  rename News _ _ _ _ => N1
  refine gen_spec F1 (by k_asm) N1 (by k_asm) hD hI hs0 hs1 (by ktr_room) ?_
  intro h1 tk1 gs Lg nm qn oL hgb hLg F2 N2 hoL hoa hgo
  refine wpAny_pyIter_gen ⟨_, nm, qn, hoa, rfl, rfl, rfl⟩ ?_
  have hLL := F1.ns.lt
  rw [← hLg] at hLL
  have hnL : ∀ q ∈ news, q.1 < Lg := fun q hq => by rw [hLg]; exact Heap.lt_size (N1 q hq).1
  have hno := no_of F1 hLL
  refine codeAny_forLoop_gen (Lg := Lg) (keep := [(Lg, oL), (Lg + 1, genObj s.gens.size nm qn)]) (item := itemOf s0 s1) (k₀ := 2 + text.length + 1) rfl rfl (by passes_own) F2 N2 hD ?_ ?_ hnL hLL (.tail _ (.head _)) ⟨nm, qn, rfl, rfl, rfl⟩ (Array.getElem?_push_size ..) (hbare.push hgb) (by ktr_room) (by exact Top.nolimit (by k_asm)) ?_ (WhJ pat text tp) ⟨text, tt, rfl, rfl, hem, Nat.le_refl _, rfl⟩ ?_
  · intro q hq
    rcases List.mem_cons.mp hq with rfl | hq
    · exact ⟨hoL, Nat.ne_of_gt hLL, hno _ (Nat.le_refl _)⟩
    · rw [List.mem_singleton.mp hq]; exact ⟨hoa, Nat.ne_of_gt (Nat.lt_succ_of_lt hLL), hno _ (Nat.le_succ _)⟩
  · intro q hq b hb
    obtain ⟨r, hr, rfl⟩ := List.mem_map.mp hb
    have h9 := hnL r hr
    rcases List.mem_cons.mp hq with rfl | hq
    · exact Nat.ne_of_gt h9
    · rw [List.mem_singleton.mp hq]; exact Nat.ne_of_gt (Nat.lt_succ_of_lt h9)
  · intro s'' c1 c2 c3
    exact hgo _ rfl _ s'' c1 c2 c3
  · rintro k i m₁ h tk gens t own ⟨x, tx, hpt, htx, hem, hxl, rfl⟩ hab hoff F N
    clear F1 N1 F2 N2 hgo hoa hoL hbare
    rw [map_self2 hpt htx] at F
    obtain ⟨hz1, hz3, hz2⟩ := item_range hs0 hs1 i
    generalize itemOf s0 s1 i = szI at *
    obtain ⟨sz, rfl⟩ : ∃ k : Nat, szI = (k : Int) := ⟨szI.toNat, by omega⟩
    k_steps
    refine Halt.go ?_
    rename Fr _ _ _ (fun y => if y = "before" then _ else _) => F3
    rename News _ _ _ (_ :: _) => N3
    refine While_inv2 (n₀ := 2 * x.length + 3) (CutJ pat x tp tx (sz : Int) t _) F3 N3 ⟨x, _, 0, _, _, rfl, rfl, rfl, rfl, rfl, rfl, rfl, by omega, by omega, hem, Nat.le_refl _, .inl ⟨rfl, fun _ i z hi => absurd hi (Nat.not_lt_zero _)⟩⟩ ?_
    clear F3 N3 F N
    rintro n m₂ nx h₂ tk₂ F N ⟨y, ty, place, _, tkp, rfl, hm1, hm2, hm3, hm4, hm5, rfl, hpl, rfl, hey, hyx, hinv⟩
    rw [map_self5 hm1 hm2 hm3 hm4 hm5] at F
    k_steps
    · refine Halt.go ?_
      have hzc : chars (Txt.slice y none (some (place : Int)) ++ Txt.slice y (some ((place : Int) + (sz : Int))) none) = del (chars y) place sz := by
        rw [chars_append, slice_chars_to, ← Int.natCast_add, slice_chars_from]
        rfl
      generalize Txt.slice y none (some (place : Int)) ++ Txt.slice y (some ((place : Int) + (sz : Int))) none = z at *
      rename (place : Int) < (y.length : Int) => hplt
      have hdl := del_len (chars y) place sz (by rw [chars_length]; omega) (by omega)
      rw [← hzc, chars_length, chars_length] at hdl
      have hCb := fun nws tz => match_spec (prog := prog) (p := p) (loose := loose) (w := w) (mean := mean) (mg := mg) (mb := mb) (news := nws) pat z tp tz
      dsimp only [CbClaim, CbLists, CbRet] at hCb
      refine' hCb _ _ _ _ _ _ _ _ _ _ _ _ _ _ _ _ _ _ _ ?k1 ?k2 ?k3 ?k4 ?k5 ?kK ?kp ?kd ?ku ?kR
      case k1 => k_asm
      case k2 => k_asm
      case k3 => k_asm
      case k4 => k_asm
      case k5 => k_asm
      case kK => first | exact rfl | assumption
      case kp => exact ⟨hp100, by omega⟩
      case kd => ktr_room
      case ku => ktr_units
      case kR =>
        intro t9 h9 tk9 F9 N9
        clear hCb
        k_steps
        · exact ⟨_, _, _, _, 2 * z.length + 3 - place, rfl, by assumption, by assumption, by omega, z, _, place, _, _, rfl, rfl, rfl, rfl, rfl, rfl, rfl, by omega, rfl, by assumption, by omega, .inr (by omega)⟩
        · refine ⟨_, _, _, _, 2 * y.length + 3 - (place + sz), rfl, by assumption, by assumption, by omega, y, ty, place + sz, _, _, rfl, rfl, rfl, rfl, rfl, rfl, by omega, by omega, rfl, hey, hyx, ?_⟩
          rcases hinv with ⟨e, hinv⟩ | h8
          · refine .inl ⟨e, fun h1 j z' hj hz' => ?_⟩
            by_cases hjp : j < place
            · exact hinv h1 j z' hjp hz'
            · have e1 : sz = 1 := by omega
              have e2 : j = place := by omega
              rw [e2] at hz'
              rw [e1] at hzc
              have e3 : z' = z := chars_inj (hz'.trans hzc.symm)
              rw [e3]; assumption
          · exact .inr h8
    · exact hret _ _ _ _ _ hab (by assumption) (cb_drop (by assumption) (fun p hp => .tail _ (List.mem_append.mpr (.inl hp)))) hey (by
        intro j z hj hz
        have e := beq_iff_eq.mp (show (y == x) = true by assumption)
        rcases hinv with ⟨_, hinv⟩ | hinv
        · exact hinv (by assumption) j z (by omega) hz
        · rw [e] at hinv; exact absurd hinv (Nat.lt_irrefl _)) (by omega)
    · have hne : y ≠ x := by
        have e : (y == x) = false := by assumption
        intro h9; rw [h9] at e; exact absurd e (by simp)
      have hlt : y.length < x.length := by
        rcases hinv with ⟨h9, _⟩ | h9
        · exact absurd h9 hne
        · exact h9
      exact InvEndN.intro F N ⟨rfl, _, by omega, y, ty, rfl, rfl, hey, by omega, rfl⟩ (by rfl) (fun q hq => .tail _ (List.mem_append.mpr (.inl hq))) (fun q hq => .tail _ (List.mem_append.mpr (.inr hq)))
    · exact InvEndN.intro F N ⟨rfl, _, by omega, y, ty, rfl, rfl, hey, by omega, rfl⟩ (by rfl) (fun q hq => .tail _ (List.mem_append.mpr (.inl hq))) (fun q hq => .tail _ (List.mem_append.mpr (.inr hq)))
end Mine
namespace Mine
theorem off_DW : True := by
  w_top off
  trivial
open Builtin Builtin.Str
local macro_rules | `(tactic| k_all) => `(tactic| exact allNe (by assumption))
local macro_rules | `(tactic| k_all) => `(tactic| exact ltNe (by assumption))
local macro_rules | `(tactic| k_all) => `(tactic| assumption)
local macro_rules | `(tactic| walk_at "call ref") => `(tactic| (k_here; refine Halt.of ?_))
local macro_rules | `(tactic| walk_at "pyIter ref") => `(tactic| (k_here; refine Halt.of ?_))
local macro_rules | `(tactic| walk_at "eval ListComp") => `(tactic| (k_here; refine Halt.of ?_))
local macro_rules | `(tactic| walk_at "inplaceOp Add ref ref") => `(tactic| (k_here; refine Halt.of ?_))
local macro_rules | `(tactic| walk_at "exec For Name Call cons nil") => `(tactic| (k_here; (rename Fr _ _ _ _ => lF'); (with_unfolding_all refine' For_invVF lF' ?k1 ?k2 ?_; (case k1 => exact rfl); (case k2 => exact rfl); k_whole)))
local macro_rules | `(tactic| walk_at "call builtin:len") => `(tactic| (k_here; (with_reducible show wpAny _ _ (call (Value.builtin "len") [Value.str _ _]) _ _ _); (refine P.len_str ?kz ?_); (case kz => omega)))
def numOf (c : Nat) : Int := if c = 44 then 12 else if c = 59 then 13 else 23
def insAt (x : List Nat) (p : Nat) : List Nat := x.take p ++ 126 :: x.drop p
def toldRow (g : Nat → Bool) (cs : List Nat) : Nat → List Int
  | 0 => []
  | n + 1 => toldRow g cs n ++ ((if g n = true then [52] else []) ++ ((cs[n]?).map numOf).toList)
theorem map_zero {x : Str} {m₁ m₀ : Str → Option Value} {v : Option Value} (hm : ∀ z, z ≠ x → m₁ z = m₀ z) : (fun z => if z = x then v else m₁ z) = fun z => if z = x then v else m₀ z := by
  funext z
  by_cases h1 : z = x
  · simp [h1]
  · simp only [if_neg h1]; exact hm z h1
theorem appNe {D : Addr} {o : Obj} {news own : List (Addr × Obj)} (h : ∀ p, p ∈ news → p.1 < D) (hoff : OwnOff own (((D, o) :: news).map (·.1))) : ∀ q ∈ news ++ own, q.1 ≠ D := by
  intro q hq
  rcases List.mem_append.mp hq with h5 | h5
  · exact Nat.ne_of_lt (h q h5)
  · exact hoff q h5 _ (.head _)
def ToldJ (D : Addr) (g : Nat → Bool) (cs : List Nat) (news : List (Addr × Obj)) (m₀ : Str → Option Value) (i : Nat) (m : Str → Option Value) (nx : List (Addr × Obj)) : Prop :=
  ∃ ys c, nx = (D, listOf ys.toArray c) :: news ∧ IntsAre ys (toldRow g cs i) ∧ ys.length ≤ 2 * i ∧ ∀ z, z ≠ Str.ofString "place" → m z = m₀ z
theorem push_vals {ys : List Value} {v : Value} : ys.toArray.push v = (ys ++ [v]).toArray := by simp
theorem take_one_at (l : List Nat) (i : Nat) : (l.drop i).take 1 = (l[i]?).toList := by
  rw [← List.head?_drop]
  cases l.drop i <;> rfl
theorem toList_map (o : Option Nat) : o.toList.map numOf = (o.map numOf).toList := by cases o <;> rfl
theorem map_one'' {x : Str} {m₁ m₀ : Str → Option Value} (hm : ∀ z, z ≠ x → m₁ z = m₀ z) : m₁ = fun z => if z = x then m₁ x else m₀ z := by
  funext z
  by_cases h1 : z = x
  · simp [h1]
  · simp only [if_neg h1]; exact hm z h1
theorem told_spec {prog p : Program} {loose : List Str} {w : World} {mean : ExcName → Option Value} {mg mb : Str → Option Value} {news : List (Addr × Obj)} (pat core : Str) (t u : Tok) :
    DefClaim prog w (hd.heap_39 w.params) p loose mean mg mb 55 news 3 16 (pat.length ≤ 100 ∧ core.length ≤ 50 ∧ Sg (chars core)) [.str pat t, .str core u]
      (fun h₀ L m s Q => ∀ D ys n h' tk', Fr h₀ L h' m → News h₀ L h' ((D, listOf ys.toArray n) :: news) → (∀ p ∈ news, p.1 < D) →
        IntsAre ys (toldRow (fun i => ematch pat ⟨(insAt (chars core) i).toArray⟩) (chars core) (core.length + 1)) → Q (.ref D) { s with heap := h', toks := tk' }) := by
  intro dp un gd cn cs a ccd cl outer A₀ base h₀ L m s Q E B F X N T hk hpre hd hu hret
  obtain ⟨hp100, hc50, hsg⟩ := hpre
  refine wpAny_call ?_
  k_dflt cell_enter
  k_steps
  refine Halt.go ?_
  rename (∀ p, p ∈ news → p.1 < _) => hltD
  refine iter_rng (ToldJ _ (fun i => ematch pat ⟨(insAt (chars core) i).toArray⟩) (chars core) news _) (n := core.length + 1) rfl (by assumption) (small_one (by decide) (by decide) (by omega) (by omega)) (rangeSize_nat _ _) (by assumption) (by assumption) ⟨[], 0, rfl, .nil, Nat.le_refl _, fun _ _ => rfl⟩ ?_ ?_
  · rintro i ti m₁ news₁ h tk own hi _ hoff ⟨ys, c, rfl, hys, hyl, hm⟩ F₁ N₁
    rw [map_zero hm] at F₁
    simp only [Int.zero_add] at F₁
    k_steps
    refine Halt.go ?_
    have hzc : chars (Txt.slice core none (some (i : Int)) ++ Str.ofString "~" ++ Txt.slice core (some (i : Int)) none) = insAt (chars core) i := by
      rw [chars_append, chars_append, slice_chars_to, slice_chars_from, List.append_assoc]
      rfl
    generalize Txt.slice core none (some (i : Int)) ++ Str.ofString "~" ++ Txt.slice core (some (i : Int)) none = z at *
    have hze : z = ⟨(insAt (chars core) i).toArray⟩ := chars_inj hzc
    have hzl : z.length ≤ 51 := by
      rw [← chars_length, hzc]
      unfold insAt
      rw [List.length_append, List.length_cons, List.length_take, List.length_drop, chars_length]
      omega
    have hCb := fun nws tz => match_spec (prog := prog) (p := p) (loose := loose) (w := w) (mean := mean) (mg := mg) (mb := mb) (news := nws) pat z t tz
    dsimp only [CbClaim, CbLists, CbRet] at hCb
    refine' hCb _ _ _ _ _ _ _ _ _ _ _ _ _ _ _ _ _ _ _ ?k1 ?k2 ?k3 ?k4 ?k5 ?kK ?kp ?kd ?ku ?kR
    case k1 => k_asm
    case k2 => k_asm
    case k3 => k_asm
    case k4 => k_asm
    case k5 => k_asm
    case kK => first | exact rfl | assumption
    case kp => exact ⟨hp100, by omega⟩
    case kd => ktr_room
    case ku => ktr_units
    case kR =>
      intro t9 h9 tk9 F9 N9
      clear hCb
      have hCa := appNe hltD hoff
      simp only [List.cons_append] at N9
      have hg : ((if ematch pat z = true then [52] else []) : List Int) = (if (fun i => ematch pat ⟨(insAt (chars core) i).toArray⟩) i = true then [52] else []) := by rw [hze]
      k_steps
      all_goals rename Fr _ _ _ _ => F3
      all_goals rename News _ _ _ _ => N3
      rename ematch pat z = true => he
      rw [if_pos he] at hg
      rw [push_vals] at N3
      have hys1 := hys.append (IntsAre.cons 52 tk9 .nil)
      rw [hg] at hys1
      have hyl1 : (ys ++ [Value.int 52 tk9]).length ≤ 2 * i + 1 := by rw [List.length_append, List.length_singleton]; omega
      clear hys hyl
      generalize ys ++ [Value.int 52 tk9] = ys1 at N3 hys1 hyl1
      generalize c + 1 = c1 at N3
      rotate_left
      rename ematch pat z = false => he
      rw [if_neg (by rw [he]; simp)] at hg
      have hys1 := hys.append (IntsAre.nil)
      rw [hg, List.append_nil] at hys1
      have hyl1 : ys.length ≤ 2 * i + 1 := by omega
      clear hys hyl
      generalize ys = ys1 at N3 hys1 hyl1
      rotate_left
      all_goals
        refine Halt.go ?_
        k_dflt (refine ListComp_S (F₀ := by k_asm) (by with_unfolding_all rfl) (by decide) (by rfl) (by decide) (by rfl) ?_)
        k_steps
        refine Halt.go ?_
        have hyc : chars (Txt.slice core (some (i : Int)) (some ((i : Int) + 1))) = ((chars core).drop i).take 1 := by
          have e := slice_chars core i (i + 1) (by omega)
          rw [Int.natCast_add] at e
          rw [show ((1 : Nat) : Int) = 1 from rfl] at e
          rw [e]
          congr 1; omega
        generalize Txt.slice core (some (i : Int)) (some ((i : Int) + 1)) = y at *
        have hyln : y.length ≤ 1 := by rw [← chars_length, hyc, List.length_take]; omega
        refine ⟨y, _, _, rfl, rfl, by assumption, by assumption, by rw [sizeLine_eq]; omega, ?_⟩
        rintro _ ⟨hh, rfl⟩
        refine rest_of (fun n zs => IntsAre zs (((chars y).take n).map numOf)) .nil ?_ ?_
        · rintro j zs v I oI C oC D m₂ h2 tk2 E' hj ⟨cc, uc, hcc, rfl⟩ hzs hC hx F5 N5 off ne
          have hmem : (chars y)[j]? = some cc := by rw [← hcc]; exact Array.getElem?_toList
          have hsc : cc = 44 ∨ cc = 46 ∨ cc = 59 := by
            have h7 := List.mem_of_getElem? hmem
            rw [hyc] at h7
            exact hsg cc (List.mem_of_mem_drop (List.mem_of_mem_take h7))
          rcases hsc with rfl | rfl | rfl
          all_goals
            k_steps
            exact LCg.CompEnd.intro (by assumption) (by assumption) _ (fun p hp => hp) off trivial ⟨rfl, by
              rw [List.take_add_one, hmem, List.map_append]
              exact hzs.append (IntsAre.cons _ _ .nil)⟩
        · rintro zs hzs
          have hzsl : zs.length ≤ 1 := by
            have h7 := hzs.length
            rw [List.length_map, List.length_take] at h7
            have h8 := chars_length y
            omega
          rw [List.take_of_length_le (by rw [chars_length]; exact Nat.le_refl _)] at hzs
          intro D2 h6 tk6 F6 N6 off1
          k_steps
          refine Halt.go ?_
          refine iadd_K F6 N6 (.head _) (by omega) [_] _ rfl (fun q hq => by rw [List.mem_singleton.mp hq]; exact Ne.symm off1.1) hCa ?_
          intro h7 n7 F7 N7
          k_steps
          refine InvEndN.intro (by assumption) (by assumption) ⟨ys1 ++ zs, n7, rfl, ?_, ?_, ?_⟩ (by rfl) (fun q hq => .tail _ (by
            rcases List.mem_cons.mp hq with rfl | hq
            · exact .head _
            · exact .tail _ (List.mem_append.mpr (.inl hq)))) (fun q hq => .tail _ (.tail _ (List.mem_append.mpr (.inr hq))))
          · have h8 := hys1.append hzs
            rw [hyc, take_one_at, List.append_assoc] at h8
            show IntsAre _ (toldRow _ _ i ++ (_ ++ _))
            rw [← toList_map]
            exact h8
          · rw [List.length_append]; omega
          · intro z' hz'
            by_cases hr : z' = Str.ofString "row"
            · subst hr; rfl
            · simp only [hr, hz', if_false]
  · rintro m₁ news₁ h tk ⟨ys, c, rfl, hys, hyl, hm⟩ F₁ N₁
    rw [map_one'' hm] at F₁
    k_steps
    exact hret _ _ _ _ _ (by assumption) (by assumption) hltD hys
end Mine
namespace Mine
open Builtin Builtin.Str
/-! the rows, with no program in sight -/
def numT : Tk → Int
  | .lit c => numOf c
  | .gap => 52
def sq : Bool → List Tk → List Int
  | _, [] => []
  | b, .gap :: ts => (if b = true then [] else [52]) ++ sq true ts
  | _, .lit c :: ts => numOf c :: sq false ts
theorem numOf_ne (c : Nat) : numOf c ≠ 52 := by
  unfold numOf
  by_cases h : c = 44
  · rw [if_pos h]; decide
  · rw [if_neg h]
    by_cases h2 : c = 59
    · rw [if_pos h2]; decide
    · rw [if_neg h2]; decide
theorem toldRow_cons (g : Nat → Bool) (c : Nat) (cs : List Nat) : ∀ n, toldRow g (c :: cs) (n + 1) = ((if g 0 = true then [52] else []) ++ [numOf c]) ++ toldRow (fun p => g (p + 1)) cs n
  | 0 => by simp [toldRow]
  | n + 1 => by
    rw [toldRow, toldRow_cons g c cs n, toldRow]
    simp only [List.getElem?_cons_succ, List.append_assoc]
theorem toldRow_congr {g g' : Nat → Bool} {cs : List Nat} : ∀ {n : Nat}, (∀ i, i < n → g i = g' i) → toldRow g cs n = toldRow g' cs n
  | 0, _ => rfl
  | n + 1, h => by rw [toldRow, toldRow, h n (by omega), toldRow_congr fun i hi => h i (by omega)]
theorem row_sq : ∀ (ts : List Tk) (b : Bool) (g : Nat → Bool), (∀ p, g p = ((b && p == 0) || gapAt ts p)) → toldRow g (lits ts) ((lits ts).length + 1) = (if b = true then [52] else []) ++ sq b ts
  | [], b, g, hg => by
    have h0 := hg 0
    cases b <;> simp [gapAt] at h0 <;> simp [toldRow, lits, sq, h0]
  | .gap :: ts, b, g, hg => by
    have ih := row_sq ts true g fun p => by
      rw [hg p]
      cases b <;> cases hp : (p == 0) <;> simp [gapAt, hp]
    show toldRow g (lits ts) ((lits ts).length + 1) = _
    rw [ih]
    cases b <;> simp [sq]
  | .lit c :: ts, b, g, hg => by
    have ih := row_sq ts false (fun p => g (p + 1)) fun p => by
      show g (p + 1) = _
      rw [hg (p + 1)]
      simp [gapAt]
    show toldRow g (c :: lits ts) ((c :: lits ts).length + 1) = _
    rw [List.length_cons, toldRow_cons, ih]
    have h0 := hg 0
    cases b <;> simp [gapAt] at h0 <;> simp [sq, h0]
theorem row_told (ts : List Tk) : toldRow (gapAt ts) (lits ts) ((lits ts).length + 1) = sq false ts := by
  rw [row_sq ts false (gapAt ts) fun p => by simp]
  rfl
def keepAt (ns : List Int) (n : Nat) : Bool := (ns[n]? != some 52) || ((ns.take n).drop ((ns.take n).length - 1) != [52])
def wantAt (ns : List Int) : Nat → List Int
  | 0 => []
  | n + 1 => wantAt ns n ++ if keepAt ns n = true then (ns[n]?).toList else []
theorem want_keep1 {ns : List Int} {i : Nat} {n : Int} (hn : ns[i]? = some n) (h : n ≠ 52) : wantAt ns (i + 1) = wantAt ns i ++ [n] := by
  have hk : keepAt ns i = true := by rw [keepAt, hn]; simp [h]
  rw [wantAt, if_pos hk, hn]
  rfl
theorem want_keep2 {ns : List Int} {i : Nat} {n : Int} (hn : ns[i]? = some n) (h : (ns.take i).drop ((ns.take i).length - 1) ≠ [52]) : wantAt ns (i + 1) = wantAt ns i ++ [n] := by
  have hk : keepAt ns i = true := by rw [keepAt, bne_iff_ne.mpr h, Bool.or_true]
  rw [wantAt, if_pos hk, hn]
  rfl
theorem want_drop {ns : List Int} {i : Nat} (hn : ns[i]? = some 52) (h : (ns.take i).drop ((ns.take i).length - 1) = [52]) : wantAt ns (i + 1) = wantAt ns i := by
  have hk : keepAt ns i = false := by rw [keepAt, hn, h]; rfl
  rw [wantAt, if_neg (by rw [hk]; simp), List.append_nil]
def lastGap : List Tk → Bool
  | [] => false
  | [.gap] => true
  | [.lit _] => false
  | _ :: a :: r => lastGap (a :: r)
theorem lastGap_snoc (t : Tk) : ∀ (pre : List Tk), lastGap (pre ++ [t]) = match t with | .gap => true | .lit _ => false
  | [] => by cases t <;> rfl
  | [a] => by cases a <;> cases t <;> rfl
  | a :: b :: r => by
    have := lastGap_snoc t (b :: r)
    show lastGap (a :: b :: (r ++ [t])) = _
    rw [lastGap]
    exact this
    all_goals (intro; simp)
theorem lastGap_drop : ∀ (pre : List Tk), ((pre.map numT).drop ((pre.map numT).length - 1) != [52]) = !lastGap pre
  | [] => rfl
  | [.gap] => rfl
  | [.lit c] => by
    have := numOf_ne c
    simp [lastGap, numT, this]
  | a :: b :: r => by
    have ih := lastGap_drop (b :: r)
    simp only [List.map_cons, List.length_cons, Nat.add_sub_cancel] at ih ⊢
    rw [List.drop_succ_cons]
    rw [ih, lastGap]
    all_goals (intro; simp)
theorem want_sq : ∀ (ts pre : List Tk), wantAt ((pre ++ ts).map numT) (pre ++ ts).length = wantAt ((pre ++ ts).map numT) pre.length ++ sq (lastGap pre) ts
  | [], pre => by simp [sq]
  | t :: ts, pre => by
    have ih := want_sq ts (pre ++ [t])
    rw [List.append_assoc, List.singleton_append] at ih
    rw [ih, List.length_append, List.length_singleton, wantAt, List.append_assoc]
    congr 1
    have hg : ((pre ++ t :: ts).map numT)[pre.length]? = some (numT t) := by simp
    have ht : ((pre ++ t :: ts).map numT).take pre.length = pre.map numT := by
      rw [← List.map_take, List.take_left']
      rfl
    rw [keepAt, hg, ht, lastGap_drop, lastGap_snoc]
    cases t with
    | gap => cases lastGap pre <;> rfl
    | lit c =>
      have := numOf_ne c
      simp [numT, sq, this]
theorem row_want (ts : List Tk) : wantAt (ts.map numT) ts.length = sq false ts := want_sq ts []
theorem del_erase (x : List Nat) (i : Nat) : del x i 1 = x.eraseIdx i := by rw [List.eraseIdx_eq_take_drop_succ]; rfl
theorem core_lits {pat x : Str} (h : ematch pat x = true) (h2 : ∀ i y, i < x.length → chars y = del (chars x) i 1 → ematch pat y = false) : chars x = lits (toks (chars pat)) := by
  rcases (ematch_iff.mp h).least with e | ⟨i, hi, hm⟩
  · exact e
  · rw [chars_length] at hi
    have h3 := h2 i ⟨(del (chars x) i 1).toArray⟩ hi (by simp [chars])
    have h4 : ematch pat ⟨(del (chars x) i 1).toArray⟩ = true := ematch_iff.mpr (by simpa [chars, del_erase] using hm)
    rw [h3] at h4
    cases h4
theorem lits_len (ts : List Tk) : (lits ts).length ≤ ts.length := by
  induction ts with
  | nil => exact Nat.le_refl _
  | cons a ts ih => cases a <;> simp only [lits, List.length_cons] <;> omega
theorem core_len {pat x : Str} (h : chars x = lits (toks (chars pat))) : x.length ≤ pat.length := by
  rw [← chars_length x, ← chars_length pat, h]
  exact Nat.le_trans (lits_len _) (toks_length _)
theorem core_sg {pat x : Str} (h : chars x = lits (toks (chars pat))) (hs : Sg (chars pat)) : Sg (chars x) := by
  intro c hc
  rw [h] at hc
  exact toks_chars _ hs c (lits_chars hc)
theorem row_eq {pat x : Str} (h : chars x = lits (toks (chars pat))) (hs : Sg (chars pat)) :
    toldRow (fun i => ematch pat ⟨(insAt (chars x) i).toArray⟩) (chars x) (x.length + 1) = wantAt ((toks (chars pat)).map numT) (toks (chars pat)).length := by
  rw [row_want, ← row_told, ← chars_length, ← h]
  have hz : 126 ∉ lits (toks (chars pat)) := by
    intro h9
    rw [← h] at h9
    have := core_sg h hs _ h9
    omega
  refine toldRow_congr fun i hi => ?_
  rw [Bool.eq_iff_iff, ematch_iff]
  refine Iff.trans ?_ (put_iff hz (p := i) (by rw [← h]; omega))
  rw [← h]
  show Mt _ (insAt (chars x) i).toArray.toList ↔ _
  exact Iff.rfl
theorem tok_cases {pat y : Str} {tki : Tk} {j : Nat} (hs : Sg (chars pat)) (hj : (toks (chars pat))[j]? = some tki) (hy : chars y = tki.txt) :
    (y = Str.ofString "..." ∧ numT tki = 52) ∨ (y = Str.ofString "," ∧ numT tki = 12) ∨ (y = Str.ofString ";" ∧ numT tki = 13) ∨ (y = Str.ofString "." ∧ numT tki = 23) := by
  have hmem := List.mem_of_getElem? hj
  cases tki with
  | gap => exact .inl ⟨chars_inj (hy.trans (by decide +kernel)), rfl⟩
  | lit c =>
    rcases toks_chars _ hs c hmem with rfl | rfl | rfl
    · exact .inr (.inl ⟨chars_inj (hy.trans (by decide +kernel)), by decide⟩)
    · exact .inr (.inr (.inr ⟨chars_inj (hy.trans (by decide +kernel)), by decide⟩))
    · exact .inr (.inr (.inl ⟨chars_inj (hy.trans (by decide +kernel)), by decide⟩))
theorem self_match (pat : Str) : ematch pat pat = true := by
  rw [ematch_iff]
  have := Mt.self (toks (chars pat))
  rwa [toks_txt] at this
end Mine
namespace Mine
open Builtin Builtin.Str PySem.Calls PyProof.Rows.LCg
section
variable {prog : Program} {w : World} {A : Around} {E : Value → Shared → Prop} {s : Shared} {h₀ : Heap} {L : Addr} {m : Str → Option Value} {env : Env}
/-- the end of a turn that leaves what the ledger holds as it was -/
def EEnd (h₀ : Heap) (L : Addr) (m : Str → Option Value) (s₁ : Shared) (Z : List (Addr × Obj)) (P : Prop) (s₂ : Shared) : Prop :=
  ∃ h' tk, s₂ = { s₁ with heap := h', toks := tk } ∧ Fr h₀ L h' m ∧ News h₀ L h' Z ∧ P
theorem EEnd.intro {s₁ : Shared} {Z all : List (Addr × Obj)} {P : Prop} {h' : Heap} {tk : Nat} (F : Fr h₀ L h' m) (N : News h₀ L h' all) (sub : ∀ p ∈ Z, p ∈ all) (hp : P) : EEnd h₀ L m s₁ Z P { s₁ with heap := h', toks := tk } :=
  ⟨h', tk, rfl, F, fun p hp => N p (sub p hp), hp⟩
def ETurn (prog : Program) (w : World) (A : Around) (h₀ : Heap) (L : Addr) (m : Str → Option Value) (env : Env) (c elt : PySem.Expr) (a b : Str) (scope : Scope) (cl : List (Str × Addr)) (s : Shared) (vs : List Value) (news : List (Addr × Obj)) (J : Nat → List Value → Prop) : Prop :=
  ∀ (i : Nat) (v : Value) (ys : List Value) (t : Tok) (e : Addr) oe (it : Addr) oi C oC D m₂ h tk (E' : Value → Shared → Prop), vs[i]? = some v → J i ys → NsObj oC m₂ → m₂ a = some (.int (i : Int) t) → m₂ b = some v → Fr h₀ L h m →
    News h₀ L h ((e, oe) :: (it, oi) :: (C, oC) :: (D, lst ys) :: news) →
    wpAny (model prog w) A (isTrue c (compEnvC scope cl C env) (eval c (compEnvC scope cl C env))) (fun okb s₃ => if okb = true then
        wpAny (model prog w) A (eval elt (compEnvC scope cl C env)) (fun y => EEnd h₀ L m { s with heap := h, toks := tk } ((e, oe) :: (it, oi) :: (C, oC) :: (D, lst ys) :: news) (J (i + 1) (ys ++ [y]))) E' s₃
        else EEnd h₀ L m { s with heap := h, toks := tk } ((e, oe) :: (it, oi) :: (C, oC) :: (D, lst ys) :: news) (J (i + 1) ys) s₃) E' { s with heap := h, toks := tk }
theorem block_E {elt iter c : PySem.Expr} {a b : Str} {pa pb tp : Pos} {kk : Nat} {scope : Scope} {cl : List (Str × Addr)} {pos : Pos} {s₂ : Shared} {e it l : Addr} {lo : Obj} {vs : List Value} {n0 : Nat} {news : List (Addr × Obj)}
    {J : Nat → List Value → Prop} {RR : Value → Addr → Result → Shared → Prop}
    (hh : A.handled = none) (hsz : vs.length ≤ sizeLine) (hen : IsEnum s₂.heap e it 0 .none) (hit : s₂.heap.IsListIter it l 0) (hm : (l, lo) ∈ news) (hc : lo.cls = .type "list") (hd : lo.data = .seq vs.toArray n0)
    (hcell : ∀ y ∈ scope.names, y.2 ≠ .cell) (hkind : scope.kind = .function) (hxa : scope.names.lookup a = some .local) (hxb : scope.names.lookup b = some .local) (hab : ¬ a = b)
    (F : Fr h₀ L s₂.heap m) (N : News h₀ L s₂.heap news) (hei : e ≠ it) (heL : L ≠ e) (hiL : L ≠ it) (he₀ : h₀.get? e = none) (hi₀ : h₀.get? it = none) (off : ∀ p ∈ news, p.1 ≠ e ∧ p.1 ≠ it)
    (hJ : J 0 []) (turn : ETurn prog w A h₀ L m env c elt a b scope cl s₂ vs news J)
    (hRR : ∀ D C h tk m' ys, Fr h₀ L h m → News h₀ L h ((D, lst ys) :: news) → (∀ p ∈ news, p.1 ≠ D) → h.Ns C m' → h₀.get? C = none → h₀.get? D = none → C ≠ L → D ≠ L → C ≠ D → (∀ p ∈ news, p.1 ≠ C) → J vs.length ys → RR (.ref D) C (.ok .next) { s₂ with heap := h, toks := tk }) :
    wpAny (model prog w) A (newList []) (fun acc s₃ => wpAny (model prog w) A (newFunctionEnv scope env.globals cl [] env.qual none .none (some env)) (fun cenv s₄ =>
      codeAny (model prog w) A (.compStart (.ListComp elt [⟨.Tuple [.Name a pa, .Name b pb] kk tp, iter, [c], 0⟩] scope pos) 0 (.ref e) acc { cenv with scope := relabel scope env }) (RR acc cenv.locals) s₄) E s₃) E s₂ := by
  refine wpAny_newObj_type (wpAny_newFunctionEnv hcell (by intro y hy; simp at hy) (fun h₁ hns₁ hsb₁ => ?_) hkind)
  dsimp only at hns₁ hsb₁ ⊢
  generalize hH2 : s₂.heap.push { cls := .type "list", dict := none, data := .seq ([] : List Value).toArray } = H2 at hns₁ hsb₁ ⊢
  have hC : H2.objs.size = s₂.heap.objs.size + 1 := by rw [← hH2, Heap.size_push]
  have hDC : s₂.heap.objs.size ≠ H2.objs.size := by rw [hC]; exact Nat.ne_of_lt (Nat.lt_succ_self _)
  have below : ∀ b, b < s₂.heap.objs.size → b ≠ H2.objs.size ∧ b ≠ s₂.heap.objs.size := fun b hb => ⟨by rw [hC]; exact Nat.ne_of_lt (Nat.lt_succ_of_lt hb), Nat.ne_of_lt hb⟩
  have helt : e < s₂.heap.objs.size := Heap.lt_size hen
  have hilt : it < s₂.heap.objs.size := by obtain ⟨_, x, _⟩ := hit; exact Heap.lt_size x
  have old : ∀ b o, s₂.heap.get? b = some o → h₁.get? b = some o := fun b o q => hsb₁.extBut b o (below b (Heap.lt_size q)).1 (Heap.get?_push_of_some _ (hH2 ▸ Heap.get?_push_of_some _ q))
  have hacc : h₁.get? s₂.heap.objs.size = some (lst []) := hsb₁.extBut _ _ hDC (Heap.get?_push_of_some _ (hH2 ▸ Heap.get?_push_size _ rfl))
  have hen₁ : IsEnum h₁ e it 0 .none := old _ _ hen
  have hit₁ : h₁.IsListIter it l 0 := hit.at fun o q => old _ o q
  have fresh : ∀ a, s₂.heap.objs.size ≤ a → s₂.heap.get? a = none := fun a ha => by
    cases q : s₂.heap.get? a with
    | none => rfl
    | some o' => exact absurd (Heap.lt_size q) (Nat.not_lt.mpr ha)
  have fresh₀ : ∀ a, s₂.heap.objs.size ≤ a → h₀.get? a = none := fun a ha => by
    cases q : h₀.get? a with
    | none => rfl
    | some o' => have := F.keep a o' q; rw [fresh a ha] at this; cases this
  have hD₀ : h₀.get? s₂.heap.objs.size = none := fresh₀ _ (Nat.le_refl _)
  have hC₀ : h₀.get? H2.objs.size = none := fresh₀ _ (by rw [hC]; exact Nat.le_succ _)
  have hLlt : L < s₂.heap.objs.size := F.ns.lt
  have hDL : s₂.heap.objs.size ≠ L := Ne.symm (below L hLlt).2
  have hCL : H2.objs.size ≠ L := Ne.symm (below L hLlt).1
  have hCe : e ≠ H2.objs.size := (below e helt).1
  have hDe : e ≠ s₂.heap.objs.size := (below e helt).2
  have hCi : it ≠ H2.objs.size := (below it hilt).1
  have hDi : it ≠ s₂.heap.objs.size := (below it hilt).2
  have offC : ∀ p ∈ news, p.1 ≠ H2.objs.size := fun p hp => (below _ (Heap.lt_size (N p hp).1)).1
  have offD : ∀ p ∈ news, p.1 ≠ s₂.heap.objs.size := fun p hp => (below _ (Heap.lt_size (N p hp).1)).2
  have W := KTurns.ofWalksU (elts := [.Name a pa, .Name b pb]) (k := kk) (pos := tp) (WalksT.enumerate (prog := prog) (w := w) hh e it l hei (off _ hm).1 (off _ hm).2 vs.toArray).toU
  have notwr : ∀ {c : Addr}, c ≠ e → c ≠ it → c ∉ [e, it] := fun h1 h2 q => by
    rcases List.mem_cons.mp q with q | q
    · exact h1 q
    · rcases List.mem_cons.mp q with q | q
      · exact h2 q
      · cases q
  have isl : ∀ {h : Heap} {own : List (Addr × Obj)}, News h₀ L h (own ++ news) → h.IsList l vs.toArray := fun N => ⟨lo, (N _ (List.mem_append_right _ hm)).1, hc, n0, hd⟩
  have loop : ∀ s₃ : Shared, s₃ = { s₂ with heap := h₁, toks := s₂.toks + ([] : List (Str × Value)).length } →
      codeAny (model prog w) A (.compLoop (.ListComp elt [⟨.Tuple [.Name a pa, .Name b pb] kk tp, iter, [c], 0⟩] scope pos) 0 (.ref e) (.ref s₂.heap.objs.size) (compEnvC scope cl H2.objs.size env))
        (RR (.ref s₂.heap.objs.size) H2.objs.size) s₃ := by
    rintro s₃ rfl
    refine kct_loop
      (fun k s' => ∃ h' tk i ys m', s' = { s₂ with heap := h', toks := tk } ∧ i ≤ vs.length ∧ k = vs.length + 1 - i ∧ ys.length ≤ i ∧ (∃ old, IsEnum h' e it ((i : Nat) : Int) old) ∧ h'.IsListIter it l i ∧ Fr h₀ L h' m ∧ h'.Ns H2.objs.size m' ∧
        News h₀ L h' ([(s₂.heap.objs.size, lst ys)] ++ news) ∧ J i ys) ?_ (vs.length + 1)
      ⟨h₁, _, 0, [], _, rfl, Nat.zero_le _, rfl, Nat.le_refl _, ⟨_, hen₁⟩, hit₁, F.keeps old, hns₁, fun p hp => ?_, hJ⟩
    · rintro k s' ⟨h', tk, i, ys, m', rfl, hi, rfl, hyl, hen', hit', F', hn', N', hJ'⟩
      have offN : ∀ p ∈ [(s₂.heap.objs.size, lst ys)] ++ news, p.1 ≠ e ∧ p.1 ≠ it ∧ p.1 ≠ H2.objs.size := fun p hp => by
        rcases List.mem_cons.mp hp with rfl | hp
        · exact ⟨Ne.symm hDe, Ne.symm hDi, hDC⟩
        · exact ⟨(off p hp).1, (off p hp).2, offC p hp⟩
      by_cases hlt : i < vs.length
      · refine W.item i _ _ _ (by rw [List.size_toArray]; exact hlt) ⟨hen', hit', isl N'⟩ fun v h₂ tk₂ hMd hk₂ => ?_
        refine W.go i v _ _ _ hMd fun h₃ hP hst₃ hk₃ => ?_
        obtain ⟨T, vals, rfl, ⟨t, x, hx, rfl⟩, hT⟩ := hP
        have up₃ : ∀ c o, c ≠ e → c ≠ it → h'.get? c = some o → h₃.get? c = some o := fun c o h1 h2 q => hk₃ c o (notwr h1 h2) (hk₂ c o (notwr h1 h2) q)
        refine kcp_assign (env := compEnvC scope cl H2.objs.size env) hh hT (lookup_relabel_local hxa) (lookup_relabel_local hxb) (by simp [compEnvC, relabel, hkind]) (hn'.at' fun o q => up₃ _ o (Ne.symm hCe) (Ne.symm hCi) q) fun h₄ tk₄ hn₄ hs₄ => ?_
        have up : ∀ c o, c ≠ e → c ≠ it → c ≠ H2.objs.size → h'.get? c = some o → h₄.get? c = some o := fun c o h1 h2 h3 q => hs₄ c o h3 (up₃ c o h1 h2 q)
        obtain ⟨⟨old₃, hen₃⟩, hit₃, _⟩ := hst₃
        have hen₄ : IsEnum h₄ e it ((i + 1 : Nat) : Int) old₃ := hs₄ e _ hCe hen₃
        obtain ⟨oe, hee, hoe⟩ : ∃ oe : Obj, h₄.get? e = some oe ∧ ∀ h : Heap, h.get? e = some oe → IsEnum h e it ((i + 1 : Nat) : Int) old₃ := ⟨_, hen₄, fun _ q => q⟩
        obtain ⟨oi, hei₃, hoi⟩ : ∃ oi : Obj, h₄.get? it = some oi ∧ ∀ h : Heap, h.get? it = some oi → h.IsListIter it l (i + 1) := by
          obtain ⟨oi, q, r⟩ := hit₃
          exact ⟨oi, hs₄ it _ hCi q, fun _ q' => ⟨oi, q', r⟩⟩
        obtain ⟨oC, heC, hoC⟩ := ns_obj hn₄
        have F₄ : Fr h₀ L h₄ m := ⟨F'.ns.at' fun o q => up _ o heL hiL (Ne.symm hCL) q, fun c o q => up c o (fun r => by rw [r, he₀] at q; cases q) (fun r => by rw [r, hi₀] at q; cases q) (fun r => by rw [r, hC₀] at q; cases q) (F'.keep c o q), F'.above⟩
        have N₄ : News h₀ L h₄ ((e, oe) :: (it, oi) :: (H2.objs.size, oC) :: (s₂.heap.objs.size, lst ys) :: news) := fun q hq => by
          rcases List.mem_cons.mp hq with rfl | hq
          · exact ⟨hee, Ne.symm heL, he₀⟩
          rcases List.mem_cons.mp hq with rfl | hq
          · exact ⟨hei₃, Ne.symm hiL, hi₀⟩
          rcases List.mem_cons.mp hq with rfl | hq
          · exact ⟨heC, hCL, hC₀⟩
          have z := N' q hq
          exact ⟨up _ _ (offN q hq).1 (offN q hq).2.1 (offN q hq).2.2 z.1, z.2⟩
        have fin : ∀ (ys' : List Value) (h₅ : Heap) (tk₅ : Nat), ys'.length ≤ i + 1 → Fr h₀ L h₅ m → News h₀ L h₅ ((e, oe) :: (it, oi) :: (H2.objs.size, oC) :: (s₂.heap.objs.size, lst ys') :: news) → J (i + 1) ys' →
            ∃ q', q' < vs.length + 1 - i ∧ (∃ h' tk i ys m', ({ s₂ with heap := h₅, toks := tk₅ } : Shared) = { s₂ with heap := h', toks := tk } ∧ i ≤ vs.length ∧ q' = vs.length + 1 - i ∧ ys.length ≤ i ∧ (∃ old, IsEnum h' e it ((i : Nat) : Int) old) ∧ h'.IsListIter it l i ∧ Fr h₀ L h' m ∧ h'.Ns H2.objs.size m' ∧
        News h₀ L h' ([(s₂.heap.objs.size, lst ys)] ++ news) ∧ J i ys) := by
          intro ys' h₅ tk₅ hl F₅ N₅ hJ₅
          have zE := (N₅ (e, oe) List.mem_cons_self).1
          have zI := (N₅ (it, oi) (List.mem_cons_of_mem _ List.mem_cons_self)).1
          have zC := (N₅ (H2.objs.size, oC) (List.mem_cons_of_mem _ (List.mem_cons_of_mem _ List.mem_cons_self))).1
          exact ⟨vs.length + 1 - (i + 1), by omega, h₅, tk₅, i + 1, ys', _, rfl, hlt, rfl, hl, ⟨_, hoe h₅ zE⟩, hoi h₅ zI, F₅, hoC.ns zC, fun q hq => N₅ q (List.mem_cons_of_mem _ (List.mem_cons_of_mem _ (List.mem_cons_of_mem _ hq))), hJ₅⟩
        refine wpAny_mono (turn i x ys t e oe it oi H2.objs.size oC s₂.heap.objs.size _ h₄ _ _ (by simpa using hx) hJ' hoC (by simp [hab]) (by simp) F₄ N₄) (fun okb s₅ h₅ => ?_) fun _ _ q => q
        cases okb with
        | false =>
          simp only [Bool.false_eq_true, if_false] at h₅ ⊢
          obtain ⟨h₅, tk₅, rfl, F₅, N₅, hJ₅⟩ := h₅
          exact fin ys h₅ tk₅ (Nat.le_succ_of_le hyl) F₅ N₅ hJ₅
        | true =>
          simp only [if_true] at h₅ ⊢
          refine wpAny_mono h₅ (fun y s₆ h₆ => ?_) fun _ _ q => q
          obtain ⟨h₅, tk₅, rfl, F₅, N₅, hJ₅⟩ := h₆
          have zE := (N₅ (e, oe) List.mem_cons_self).1
          have zI := (N₅ (it, oi) (List.mem_cons_of_mem _ List.mem_cons_self)).1
          have zC := (N₅ (H2.objs.size, oC) (List.mem_cons_of_mem _ (List.mem_cons_of_mem _ List.mem_cons_self))).1
          have zD := (N₅ (s₂.heap.objs.size, lst ys) (List.mem_cons_of_mem _ (List.mem_cons_of_mem _ (List.mem_cons_of_mem _ List.mem_cons_self)))).1
          have N₅' : News h₀ L h₅ news := fun q hq => N₅ q (List.mem_cons_of_mem _ (List.mem_cons_of_mem _ (List.mem_cons_of_mem _ (List.mem_cons_of_mem _ hq))))
          refine append_at (hsz := by show ys.toArray.size ≤ sizeLine; rw [List.size_toArray]; exact Nat.le_trans hyl (Nat.le_trans hi hsz)) zD fun h₆ hs₆ hD₆ => ?_
          refine fin (ys ++ [y]) h₆ _ (by rw [List.length_append, List.length_singleton]; exact Nat.succ_le_succ hyl) (F₅.change hs₆ hDL hD₀) (fun q hq => ?_) hJ₅
          rcases List.mem_cons.mp hq with rfl | hq
          · exact ⟨hs₆.extBut e oe hDe zE, Ne.symm heL, he₀⟩
          rcases List.mem_cons.mp hq with rfl | hq
          · exact ⟨hs₆.extBut it oi hDi zI, Ne.symm hiL, hi₀⟩
          rcases List.mem_cons.mp hq with rfl | hq
          · exact ⟨hs₆.extBut _ oC (Ne.symm hDC) zC, hCL, hC₀⟩
          rcases List.mem_cons.mp hq with rfl | hq
          · exact ⟨hD₆.trans (congrArg some (lst_snoc ys y)), hDL, hD₀⟩
          · exact ⟨hs₆.extBut _ _ (offD q hq) (N₅' q hq).1, (N₅' q hq).2⟩
      · have hin : i = vs.length := Nat.le_antisymm hi (Nat.not_lt.mp hlt)
        subst hin
        refine W.done _ _ _ (by rw [List.size_toArray]; exact ⟨hen', hit', isl N'⟩) fun h₂ tk₂ hk₂ => ?_
        have up : ∀ c o, c ≠ e → c ≠ it → h'.get? c = some o → h₂.get? c = some o := fun c o h1 h2 q => hk₂ c o (notwr h1 h2) q
        exact hRR _ _ h₂ tk₂ _ ys ⟨F'.ns.at' fun o q => up _ o heL hiL q, fun c o q => up c o (fun r => by rw [r, he₀] at q; cases q) (fun r => by rw [r, hi₀] at q; cases q) (F'.keep c o q), F'.above⟩
          (fun p hp => ⟨up _ _ (offN p hp).1 (offN p hp).2.1 (N' p hp).1, (N' p hp).2⟩) offD (hn'.at' fun o q => up _ o (Ne.symm hCe) (Ne.symm hCi) q) hC₀ hD₀ hCL hDL (Ne.symm hDC) offC hJ'
    · rcases List.mem_cons.mp hp with rfl | hp
      · exact ⟨hacc, hDL, hD₀⟩
      · exact ⟨old _ _ (N p hp).1, (N p hp).2⟩
  exact codeAny_compStart_list (loop _ rfl) (wpAny_pyIter_enum hen₁ (loop _ rfl))
/-- what a list display over the numbered items of a list asks for, once its source is made -/
def ESrc (prog : Program) (w : World) (A : Around) (h₀ : Heap) (L : Addr) (m : Str → Option Value) (env : Env) (c elt : PySem.Expr) (a b : Str) (scope : Scope) (cl : List (Str × Addr)) (Fin : Shared → Addr → List Value → List (Addr × Obj) → Prop) (xv : Value) (s₁ : Shared) : Prop :=
  ∃ (e it l : Addr) (lo : Obj) (vs : List Value) (n0 : Nat) (news : List (Addr × Obj)) (J : Nat → List Value → Prop), xv = .ref e ∧ A.handled = none ∧ Fr h₀ L s₁.heap m ∧ News h₀ L s₁.heap news ∧ vs.length ≤ sizeLine ∧
    IsEnum s₁.heap e it 0 .none ∧ s₁.heap.IsListIter it l 0 ∧ (l, lo) ∈ news ∧ lo.cls = .type "list" ∧ lo.data = .seq vs.toArray n0 ∧ e ≠ it ∧ L ≠ e ∧ L ≠ it ∧ h₀.get? e = none ∧ h₀.get? it = none ∧ (∀ p ∈ news, p.1 ≠ e ∧ p.1 ≠ it) ∧
    J 0 [] ∧ ETurn prog w A h₀ L m env c elt a b scope cl s₁ vs news J ∧ ∀ D ys, J vs.length ys → (∀ p ∈ news, p.1 ≠ D) → Fin s₁ D ys news
theorem Assign_E {elt iter c : PySem.Expr} {a b y : Str} {pa pb tp py : Pos} {kk : Nat} {scope : Scope} {cl : List (Str × Addr)} {pos spos : Pos} {Q : Flow → Shared → Prop} (F₀ : Fr h₀ L s.heap m) (hLe : env.locals = L)
    (hsw : swapsWith (.ListComp elt [⟨.Tuple [.Name a pa, .Name b pb] kk tp, iter, [c], 0⟩] scope pos) (some (.Name y py)) spos.line env = pure true)
    (hclos : closureFor scope env = pure cl) (hcell : ∀ z ∈ scope.names, z.2 ≠ .cell) (hkind : scope.kind = .function)
    (hnames : ∀ z ∈ scope.names, z.2 = .local → scope.names.lookup z.1 = some .local) (hxa : scope.names.lookup a = some .local) (hxb : scope.names.lookup b = some .local) (hab : ¬ a = b)
    (hy : env.kindOf y = some .local) (hp : (env.scope.kind == .class || (env.scope.kind == .module && env.locals != env.globals)) = false)
    (h : wpAny (model prog w) A (eval iter env) (fun xv s₁ => Halt (ESrc prog w A h₀ L m env c elt a b scope cl (fun s₂ D ys news => ∀ h tk, Fr h₀ L h (fun z => if z = y then some (.ref D) else m z) → News h₀ L h ((D, lst ys) :: news) → Q .next { s₂ with heap := h, toks := tk }) xv s₁)) E s)
    (hs : ∀ x, foldedSetIterable iter env x = pure x := by intro _; rfl) :
    wpAny (model prog w) A (exec (.Assign [.Name y py] (.ListComp elt [⟨.Tuple [.Name a pa, .Name b pb] kk tp, iter, [c], 0⟩] scope pos) spos) env) Q E s := by
  subst hLe
  rw [exec_Assign_Name_used _ _ _ _ hsw]
  refine wpAny_bind (wpAny_standAt (wpAny_bind ?_))
  show wpAny _ A (do let _ ← comprehension (.ListComp elt [⟨.Tuple [.Name a pa, .Name b pb] kk tp, iter, [c], 0⟩] scope pos) scope env _ (newList []) false (eval iter env) (some (assign (.Name y py) env))) _ _ s
  refine wpAny_bind (wpAny_mono (wpAny_comprehension_free (use := some (assign (.Name y py) env)) (Q := fun _ s' => Q .next s') rfl hs hclos hkind hnames
    (wpAny_mono h (fun xv s₁ h₁ => ?_) fun _ _ e => e)) (fun _ s' hq => wpAny_pure (wpAny_pure hq)) fun _ _ e => e)
  obtain ⟨e, it, l, lo, vs, n0, news, J, rfl, hh, F, N, hsz, hen, hit, hm, hc, hd, hei, heL, hiL, he₀, hi₀, off, hJ, turn, fin⟩ := h₁
  refine wpAny_pyIter_enum hen ?_
  refine block_E hh hsz hen hit hm hc hd hcell hkind hxa hxb hab F N hei heL hiL he₀ hi₀ off hJ turn ?_
  intro D C h' tk m' ys F' N' offD hn hC₀ hD₀ hCL hDL hCD offC hJ'
  show wpAny _ A (assign (.Name y py) env (.ref D)) _ _ _
  refine wpAny_assign_Name (wpAny_storeName_local hy F'.ns (fun h₂ hn₂ hs₂ => ?_) hp)
  have hL₀ : h₀.get? env.locals = none := Heap.get?_none_of_le F'.above
  have F₂ : Fr h₀ env.locals h₂ (fun z => if z = y then some (.ref D) else m z) := ⟨hn₂, fun b o e => hs₂.extBut b o (fun q => by rw [q, hL₀] at e; cases e) (F'.keep b o e), F'.above⟩
  refine ⟨m', hn.sameBut hs₂ hCL, fun h'' hs'' => fin D ys hJ' offD h'' _ (F₂.change hs'' hCL hC₀) (fun p hp => ?_)⟩
  have z : h₂.get? p.1 = some p.2 := hs₂.extBut _ _ (N' p hp).2.1 (N' p hp).1
  refine ⟨hs''.extBut _ _ ?_ z, (N' p hp).2⟩
  rcases List.mem_cons.mp hp with rfl | hp
  · exact Ne.symm hCD
  · exact offC p hp
theorem call_enum_K {l : Addr} {lo : Obj} {vs : List Value} {n0 : Nat} {news : List (Addr × Obj)} {Q : Value → Shared → Prop} (F : Fr h₀ L s.heap m) (N : News h₀ L s.heap news) (hm : (l, lo) ∈ news) (hc : lo.cls = .type "list") (hd : lo.data = .seq vs.toArray n0)
    (h : ∀ (e it : Addr) h', IsEnum h' e it 0 .none → h'.IsListIter it l 0 → e ≠ it → L ≠ e → L ≠ it → h₀.get? e = none → h₀.get? it = none → (∀ p ∈ news, p.1 ≠ e ∧ p.1 ≠ it) → Fr h₀ L h' m → News h₀ L h' news → Q (.ref e) { s with heap := h' }) :
    wpAny (model prog w) A (call (.type "enumerate") [.ref l]) Q E s := by
  have hax := N _ hm
  have hl : s.heap.IsList l vs.toArray := ⟨lo, hax.1, hc, n0, hd⟩
  have hLs : L < s.heap.objs.size := F.ns.lt
  have fresh₀ : ∀ a, s.heap.objs.size ≤ a → h₀.get? a = none := fun a ha => by
    cases q : h₀.get? a with
    | none => rfl
    | some o' => exact absurd (Heap.lt_size (F.keep a o' q)) (Nat.not_lt.mpr ha)
  refine call_enumerate_list hl fun h' hE hI hsz hk => ?_
  refine h _ _ h' hE hI (Nat.succ_ne_self _) (Nat.ne_of_lt (Nat.lt_succ_of_lt hLs)) (Nat.ne_of_lt hLs) (fresh₀ _ (Nat.le_succ _)) (fresh₀ _ (Nat.le_refl _)) (fun p hp => ?_) (F.keeps hk) (N.grown hk)
  have := Heap.lt_size (N p hp).1
  exact ⟨Nat.ne_of_lt (Nat.lt_succ_of_lt this), Nat.ne_of_lt this⟩
end
end Mine
namespace Mine
open Builtin Builtin.Str PySem.Calls
section
variable {prog : Program} {w : World} {A : Around} {E : Value → Shared → Prop} {s : Shared} {h₀ : Heap} {L : Addr} {env : Env}
/-- the end of a turn after which the suspended generators may be others -/
def GEnd (h₀ : Heap) (L : Addr) (m : Str → Option Value) (s₁ : Shared) (Z : List (Addr × Obj)) (s₂ : Shared) : Prop :=
  ∃ h' tk gens, s₂ = { s₁ with heap := h', toks := tk, gens := gens } ∧ AllBare gens ∧ Fr h₀ L h' m ∧ News h₀ L h' Z
theorem GEnd.intro {m : Str → Option Value} {s₁ : Shared} {Z all : List (Addr × Obj)} {h' : Heap} {tk : Nat} {gens : Array GenState} (hb : AllBare gens) (F : Fr h₀ L h' m) (N : News h₀ L h' all) (sub : ∀ p ∈ Z, p ∈ all) : GEnd h₀ L m s₁ Z { s₁ with heap := h', toks := tk, gens := gens } :=
  ⟨h', tk, gens, rfl, hb, F, fun p hp => N p (sub p hp)⟩
def GPost (h₀ : Heap) (L : Addr) (m : Str → Option Value) (s₁ : Shared) (Z : List (Addr × Obj)) (Q : Flow → Shared → Prop) (f : Flow) (s₂ : Shared) : Prop :=
  match f with
  | .ret v => Q (.ret v) s₂
  | .brk => Q .next s₂
  | _ => GEnd h₀ L m s₁ Z s₂
def GSrc (prog : Program) (w : World) (A : Around) (h₀ : Heap) (L : Addr) (env : Env) (x : Str) (body : List Stmt) (Q : Flow → Shared → Prop) (E : Value → Shared → Prop) (xv : Value) (s₁ : Shared) : Prop :=
  ∃ (l : Addr) (lo : Obj) (vs : List Value) (n0 : Nat) (m : Str → Option Value) (news : List (Addr × Obj)), xv = .ref l ∧ A.handled = none ∧ Fr h₀ L s₁.heap m ∧ News h₀ L s₁.heap news ∧ (l, lo) ∈ news ∧ lo.cls = .type "tuple" ∧ lo.data = .seq vs.toArray n0 ∧ AllBare s₁.gens ∧
    (∀ (i : Nat) (v : Value) h tk gens (I : Addr) (oI : Obj), vs[i]? = some v → AllBare gens → Fr h₀ L h (fun z => if z = x then some v else m z) → News h₀ L h ((I, oI) :: news) →
      wpAny (model prog w) A (execs body env) (GPost h₀ L (fun z => if z = x then some v else m z) s₁ ((I, oI) :: news) Q) E { s₁ with heap := h, toks := tk, gens := gens }) ∧
    (∀ h tk gens m', AllBare gens → (∀ z, z ≠ x → m' z = m z) → Fr h₀ L h m' → News h₀ L h news → Q .next { s₁ with heap := h, toks := tk, gens := gens })
theorem For_tupG {Q : Flow → Shared → Prop} {iter : Expr} {x : Str} {px pos : Pos} {body : List Stmt} (hLe : env.locals = L) (hx : env.kindOf x = some .local) (hp : (env.scope.kind == .class || (env.scope.kind == .module && env.locals != env.globals)) = false)
    (hE : PassesOwn (model prog w) A env E) (h : wpAny (model prog w) A (eval iter env) (fun xv s₁ => Halt (GSrc prog w A h₀ L env x body Q E xv s₁)) E s)
    (hs : ∀ x, foldedSetIterable iter env x = pure x := by intro _; rfl) :
    wpAny (model prog w) A (exec (.For (.Name x px) iter body [] pos) env) Q E s := by
  subst hLe
  refine wpAny_For (wpAny_mono h (fun xv s₁ h₁ => ?_) fun _ _ e => e) hs
  obtain ⟨l, lo, vs, n0, m, news, rfl, hh, F, N, hm, hc, hd, hb, turn, done⟩ := h₁
  have hls : s₁.heap.IsTuple l vs.toArray := ⟨lo, (N _ hm).1, hc, n0, hd⟩
  have hlt : l < s₁.heap.objs.size := Heap.lt_size (N _ hm).1
  have hLs : env.locals < s₁.heap.objs.size := F.ns.lt
  refine wpAny_pyIter_tuple hls ?_
  generalize hI : s₁.heap.objs.size = I at *
  have hIL : I ≠ env.locals := Nat.ne_of_gt hLs
  have hI₀ : h₀.get? I = none := by
    cases q : h₀.get? I with
    | none => rfl
    | some o' => exact absurd (Heap.lt_size (F.keep I o' q)) (by rw [hI]; exact Nat.lt_irrefl _)
  have off : ∀ p ∈ news, p.1 ≠ I := fun p hp => Nat.ne_of_lt (by rw [← hI]; exact Heap.lt_size (N p hp).1)
  have W := Walks.tuple (prog := prog) (w := w) hh I l (off _ hm) vs.toArray
  generalize hH : s₁.heap.push { cls := .type "tuple_iterator", data := .fields #[.ref l, .int 0 0] } = H at *
  have up : ∀ b o, s₁.heap.get? b = some o → H.get? b = some o := fun b o e => hH ▸ Heap.get?_push_of_some _ e
  have hit : H.IsTupleIter I l 0 := ⟨_, by rw [← hH, ← hI]; exact Heap.get?_push_size _ rfl, rfl, rfl⟩
  have isl : ∀ {h : Heap}, News h₀ env.locals h news → h.IsTuple l vs.toArray := fun N => ⟨lo, (N _ hm).1, hc, n0, hd⟩
  refine codeAny_forLoop
    (fun k s' => ∃ i h' tk gens m', s' = { s₁ with heap := h', toks := tk, gens := gens } ∧ i ≤ vs.length ∧ k = vs.length + 1 - i ∧ AllBare gens ∧ (∀ z, z ≠ x → m' z = m z) ∧ Fr h₀ env.locals h' m' ∧ News h₀ env.locals h' news ∧ h'.IsTupleIter I l i) ?_ (vs.length + 1)
    ⟨0, H, s₁.toks, s₁.gens, m, rfl, Nat.zero_le _, rfl, hb, fun _ _ => rfl, F.keeps up, N.grown up, hit⟩
  rintro k s' ⟨i, h', tk, gens, m', rfl, hi, rfl, hb', hm', F', N', hit'⟩
  have one : ∀ {c : Addr}, c ≠ I → c ∉ [I] := fun h1 q => h1 (List.mem_singleton.mp q)
  by_cases hlt' : i < vs.length
  · refine W.item i _ _ _ (by rw [List.size_toArray]; exact hlt') ⟨hit', isl N'⟩ fun v h₂ tk₂ hv hst₂ hk₂ => ?_
    have F₂ : Fr h₀ env.locals h₂ m' := ⟨F'.ns.at' fun o q => hk₂ _ o (one (Ne.symm hIL)) q, fun c o q => hk₂ c o (one fun r => by rw [r, hI₀] at q; cases q) (F'.keep c o q), F'.above⟩
    have N₂ : News h₀ env.locals h₂ news := fun p hp => ⟨hk₂ _ _ (one (off p hp)) (N' p hp).1, (N' p hp).2⟩
    refine wpAny_assign_Name (wpAny_storeName_local hx F₂.ns (fun h₃ hn₃ hs₃ => ?_) hp)
    have F₃ := F₂.set hn₃ hs₃
    have N₃ : News h₀ env.locals h₃ news := N₂.set hs₃
    have hmx : (fun z => if z = x then some v else m' z) = fun z => if z = x then some v else m z := by
      funext z
      by_cases hz : z = x
      · rw [if_pos hz, if_pos hz]
      · rw [if_neg hz, if_neg hz, hm' z hz]
    rw [hmx] at F₃
    obtain ⟨oI, hoI, hoI'⟩ : ∃ oI : Obj, h₃.get? I = some oI ∧ ∀ h : Heap, h.get? I = some oI → h.IsTupleIter I l (i + 1) := by
      obtain ⟨oI, q, r⟩ := hst₂.1
      exact ⟨oI, hs₃.extBut I _ hIL q, fun _ q' => ⟨oI, q', r⟩⟩
    have N₄ : News h₀ env.locals h₃ ((I, oI) :: news) := fun p hp => by
      rcases List.mem_cons.mp hp with rfl | hp
      · exact ⟨hoI, hIL, hI₀⟩
      · exact N₃ p hp
    refine wpAny_mono (wpAny_passesOwn hE (turn i v h₃ _ gens I oI (by simpa using hv) hb' F₃ N₄)) (fun f s₃ h₃ => ?_) fun _ _ e => e
    have fin : GEnd h₀ env.locals (fun z => if z = x then some v else m z) s₁ ((I, oI) :: news) s₃ →
        ∃ k', k' < vs.length + 1 - i ∧ ∃ i h' tk gens m', s₃ = { s₁ with heap := h', toks := tk, gens := gens } ∧ i ≤ vs.length ∧ k' = vs.length + 1 - i ∧ AllBare gens ∧ (∀ z, z ≠ x → m' z = m z) ∧ Fr h₀ env.locals h' m' ∧ News h₀ env.locals h' news ∧ h'.IsTupleIter I l i := by
      rintro ⟨h₅, tk₅, gens₅, rfl, hb₅, F₅, N₅⟩
      exact ⟨vs.length + 1 - (i + 1), by omega, i + 1, h₅, tk₅, gens₅, _, rfl, hlt', rfl, hb₅, fun z hz => if_neg hz, F₅, fun q hq => N₅ q (.tail _ hq), hoI' _ (N₅ _ (.head _)).1⟩
    cases f with
    | ret v => exact h₃
    | brk => exact h₃
    | next => exact fin h₃
    | cont => exact fin h₃
  · have hin : i = vs.length := Nat.le_antisymm hi (Nat.not_lt.mp hlt')
    subst hin
    refine W.done _ _ _ (by rw [List.size_toArray]; exact ⟨hit', isl N'⟩) fun h₂ tk₂ hk₂ => wpAny_execs_nil ?_
    exact done h₂ tk₂ gens m' hb' hm' ⟨F'.ns.at' fun o q => hk₂ _ o (one (Ne.symm hIL)) q, fun c o q => hk₂ c o (one fun r => by rw [r, hI₀] at q; cases q) (F'.keep c o q), F'.above⟩
      fun p hp => ⟨hk₂ _ _ (one (off p hp)) (N' p hp).1, (N' p hp).2⟩
end
end Mine
namespace Mine
theorem off_LW : True := by
  w_top off
  trivial
open Builtin Builtin.Str
local macro_rules | `(tactic| k_all) => `(tactic| exact allNe (by assumption))
local macro_rules | `(tactic| k_all) => `(tactic| exact ltNe (by assumption))
local macro_rules | `(tactic| k_all) => `(tactic| assumption)
local macro_rules | `(tactic| walk_at "call ref") => `(tactic| (k_here; refine Halt.of ?_))
local macro_rules | `(tactic| walk_at "newList") => `(tactic| (k_here; refine Halt.of ?_))
local macro_rules | `(tactic| kmk_nums) => `(tactic| with_reducible exact kmk_from (by assumption) (Int.natCast_nonneg _))
local macro_rules | `(tactic| walk_at "newTuple") => `(tactic| (k_here; refine Halt.of ?_))
local macro_rules | `(tactic| walk_at "CompSrc") => `(tactic| (refine Halt.of ?_))
local macro_rules | `(tactic| walk_at "exec Assign cons ListComp") => `(tactic| ((with_reducible show wpAny _ _ (exec (Stmt.Assign [_] (Expr.ListComp _ [⟨Expr.Tuple _ _ _, _, _, _⟩] _ _) _) _) _ _ _); refine Halt.of ?_))
local macro_rules | `(tactic| walk_at "exec For Name Tuple cons nil") => `(tactic| (refine Halt.of ?_))
local macro_rules | `(tactic| walk_at "call type:enumerate") => `(tactic| (refine Halt.of ?_))
theorem int_at {vs : List Value} {ns : List Int} (h : IntsAre vs ns) : ∀ {i : Nat} {v : Value}, vs[i]? = some v → ∃ n t, v = .int n t ∧ ns[i]? = some n := by
  induction h with
  | nil => intro i v h; cases h
  | cons n t _ ih =>
    intro i v h
    cases i with
    | zero => exact ⟨n, t, (Option.some.inj h).symm, rfl⟩
    | succ i => exact ih h
theorem drop6 {h₀ h : Heap} {L : Addr} {p1 p2 p3 p4 p5 p6 : Addr × Obj} (N : News h₀ L h [p1, p2, p3, p4, p5, p6]) : News h₀ L h [p1, p3, p4, p5] := fun p hp => N p (by
  rcases List.mem_cons.mp hp with rfl | hp
  · exact .head _
  rcases List.mem_cons.mp hp with rfl | hp
  · exact .tail _ (.tail _ (.head _))
  rcases List.mem_cons.mp hp with rfl | hp
  · exact .tail _ (.tail _ (.tail _ (.head _)))
  rcases List.mem_cons.mp hp with rfl | hp
  · exact .tail _ (.tail _ (.tail _ (.tail _ (.head _))))
  · cases hp)
theorem endG {c : ClaimW} {cl : Str → Option Addr} {mean : ExcName → Option Value} {args : List WData} {s₁ : Shared} {h : Heap} {g : Array GenState} {d : Drawn} {t : Nat} {L : Addr} {m : Str → Option Value}
    (F : Fr s₁.heap L h m) (hr : ∀ cls, c.raises args cls = false) (hp : c.post args (.bool true) args = true) (hb : AllBare g) :
    GoodWG c cl mean args s₁ (.ok (.ret (.bool true))) ⟨h, g, d, t, s₁.os⟩ :=
  ⟨.inl ⟨_, _, [], rfl, hr, ReadsW.bool true, hp, fun _ => ⟨List.nodup_nil, fun _ hm => (nomatch hm)⟩⟩, .of_keep F.keep, rfl, hb⟩
theorem stCN4 {M : Model} {A : Around} {E : Value → Shared → Prop} {s : Shared} {name : Str} {scope : Scope} {L a : Addr} {cd : Value} {h₀ : Heap} {m : Str → Option Value} {x : Str} {c : Addr} {o : Obj} {v₀ : Option Value} {v : Value} {D1 D2 D3 D4 : Addr} {o1 o2 o3 o4 : Obj} {Q : Unit → Shared → Prop} (F : Fr h₀ L s.heap m) (N : News h₀ L s.heap [(D1, o1), (D2, o2), (D3, o3), (D4, o4), (c, o)])
    (hc : (cellsFrom (L + 1) scope.names []).lookup x = some c) (hd : o.data = .cell v₀) (n1 : D1 ≠ c) (n2 : D2 ≠ c) (n3 : D3 ≠ c) (n4 : D4 ≠ c)
    (h : ∀ h' o', Fr h₀ L h' m → News h₀ L h' [(D1, o1), (D2, o2), (D3, o3), (D4, o4), (c, o')] → o'.data = .cell (some v) → Q () { s with heap := h' })
    (hk : scope.kind = .function := by rfl) (hl : (envOfC name scope L a cd).kindOf x = some .cell := by rfl) :
    wpAny M A (storeName (envOfC name scope L a cd) x v) Q E s :=
  stCN (own := [(D1, o1), (D2, o2), (D3, o3), (D4, o4)]) (rest := []) F N hc hd (fun p hp => by
    rcases List.mem_cons.mp hp with rfl | hp
    · exact n1
    rcases List.mem_cons.mp hp with rfl | hp
    · exact n2
    rcases List.mem_cons.mp hp with rfl | hp
    · exact n3
    rcases List.mem_cons.mp hp with rfl | hp
    · exact n4
    · cases hp) (fun _ h => nomatch h) h hk hl
theorem newList_abs {M : Model} {A : Around} {E Q : Value → Shared → Prop} {s : Shared} {vals : List Value} {ns : List Int} (hI : IntsAre vals ns) (h : ∀ vs, IntsAre vs ns → wpAny M A (newList vs) Q E s) : wpAny M A (newList vals) Q E s := h vals hI
theorem cells_ok {ws : List Value} {ms : List Int} (h : IntsAre ws (ms ++ List.drop (ms.length : Int).toNat [58, 21, 2, 39, 0])) (h6 : ms.length ≤ 6) (hb : ∀ q ∈ ms, 0 ≤ q ∧ q < 1000000) :
    ∃ cs, IntsAre ws cs ∧ (5 ≤ cs.length ∧ cs.length ≤ 6) ∧ ∀ q ∈ cs, 0 ≤ q ∧ q < 1000000 := by
  refine ⟨_, h, ?_, ?_⟩
  · rw [List.length_append, List.length_drop, Int.toNat_natCast]
    simp only [List.length_cons, List.length_nil]
    omega
  · intro q hq
    rcases List.mem_append.mp hq with hq | hq
    · exact hb q hq
    · have := List.mem_of_mem_drop hq
      simp only [List.mem_cons, List.not_mem_nil, or_false] at this
      rcases this with rfl | rfl | rfl | rfl | rfl <;> decide
theorem sg_piece : ((Str.ofString ",").length ≤ 3 ∧ Sg (chars (Str.ofString ","))) ∧ ((Str.ofString ";").length ≤ 3 ∧ Sg (chars (Str.ofString ";"))) ∧ ((Str.ofString ".").length ≤ 3 ∧ Sg (chars (Str.ofString "."))) ∧ ((Str.ofString "...").length ≤ 3 ∧ Sg (chars (Str.ofString "..."))) := by
  have e1 : chars (Str.ofString ",") = [44] := by decide +kernel
  have e2 : chars (Str.ofString ";") = [59] := by decide +kernel
  have e3 : chars (Str.ofString ".") = [46] := by decide +kernel
  have e4 : chars (Str.ofString "...") = [46, 46, 46] := by decide +kernel
  refine ⟨⟨by decide +kernel, ?_⟩, ⟨by decide +kernel, ?_⟩, ⟨by decide +kernel, ?_⟩, ⟨by decide +kernel, ?_⟩⟩
  · rw [e1]; intro c hc; simp at hc; omega
  · rw [e2]; intro c hc; simp at hc; omega
  · rw [e3]; intro c hc; simp at hc; omega
  · rw [e4]; intro c hc; simp at hc; omega
theorem join_pat {sep : Str} (hs : sep.length = 0) : ∀ (xs : List Str), (∀ q ∈ xs, q.length ≤ 3 ∧ Sg (chars q)) → (Txt.join sep xs).length ≤ 3 * xs.length ∧ (xs.map (·.length)).sum ≤ 3 * xs.length ∧ Sg (chars (Txt.join sep xs)) := by
  intro xs h
  have e : Txt.join sep xs = Str.join sep xs := StrLaws.glued_eq_join sep xs
  rw [e]
  have h2 : ∀ (xs : List Str), (∀ q ∈ xs, q.length ≤ 3 ∧ Sg (chars q)) → (xs.map (·.length)).sum ≤ 3 * xs.length := by
    intro xs
    induction xs with
    | nil => intro _; simp
    | cons a r ih =>
      intro h
      have h1 := (h a (.head _)).1
      have h3 := ih fun q hq => h q (.tail _ hq)
      simp only [List.map_cons, List.sum_cons, List.length_cons]
      omega
  have h3 : ∀ (xs : List Str), (∀ q ∈ xs, q.length ≤ 3 ∧ Sg (chars q)) → Sg (chars (Str.join sep xs)) := by
    intro xs
    induction xs with
    | nil => intro _ c hc; cases hc
    | cons a r ih =>
      intro h
      cases r with
      | nil => exact (h a (.head _)).2
      | cons b r =>
        have h4 := ih fun q hq => h q (.tail _ hq)
        intro c hc
        have e2 : Str.join sep (a :: b :: r) = a ++ sep ++ Str.join sep (b :: r) := rfl
        rw [e2, chars_append, chars_append] at hc
        rcases List.mem_append.mp hc with hc | hc
        · rcases List.mem_append.mp hc with hc | hc
          · exact (h a (.head _)).2 c hc
          · have h5 := chars_length sep
            rw [hs] at h5
            rw [List.length_eq_zero_iff.mp h5] at hc
            cases hc
        · exact h4 c hc
  refine ⟨?_, h2 xs h, h3 xs h⟩
  cases xs with
  | nil => exact Nat.zero_le _
  | cons a r =>
    rw [join_len, hs]
    have := h2 (a :: r) h
    omega
theorem ints_val {vs : List Value} {ns : List Int} (h : IntsAre vs ns) : ∀ {i : Nat} {v : Value}, vs[i]? = some v → ∃ n t, v = .int n t := by
  induction h with
  | nil => intro i v h; cases h
  | cons n t _ ih =>
    intro i v h
    cases i with
    | zero => exact ⟨n, t, (Option.some.inj h).symm⟩
    | succ i => exact ih h
theorem law_holds : PySem.Challenge.rw_ti0012_01.Holds := hd (by
  k_fill
  intro w s₀ s₁ mg mb G Y fa o pm cd doc dV kV ho hd hcd hD hmg hg args vals as hpre hlay hrd hwl hlo
  have KX := kIn_of Y
  have X := (Ground.X G).1
  have V := (Ground.X G).2
  try w_nolog (first | (have GL := glob_more (Ground.glob G (by first | k_qdec | decide +kernel) (by first | k_qdec | decide +kernel)) V) | (have GL := glob_more (Ground.glob G (by decide +kernel)) V))
  refine Ground.open G ?_
  intro T B D TE TW
  try (refine guard_noD D (by decide +kernel) ?_; clear D)
  obtain ⟨_, _, M⟩ := bmod_of_top T
  have TA := at_of_top T
  try (obtain ⟨_, _, he, B0⟩ := based_of_top T rfl hmg ho hd; have he' : cd = _ := he; subst he'; clear he)
  clear hmg
  wrow_args hpre hlay hrd hwl hlo
  all_goals (
    first | refine callC_kw (enter_call ?_) | refine enter_call ?_ | refine callC_kw (enter_callW ?_) | refine enter_callW ?_ | w_how
    w_top on
    have K0 := below_caller (Top.heap T)
    w_call any ho hd hcd hD T F
    clear hd TA
    k_drop
    skip)
  rename Heap.get? _ _ = _ => ho1
  rename Obj.data _ = Data.cell _ => hcd1
  rename News _ _ _ _ => N1
  rename Fr _ _ _ _ => F1
  rename IntsAre _ _ => hI1
  obtain ⟨oc, hoc, N2⟩ : ∃ oc : Obj, oc.data = .cell none ∧ News _ _ _ [(_, oc)] := ⟨_, hcd1, N1⟩
  obtain ⟨m0, hm0, F2⟩ : ∃ m0 : Str → Option Value, m0 (Str.ofString "script") = some (.ref _) ∧ Fr _ _ _ m0 := ⟨_, rfl, F1⟩
  rw [map_one' (m₀ := m0) hm0 (fun _ _ => rfl)] at F2
  rename CellsAre _ _ _ => hCe
  clear F1 N1 hcd1 hm0 hCe
  try clear hD
  try clear GL
  try clear V
  try clear X
  try clear TE
  try clear TW
  try clear M
  try clear B
  try clear B0
  try clear ho
  try clear hcd
  try clear Y
  try clear G
  try clear hr
  try clear hlay0
  try clear hL
  try clear hr
  try clear r0
  try clear w1

  all_goals try k_fold
  k_steps
  refine Halt.go ?_
  rename IntsAre _ (List.take 6 _) => hI6
  rename (List.take 6 _).length = _ => hC6
  have hi6 := hI6.length
  k_dflt (refine LCg.CompSrc.ledger (by rfl) (by k_asm) (by k_asm) (.head _) ?kz ?_; (case kz => (rw [List.size_toArray, sizeLine_eq]; omega)))
  intro g1
  refine rest_of (fun n ys => ∃ ms : List Int, IntsAre ys ms ∧ ms.length = n ∧ ∀ q ∈ ms, 0 ≤ q ∧ q < 1000000) ⟨[], .nil, rfl, fun _ h => nomatch h⟩ ?_ ?_
  · rintro j ys v I oI C oC D' m₂ h2 tk2 E' hj hv ⟨ms, hms, hml, hmb⟩ hC hx F5 N5 off ne
    obtain ⟨n, t, rfl⟩ := ints_val hI6 (by simpa using hv)
    dsimp only
    k_steps
    have hnb := Int.fmod_nonneg_of_pos n (b := 1000000) (by decide)
    have hnl := Int.fmod_lt_of_pos n (b := 1000000) (by decide)
    exact LCg.CompEnd.intro (by assumption) (by assumption) _ (fun p hp => hp) off (.inr ⟨_, .head _, rfl, _, rfl⟩) ⟨rfl, ms ++ [_], hms.append (.cons _ _ .nil), by simp [hml], fun q hq => by
      rcases List.mem_append.mp hq with h9 | h9
      · exact hmb q h9
      · rw [List.mem_singleton.mp h9]; exact ⟨hnb, hnl⟩⟩
  · rintro ys ⟨ms, hms, hml, hmb⟩
    have hm6 : ms.length ≤ 6 := by rw [hml, List.size_toArray]; omega
    intro D5 h5 tk5 F5 N5 off5
    clear hml hi6 hC6
    dsimp only
    k_steps
    refine Halt.go ?_
    dsimp only
    refine newList_abs (.cons 58 _ (.cons 21 _ (.cons 2 _ (.cons 39 _ (.cons 0 _ .nil))))) ?_
    intro vs5 hI5
    have h5l := hI5.length
    replace N5 := cb_drop (news := [(D5, listOf ys.toArray ys.length), (_, oc)]) N5 (fun p hp => by
      rcases List.mem_cons.mp hp with rfl | hp
      · exact .head _
      · exact .tail _ (.tail _ hp))
    refine newList_K F5 N5 ?_ (by rw [h5l, sizeLine_eq]; decide)
    intro D6 h6 F6 N6 l6
    replace l6 := allLt_of l6
    clear F5 N5
    dsimp only
    k_steps
    dsimp only
    refine Halt.go ?_
    rename IntsAre _ (ms ++ _) => hIc0
    rename News _ _ _ (_ :: _ :: _ :: _) => N7
    rename Fr _ _ _ (fun y => if y = "cells" then _ else _) => F7
    rename (_ ∧ _ ∧ _ ∧ @LT.lt Nat _ (s₁.heap.objs.size + 1) _) => l7
    obtain ⟨cs, hIc, hcl, hcb⟩ := cells_ok hIc0 hm6 hmb
    have hicl := hIc.length
    replace N7 := cb_drop (news := [(_, listOf _ 0), (_, oc)]) N7 (fun p hp => by
      rcases List.mem_cons.mp hp with rfl | hp
      · exact .head _
      · exact .tail _ (.tail _ (.tail _ (.tail _ hp))))
    have l8 := l7.2.2.2
    clear hIc0 l7
    k_dflt (refine LCg.CompSrc.ledger (by rfl) F7 N7 (.head _) ?kz ?_; (case kz => (rw [List.size_toArray, sizeLine_eq]; omega)))
    intro g2
    refine rest_of (fun n ys => ∃ xs : List Str, StrsAre ys xs ∧ xs.length = n ∧ ∀ q ∈ xs, q.length ≤ 3 ∧ Sg (chars q)) ⟨[], .nil, rfl, fun _ h => nomatch h⟩ ?_ ?_
    · rintro j zs v I oI C oC D' m₂ h2 tk2 E' hj hv ⟨xs, hxs, hxl, hxb⟩ hC hx F5 N5 off ne
      obtain ⟨n, t, rfl⟩ := ints_val hIc (by simpa using hv)
      dsimp only
      k_steps
      refine Halt.go ?_
      dsimp only
      refine kup_newTuple F5 N5 ?_ (by rw [sizeLine_eq]; show 5 ≤ 16777216; decide)
      intro D9 h9 F9 N9 l9
      dsimp only
      k_steps
      all_goals
        exact LCg.CompEnd.intro (by assumption) (by assumption) _ (fun p hp => .tail _ hp) off (.inr ⟨_, .head _, rfl, _, rfl⟩) ⟨rfl, xs ++ [_], kct_snoc hxs, by simp [hxl], fun q hq => by
          rcases List.mem_append.mp hq with h9 | h9
          · exact hxb q h9
          · rw [List.mem_singleton.mp h9]; first | exact sg_piece.1 | exact sg_piece.2.1 | exact sg_piece.2.2.1 | exact sg_piece.2.2.2⟩
    · rintro zs ⟨xs, hxs, hxl, hxb⟩
      intro D8 h8 tk8 F8 N8 off8
      dsimp only
      k_steps
      have hjp := join_pat (sep := Str.ofString "") rfl xs hxb
      have hxl6 : xs.length = cs.length := by rw [hxl, List.size_toArray, hicl]
      refine join_list (items := zs.toArray) ⟨_, (N8 _ (.head _)).1, rfl, _, rfl⟩ hxs (by rw [show (Str.ofString "").length = 0 from rfl]; omega) ?_
      intro t9 k9
      generalize Txt.join (Str.ofString "") xs = pat at hjp
      obtain ⟨hpl, _, hpsg⟩ := hjp
      rw [hxl6] at hpl
      clear hxs hxl hxb hxl6
      replace N8 := cb_drop (news := [(_, listOf _ 0), (_, oc)]) N8 (fun p hp => .tail _ hp)
      dsimp only
      k_steps
      refine Halt.go ?_
      dsimp only
      have hs0 : 1 ≤ 1 + cs.sum.fmod 3 ∧ 1 + cs.sum.fmod 3 ≤ 3 := by
        have h1 := Int.fmod_nonneg_of_pos cs.sum (b := 3) (by decide)
        have h2 := Int.fmod_lt_of_pos cs.sum (b := 3) (by decide)
        omega
      have hs1 : 1 ≤ 1 + (cs.sum.fdiv 3).fmod 3 ∧ 1 + (cs.sum.fdiv 3).fmod 3 ≤ 3 := by
        have h1 := Int.fmod_nonneg_of_pos (cs.sum.fdiv 3) (b := 3) (by decide)
        have h2 := Int.fmod_lt_of_pos (cs.sum.fdiv 3) (b := 3) (by decide)
        omega
      refine newList_abs (.cons _ _ (.cons _ _ (.cons 1 _ (.cons 0 _ .nil)))) ?_
      generalize 1 + cs.sum.fmod 3 = z0 at hs0
      generalize 1 + (cs.sum.fdiv 3).fmod 3 = z1 at hs1
      intro vz hIz
      have hzl := hIz.length
      rename Fr _ _ _ (fun y => if y = "total" then _ else _) => F9
      rename News _ _ _ [_, _] => N9
      refine newList_K F9 N9 ?_ (by rw [hzl, sizeLine_eq]; show 4 ≤ 16777216; decide)
      intro Dz hz Fz Nz lz
      replace lz := allLt_of lz
      clear F9 N9
      dsimp only
      k_steps
      refine Halt.go ?_
      rename News _ _ _ [_, _, _] => N10
      rename Fr _ _ _ (fun y => if y = "sizes" then _ else _) => F11
      have hT := fun nws tz => tokens_spec (prog := PySem.Challenge.rw_ti0012_01.row.prog) (p := hd.view_39) (loose := looseW hd.view_39 ["EXACT_TOKEN_TYPES"]) (w := w) (mean := ExcName.means s₀.heap) (mg := mg) (mb := mb) (news := nws) pat tz
      dsimp only [DefClaim] at hT
      refine' hT _ _ _ _ _ _ _ _ _ _ _ _ _ _ _ _ _ _ _ ?k1 F11 ?k3 N10 ?k5 ?kK ?kp ?kd ?ku ?kR
      case k1 => k_asm
      case k3 => k_asm
      case k5 => k_asm
      case kK => first | assumption | rfl
      case kp => exact ⟨by omega, hpsg⟩
      case kd => ktr_room
      case ku => ktr_units
      intro Dt l nt ht tkt Ft Nt lt htk hll
      clear hT
      dsimp only
      k_steps
      refine Halt.go ?_
      rename Fr _ _ _ (fun y => if y = "tokens" then _ else _) => F13
      rename News _ _ _ [_, _, _, _] => N13
      have hltk : l.length = (toks (chars pat)).length := by
        have := congrArg List.length htk
        simpa using this
      have htl : l.length ≤ 18 := by
        rw [hltk]
        have h1 := toks_length (chars pat)
        rw [chars_length] at h1
        omega
      k_dflt (refine LCg.CompSrc.ledger (by rfl) F13 N13 (.head _) ?kz ?_; (case kz => (rw [List.size_toArray, strValues_length, sizeLine_eq]; omega)))
      intro g3
      refine rest_of (fun n ys => IntsAre ys (((toks (chars pat)).take n).map numT)) .nil ?_ ?_
      · rintro j zs v I oI C oC D' m₂ h2 tk2 E' hj hv hzs hC hx F5 N5 off ne
        obtain ⟨y, ty, hly, rfl⟩ := strValues_get (l := l) (by simpa using hv)
        obtain ⟨tki, htki, hytk⟩ : ∃ tki, (toks (chars pat))[j]? = some tki ∧ chars y = tki.txt := by
          have h1 := congrArg (fun q => q[j]?) htk
          simp only [List.getElem?_map, hly, Option.map_some] at h1
          cases h2 : (toks (chars pat))[j]? with
          | none => rw [h2] at h1; cases h1
          | some tki => rw [h2] at h1; exact ⟨tki, rfl, Option.some.inj h1⟩
        have hsnoc : ((toks (chars pat)).take (j + 1)).map numT = ((toks (chars pat)).take j).map numT ++ [numT tki] := by
          rw [List.take_add_one, htki, List.map_append]
          rfl
        rw [hsnoc]
        clear hsnoc
        rcases tok_cases hpsg htki hytk with ⟨rfl, hn⟩ | ⟨rfl, hn⟩ | ⟨rfl, hn⟩ | ⟨rfl, hn⟩
        all_goals
          rw [hn]
          clear hn hytk htki hv hly
          dsimp only
          k_steps
          exact LCg.CompEnd.intro (by assumption) (by assumption) _ (fun p hp => hp) off (.inr ⟨_, .head _, rfl, _, rfl⟩) ⟨rfl, hzs.append (IntsAre.cons _ _ .nil)⟩
      · intro ws9 hws9
        have hws9' : IntsAre ws9 ((toks (chars pat)).map numT) := by
          rw [List.size_toArray, strValues_length, hltk, List.take_length] at hws9
          exact hws9
        clear hws9
        intro Dn hn9 tkn Fn Nn offn
        dsimp only
        k_steps
        refine stCN4 Fn Nn (by rfl) hoc (Ne.symm offn.2.2.2.1) (Nat.ne_of_gt (lt _ (.tail _ (.tail _ (.head _))))) (Nat.ne_of_gt lz.2.1) (Nat.ne_of_gt l8) ?_
        clear Fn Nn offn F13 N13 hoc
        intro h14 o14 F14 N14 hd14
        dsimp only
        k_steps
        refine Halt.go ?_
        refine Assign_E F14 (by rfl) (by with_unfolding_all rfl) (by with_unfolding_all rfl) (by decide) (by rfl) (by decide) (by rfl) (by rfl) (by decide) (by rfl) (by rfl) ?_
        dsimp only
        k_steps
        refine Halt.go ?_
        refine call_enum_K F14 N14 (.head _) rfl rfl ?_
        intro eI iI h15 hen hit hei heL hiL he0 hi0 offE F15 N15
        have hwl : ws9.length ≤ 18 := by
          have h1 := hws9'.length
          rw [List.length_map, ← hltk] at h1
          omega
        clear F14 N14
        dsimp only
        k_steps
        refine Halt.go ?_
        refine ⟨eI, iI, Dn, LCg.lst ws9, ws9, _, _, fun n ys => IntsAre ys (wantAt ((toks (chars pat)).map numT) n), rfl, rfl, F15, N15, by rw [sizeLine_eq]; omega, hen, hit, .head _, rfl, rfl, hei, heL, hiL, he0, hi0, offE, .nil, ?_, ?_⟩
        · clear hen hit hei heL hiL he0 hi0 offE F15 N15
          rintro i v ys t eJ oe iJ oi C oC D m₂ h16 tk16 E' hv hys hC hpa hpb F16 N16
          obtain ⟨n, tn, rfl, hn⟩ := int_at hws9' hv
          dsimp only
          k_steps
          · exact EEnd.intro (by assumption) (by assumption) (fun _ h => h) (by rw [want_keep1 hn (by assumption)]; exact hys.append (.cons _ _ .nil))
          refine Halt.go ?_
          simp only [Int.toNat_natCast] at *
          generalize hzs : List.drop ((List.take i (List.map numT (toks (chars pat)))).length - 1) (List.take i (List.map numT (toks (chars pat)))) = zs at *
          rename Fr _ _ _ _ => F18
          rename News _ _ _ (_ :: _ :: _ :: _ :: _ :: _ :: _) => N18
          refine newList_abs (.cons 52 _ .nil) ?_
          intro v52 hI52
          have h52l := hI52.length
          refine newList_K F18 N18 ?_ (by rw [h52l, sizeLine_eq]; decide)
          intro D52 h19 F19 N19 l19
          clear F18 N18
          dsimp only
          k_steps
          · have hn52 : n = 52 := by omega
            subst hn52
            exact EEnd.intro F19 N19 (fun p hp => .tail _ (.tail _ (.tail _ hp))) (by rw [want_drop hn (hzs.trans (by assumption))]; exact hys)
          · exact EEnd.intro F19 N19 (fun p hp => .tail _ (.tail _ (.tail _ hp))) (by rw [want_keep2 hn (by rw [hzs]; assumption)]; exact hys.append (.cons _ _ .nil))
        · clear hen hit hei heL hiL he0 hi0 offE F15 N15
          intro D ys hys offD h17 tk17 F17 N17
          dsimp only
          k_steps
          refine Halt.go ?_
          refine For_tupG (h₀ := s₁.heap) (by rfl) (by rfl) (by rfl) (by passes_own) ?_
          k_steps
          refine Halt.go ?_
          have hwt : ws9.length = (toks (chars pat)).length := by
            rw [hws9'.length, List.length_map]
          rw [hwt] at hys
          clear hwt
          rename Fr _ _ _ _ => F20
          have N20 := drop6 N17
          clear N17 offD hws9' hd14 hwl
          have hT := fun nws D1 D2 vs (_ : IntsAre vs cs) => filled_spec (prog := PySem.Challenge.rw_ti0012_01.row.prog) (p := hd.view_39) (loose := looseW hd.view_39 ["EXACT_TOKEN_TYPES"]) (w := w) (mean := ExcName.means s₀.heap) (mg := mg) (mb := mb) (news := nws) pat D1 D2 l nt 0 vs cs
          dsimp only [DefClaim] at hT
          refine' hT _ _ _ _ hIc _ _ _ _ _ _ _ _ _ _ _ _ _ _ _ _ _ ?fk1 F20 ?fk3 N20 ?fk5 ?fkK ?fkp ?fkd ?fku ?fkR
          case fk1 => k_asm
          case fk3 => k_asm
          case fk5 => k_asm
          case fkK => first | assumption | rfl
          case fkp => exact ⟨.tail _ (.head _), .tail _ (.tail _ (.tail _ (.head _))), hIc, htk, hpl, by omega, hcb⟩
          case fkd => ktr_room
          case fku => ktr_units
          intro xf tf hf tkf Ff Nf hmf hxl
          clear hT
          dsimp only
          k_steps
          refine Halt.go ?_
          rename Fr _ _ _ _ => F21
          rename News _ _ _ _ => N21
          refine kup_newTuple F21 N21 ?_ (by rw [sizeLine_eq]; show 2 ≤ 16777216; decide)
          intro Dp h22 F22 N22 l22
          have hemf : ematch pat xf = true := ematch_iff.mpr hmf
          have hpl18 : pat.length ≤ 18 := by omega
          generalize hW : wantAt ((toks (chars pat)).map numT) (toks (chars pat)).length = W at hys
          have hxf : xf.length ≤ 36 := by omega
          clear hmf hxl htk l22
          dsimp only
          k_steps
          refine Halt.go ?_
          refine ⟨Dp, _, [.str xf tf, .str pat t9], _, _, _, rfl, rfl, F22, N22, .head _, rfl, rfl, AllBare.of_eq hg, ?_, ?_⟩
          · intro iT vT hT tkT gensT IT oIT hvT habT FT NT
            obtain ⟨y, ty, rfl, hem, hyl⟩ : ∃ y ty, vT = .str y ty ∧ ematch pat y = true ∧ y.length ≤ 36 := by
              rcases iT with _ | _ | iT
              · exact ⟨xf, _, (Option.some.inj hvT).symm, hemf, hxf⟩
              · exact ⟨pat, _, (Option.some.inj hvT).symm, self_match pat, by omega⟩
              · cases hvT
            clear hvT
            dsimp only
            k_steps
            refine Halt.go ?_
            rename Fr _ _ _ _ => Fm
            rename News _ _ _ _ => Nm
            have hCb := fun nws tp tz => match_spec (prog := PySem.Challenge.rw_ti0012_01.row.prog) (p := hd.view_39) (loose := looseW hd.view_39 ["EXACT_TOKEN_TYPES"]) (w := w) (mean := ExcName.means s₀.heap) (mg := mg) (mb := mb) (news := nws) pat y tp tz
            dsimp only [CbClaim, CbLists, CbRet] at hCb
            refine' hCb _ _ _ _ _ _ _ _ _ _ _ _ _ _ _ _ _ _ _ _ ?m1 Fm ?m3 Nm ?m5 ?mK ?mp ?md ?mu ?mR
            case m1 => k_asm
            case m3 => k_asm
            case m5 => k_asm
            case mK => first | assumption | rfl
            case mp => exact ⟨by omega, by omega⟩
            case md => ktr_room
            case mu => ktr_units
            intro t23 h23 tk23 F23 N23
            clear hCb
            rw [hem]
            dsimp only
            k_steps
            refine Halt.go ?_
            clear Fm Nm
            have hWh := fun nws tp tt DD => whittled_spec (prog := PySem.Challenge.rw_ti0012_01.row.prog) (p := hd.view_39) (loose := looseW hd.view_39 ["EXACT_TOKEN_TYPES"]) (w := w) (mean := ExcName.means s₀.heap) (mg := mg) (mb := mb) (news := nws) pat y tp tt DD 0 vz z0 z1
            dsimp only [DefClaim] at hWh
            refine' hWh _ _ _ _ _ _ _ _ _ _ _ _ _ _ _ _ _ _ _ _ _ ?w1 F23 ?w3 N23 ?w5 ?wK ?wp ?wd ?wu ?wR
            case w1 => k_asm
            case w3 => k_asm
            case w5 => k_asm
            case wK => first | assumption | rfl
            case wp => exact ⟨by k_mem, hIz, hs0, hs1, by omega, by omega, hem⟩
            case wd => ktr_room
            case wu => ktr_units
            clear hWh
            refine ⟨habT, ?_⟩
            intro x1 t24 h24 tk24 gens1 hab1 F24 N24 hem1 hmin1 hxl1
            dsimp only
            k_steps
            refine Halt.go ?_
            have hcl1 := core_lits hem1 hmin1
            have hrow1 := row_eq hcl1 hpsg
            rw [hW] at hrow1
            have hTo := fun nws tp tu => told_spec (prog := PySem.Challenge.rw_ti0012_01.row.prog) (p := hd.view_39) (loose := looseW hd.view_39 ["EXACT_TOKEN_TYPES"]) (w := w) (mean := ExcName.means s₀.heap) (mg := mg) (mb := mb) (news := nws) pat x1 tp tu
            dsimp only [DefClaim] at hTo
            refine' hTo _ _ _ _ _ _ _ _ _ _ _ _ _ _ _ _ _ _ _ _ ?t1 F24 ?t3 N24 ?t5 ?tK ?tp ?td ?tu ?tR
            case t1 => k_asm
            case t3 => k_asm
            case t5 => k_asm
            case tK => first | assumption | rfl
            case tp => exact ⟨by omega, Nat.le_trans (core_len hcl1) (by omega), core_sg hcl1 hpsg⟩
            case td => ktr_room
            case tu => ktr_units
            clear hTo
            intro DR yr nr h25 tk25 F25 N25 hltR hyr
            rw [hrow1] at hyr
            clear hrow1 hcl1 hmin1 hem1 F24 N24
            dsimp only
            k_steps
            exact GEnd.intro hab1 F25 N25 (fun p hp => .tail _ hp)
          · intro hE tkE gensE mE habE hmE FE NE
            dsimp only
            k_steps
            exact endG FE (fun _ => rfl) (by first | rfl | wrow_post) habE)
end Mine
theorem PySem.Challenge.cw_ti0012_01_holds : PySem.Challenge.rw_ti0012_01.Holds :=
  Mine.law_holds
