import PyProof.Rows.All
import Wide.All
import OpenK.AllK
import Wide.FinOn
import PySem.Challenge.RW_ki0027_01
open PySem PySem.W PyProof.Rows
set_option Elab.async false
set_option maxRecDepth 100000
set_option linter.unusedSimpArgs false

namespace Mine
set_option maxHeartbeats 8000000
open_top hd for PySem.Challenge.rw_ki0027_01
end Mine

namespace Mine
section
variable {prog : Program} {w : World} {A : Around} {E : Value → Shared → Prop} {s : Shared} {h₀ : Heap} {L : Addr} {m : Str → Option Value} {news : List (Addr × Obj)}
theorem my_bytes {l : Addr} {vs : List Value} {ns : List Int} {Q : Value → Shared → Prop} (F : Fr h₀ L s.heap m) (N : News h₀ L s.heap news) (hl : s.heap.IsList l vs.toArray) (hi : IntsAre vs ns) (hr : ∀ n ∈ ns, 0 ≤ n ∧ n < 256) (hz : ns.length ≤ 16777216) (hh : A.handled = none)
    (h : ∀ h' t k (b : List UInt8), Fr h₀ L h' m → News h₀ L h' news → b.length = ns.length → Q (.bytes b.toArray t) { s with heap := h', toks := k }) : wpAny (model prog w) A (call (.type "bytes") [.ref l]) Q E s :=
  call_bytes_ints hl hi hr (by rw [hi.length, sizeLine_eq]; exact hz) hh fun h' t k hk => h h' t k _ (F.keeps hk) (fun q hq => ⟨hk _ _ (N q hq).1, (N q hq).2⟩) (by simp)
theorem range_in {a : Int} {n : Nat} {lo hi : Int} (h0 : lo ≤ a) (h1 : a + n ≤ hi) : ∀ x ∈ rangeInts a 1 n, lo ≤ x ∧ x < hi := by
  intro x hx
  simp only [rangeInts, List.mem_map, List.mem_range] at hx
  obtain ⟨k, hk, rfl⟩ := hx
  omega
theorem fmod_in (x : Int) : 0 ≤ x.fmod 256 ∧ x.fmod 256 < 256 := by
  rw [Int.fmod_eq_emod_of_nonneg _ (by decide)]
  omega
theorem app_in {xs ys : List Int} (h1 : ∀ x ∈ xs, 0 ≤ x ∧ x < 256) (h2 : ∀ x ∈ ys, 0 ≤ x ∧ x < 256) : ∀ x ∈ xs ++ ys, (0 : Int) ≤ x ∧ x < 256 := by
  intro x hx
  rcases List.mem_append.mp hx with h | h
  · exact h1 x h
  · exact h2 x h
theorem map_in {α : Type} {xs : List α} {f : α → Int} (h : ∀ x ∈ xs, 0 ≤ f x ∧ f x < 256) : ∀ y ∈ xs.map f, (0 : Int) ≤ y ∧ y < 256 := by
  intro y hy
  obtain ⟨x, hx, rfl⟩ := List.mem_map.mp hy
  exact h x hx
end
end Mine
namespace Mine
theorem drop_at {h₀ h : Heap} {L : Addr} {p1 p2 g1 g2 g3 g4 g5 g6 p3 p4 : Addr × Obj} (N : News h₀ L h [p1, p2, g1, g2, g3, g4, g5, g6, p3, p4]) : News h₀ L h [p1, p2, p3, p4] := fun p hp => N p (by
  simp only [List.mem_cons, List.not_mem_nil, or_false] at hp ⊢
  rcases hp with h | h | h | h <;> simp [h])
end Mine
namespace Mine
def Hold (P : Prop) : Prop := P
theorem hold {P : Prop} (h : Hold P) : P := h
theorem unhold {P : Prop} (h : P) : Hold P := h
end Mine

namespace Mine
section
variable {prog : Program} {w : World} {A : Around} {E : Value → Shared → Prop} {s : Shared} {h₀ : Heap} {L D : Addr} {m : Str → Option Value} {news news' : List (Addr × Obj)}
theorem my_append {its : List Value} {n : Nat} {x : Value} {Q : Value → Shared → Prop} (F : Fr h₀ L s.heap m) (N : News h₀ L s.heap news) (U : Upd D (listOf its.toArray n) (listOf (its ++ [x]).toArray (n + 1)) news news') (hsz : its.length ≤ 16777216)
    (h : ∀ h', Fr h₀ L h' m → News h₀ L h' news' → Q .none { s with heap := h' }) : wpAny (model prog w) A (call (.builtin "list.append") [.ref D, x]) Q E s :=
  append_K F N (by rw [List.push_toArray]; exact U) h (by rw [List.size_toArray, sizeLine_eq]; exact hsz)
theorem my_add {b c : List UInt8} {t u : Tok} {Q : Value → Shared → Prop} (hsz : b.length + c.length ≤ 16777216) (h : ∀ t' k, Q (.bytes (b ++ c).toArray t') { s with toks := k }) :
    wpAny (model prog w) A (binaryOp .Add (.bytes b.toArray t) (.bytes c.toArray u)) Q E s :=
  bytes_add_K (by simpa using hsz) rfl h
theorem my_len {b : List UInt8} {t : Tok} {Q : Value → Shared → Prop} (hfit : b.length ≤ 16777216) (h : Q (.int b.length (s.toks + 1)) { s with toks := s.toks + 1 + 1 }) : wpAny (model prog w) A (call (.builtin "len") [.bytes b.toArray t]) Q E s :=
  len_bytes (by simp; omega) (by simpa using h)
theorem my_ne {b c : List UInt8} {t u : Tok} {Q : Value → Shared → Prop} (e : Hold (b = c)) (h : Q (.bool false) s) : wpAny (model prog w) A (compareOp .NotEq (.bytes b.toArray t) (.bytes c.toArray u)) Q E s := by
  have e' : b = c := e
  subst e'
  refine ne_bytes ?_
  simpa using h
theorem picked_take {b : List UInt8} {k : Int} (h : 0 ≤ k) : KBy.picked b.toArray none (some k) = (b.take k.toNat).toArray := by
  obtain ⟨n, rfl⟩ := Int.eq_ofNat_of_zero_le h
  rw [KBc.picked_eq]
  simp only [Option.elim, clipAt_nat, List.drop_zero, Nat.sub_zero, List.size_toArray, Int.toNat_natCast]
  congr 1
  rw [List.take_eq_take_iff]
  omega
theorem picked_drop {b : List UInt8} {k : Int} (h : 0 ≤ k) : KBy.picked b.toArray (some k) none = (b.drop k.toNat).toArray := by
  obtain ⟨n, rfl⟩ := Int.eq_ofNat_of_zero_le h
  rw [KBc.picked_eq]
  simp only [Option.elim, clipAt_nat, List.size_toArray, Int.toNat_natCast]
  congr 1
  rw [List.take_of_length_le (by simp)]
  by_cases hn : n ≤ b.length
  · rw [Nat.min_eq_left hn]
  · rw [Nat.min_eq_right (show b.length ≤ n by omega), List.drop_of_length_le (Nat.le_refl _), List.drop_of_length_le (show b.length ≤ n by omega)]
theorem picked_both {b : List UInt8} {k j : Int} (h : 0 ≤ k) (h' : 0 ≤ j) : KBy.picked b.toArray (some k) (some j) = ((b.drop k.toNat).take (j.toNat - k.toNat)).toArray := by
  obtain ⟨n, rfl⟩ := Int.eq_ofNat_of_zero_le h
  obtain ⟨p, rfl⟩ := Int.eq_ofNat_of_zero_le h'
  rw [KBc.picked_eq]
  simp only [Option.elim, clipAt_nat, List.size_toArray, Int.toNat_natCast]
  congr 1
  by_cases hn : n ≤ b.length
  · rw [Nat.min_eq_left hn, List.take_eq_take_iff, List.length_drop]
    omega
  · rw [Nat.min_eq_right (show b.length ≤ n by omega), List.drop_of_length_le (Nat.le_refl _), List.drop_of_length_le (show b.length ≤ n by omega)]
    simp
section
variable {value slice : PySem.Expr} {b : List UInt8} {t : Tok} {l u : Value} {lo hi : Option Int} {Q : Value → Shared → Prop} {r : List UInt8}
theorem my_slice (hF : Fr h₀ L s.heap m) (hN : News h₀ L s.heap news) (hl : IsPart l lo) (hu : IsPart u hi) (hz : b.length ≤ 16777216) (he : KBy.picked b.toArray lo hi = r.toArray)
    (h : ∀ h' t' k, Fr h₀ L h' m → News h₀ L h' news → Q (.bytes r.toArray t') { s with heap := h', toks := k })
    (hs : subscripted slice false (.bytes b.toArray t) (.ref s.heap.objs.size) = operate [.ref s.heap.objs.size, .bytes b.toArray t] (getItem (.bytes b.toArray t) (.ref s.heap.objs.size)) := by with_unfolding_all rfl)
    (ht : ∀ r, letTemporaryGo value (.bytes b.toArray t) r = pure () := by intro _; with_unfolding_all rfl) :
    wpAny (model prog w) A (subscriptTail value slice (.bytes b.toArray t) (.ref s.heap.objs.size)) Q E { s with heap := s.heap.push { cls := .type "slice", data := .fields #[l, u, .none] } } :=
  KBc.slice_K hF hN rfl hl hu (by rw [KBw.ints_length]; simpa using hz) (fun h' t' k F' N' _ => by rw [he]; exact h h' t' k F' N') hs ht
end
theorem fm5 (n : Int) : 0 ≤ n.fmod 5 ∧ n.fmod 5 < 5 := by rw [Int.fmod_eq_emod_of_nonneg _ (by decide)]; omega
theorem fmB (n k : Int) (h : 0 < k) : 0 ≤ n.fmod k ∧ n.fmod k < k := by
  rw [Int.fmod_eq_emod_of_nonneg _ (by omega)]
  exact ⟨Int.emod_nonneg _ (by omega), Int.emod_lt_of_pos _ h⟩
end
end Mine

section
open PySem.Calls
namespace Mine
section
variable {prog : Program} {w : World} {A : Around} {E : Value → Shared → Prop} {s : Shared} {K : Frag} {h₀ : Heap} {L x C : Addr} {ox : Obj} {m : Str → Option Value} {es : List DictEntry} {n : Nat} {name : Str}
theorem find_shadow {f : Addr} {v g : Value} {od : Obj} (hh : hasDictIn K C = true) (ha : findIn K (.ref C) name = some (some (.ref f))) (hg : specialIn K (.ref f) "__get__" = some (some g)) (ht : takesIn K (.ref f) = some false) (hl : lookIn name od = some (some v)) :
    findObj K C (some od) name = some (.value v) := by
  obtain ⟨cd, hc, hd⟩ := any_some hh
  unfold findObj
  rw [hc, Option.bind_some, ha, Option.bind_some]
  have ho : W.ownOf cd (some od) name = some (some v) := by unfold W.ownOf; rw [if_pos hd]; exact hl
  simp [hg, ht, ho]
/-- a method's name that the object's own dict shadows: the call goes to what lies there, unbound -/
theorem method_shadow {pl : Sem Bool} {Q : Value × List Value → Shared → Prop} {f : Addr} {v g : Value} (F : Fr h₀ L s.heap m) (X₀ : K.In h₀) (I : InstAt s.heap x ox C (some (dictOf es n))) (hg : plainGet K C name = true) (hh : hasDictIn K C = true)
    (hf : findIn K (.ref C) name = some (some (.ref f))) (ht : isFn K (.ref f) = true) (hgt : specialIn K (.ref f) "__get__" = some (some g)) (htk : takesIn K (.ref f) = some false) (hl : getL name es = some (some v)) (hv : handedIn v = true)
    (h : Q (v, []) { s with toks := s.toks + 1 }) : wpAny (model prog w) A (getMethod (.ref x) name pl) Q E s := by
  have X := X₀.keeps F.keep
  have hga := (plainGet_of hg).1
  have hk := (plainGet_of hg).2
  have ht' : typeIn K (.ref f) = some (.type "function") := beq_iff_eq.mp ht
  have hfo : findObj K C (some (dictOf es n)) name = some (.value v) := find_shadow hh hf hgt htk (by rw [lookIn_dict]; exact hl)
  have u : wpAny (model prog w) A (do return (← getAttr (.ref x) name, ([] : List Value))) Q E s := wpAny_bind (wpAny_mono (get_value X I hga hfo hv (Q := fun v => Q (v, [])) h) (fun _ _ z => wpAny_pure z) fun _ _ z => z)
  have hcan := PySem.F.canon_object_ga
  unfold getMethod specialOf
  refine wpAny_bind (wpAny_bind (I.type.here ((looks_findIn X hga).here ?_)))
  dsimp only
  rw [hcan, if_neg (by decide)]
  refine wpAny_bind (wpAny_bind (I.type.here ((looks_findIn X hk).here ?_)))
  refine wpAny_bind (wpAny_bind (I.type.here ((looks_findIn X hf).here (wpAny_bind ((looks_typeIn X ht').here ?_)))))
  rw [if_neg (by decide +kernel)]
  refine wpAny_bind (wpAny_loadPart I.at_ ?_)
  have hd := I.dict
  cases e : ox.dict with
  | none => rw [e] at hd; exact hd.elim
  | some dx =>
    rw [e] at hd
    refine wpAny_bind (wpAny_bind (wpAny_loadPart hd ?_))
    rw [nsLook_of (show lookIn name (dictOf es n) = some (some v) by rw [lookIn_dict]; exact hl)]
    refine wpAny_pure ?_
    exact u
end
end Mine
namespace Mine
theorem nw1 {h₀ h : Heap} {L : Addr} {p1 : Addr × Obj} {r : List (Addr × Obj)} (N : News h₀ L h (p1 :: r)) : News h₀ L h r := fun p hp => N p (.tail _ hp)
theorem ints_one (n : Int) (t : Tok) : IntsAre [Value.int n t] [n] := .cons _ _ .nil
end Mine
namespace Mine
theorem my_item0 {prog : Program} {w : World} {A : Around} {E : Value → Shared → Prop} {s : Shared} {value slice : PySem.Expr} {l : Addr} {u : Tok} {v : Value} {Q : Value → Shared → Prop} {h₀ : Heap} {L : Addr} {n : Nat} {news : List (Addr × Obj)}
    (N : News h₀ L s.heap news) (hl : (l, listOf #[v] n) ∈ news) (h : Q v s)
    (hs : subscripted slice false (.ref l) (.int 0 u) = operate [.ref l, .int 0 u] (getItem (.ref l) (.int 0 u)) := by with_unfolding_all rfl) :
    wpAny (model prog w) A (subscriptTail value slice (.ref l) (.int 0 u)) Q E s :=
  have hL : s.heap.IsList l #[v] := News.isList N hl
  tail_any hL.typeIs slot_list_getitem.lookup (wpAny_getItem_list hL (by decide) (by decide) (by rfl) h) hs
end Mine
namespace Mine
theorem part_eq {oct : List UInt8} {here k k' : Int} (h0 : 0 ≤ here) (hle : here ≤ (oct.length : Int)) (hk : 0 ≤ k) (e : k = k') :
    List.take ((if here + k < (oct.length : Int) then here + k else (oct.length : Int)).toNat - here.toNat) (List.drop here.toNat oct) = List.take ((here + k').toNat - here.toNat) (List.drop here.toNat oct) := by
  subst e
  rw [List.take_eq_take_iff, List.length_drop]
  split <;> omega
theorem vi {a b : Int} {t : Tok} (e : a = b) : Value.int a t = Value.int b t := by rw [e]
theorem ints_to {vs : List Value} {ns : List Int} {a b : Int} {t : Tok} (h : IntsAre vs ns) (e : a = b) : IntsAre (vs ++ [Value.int a t]) (ns ++ [b]) := by
  subst e
  exact h.append (ints_one _ _)
end Mine
end

namespace Mine
theorem back_front {B pre : List UInt8} {r k : Nat} (hk : k ≤ r) (hr : r ≤ B.length) : List.drop (pre.length + k) (pre ++ B.take r) ++ B.drop r = B.drop k := by
  rw [List.drop_append, List.drop_of_length_le (by omega), List.nil_append, Nat.add_sub_cancel_left,
    ← List.drop_append_of_le_length (by rw [List.length_take]; omega), List.take_append_drop]
theorem back_take {B pre : List UInt8} {r k : Nat} (hk : k ≤ r) : List.take (pre.length + k) (pre ++ B.take r) = pre ++ B.take k := by
  rw [List.take_append, List.take_of_length_le (by omega), Nat.add_sub_cancel_left, List.take_take, Nat.min_eq_left hk]
end Mine
namespace Mine
theorem most_in (x : Int) : 1 ≤ 1 + x.fmod 7 ∧ 1 + x.fmod 7 ≤ 7 := by
  have h := fmB x 7 (by decide)
  omega
end Mine

namespace Mine
section
variable {prog : Program} {w : World} {A : Around} {E : Value → Shared → Prop} {s : Shared} {env : Env} {h₀ : Heap} {x : Str} {px : Pos} {body : List Stmt} {Q : Flow → Shared → Prop}

def TurnPost (h₀ : Heap) (L : Addr) (I : Addr) (oI : Obj) (J : (Str → Option Value) → List (Addr × Obj) → Prop) (s₁ : Shared) (Q : Flow → Shared → Prop) (f : Flow) (s₂ : Shared) : Prop :=
  match f with
  | .ret v => Q (.ret v) s₂
  | .brk => Q .next s₂
  | _ => ∃ h' tk m' nx, s₂ = { s₁ with heap := h', toks := tk } ∧ Fr h₀ L h' m' ∧ News h₀ L h' ((I, oI) :: nx) ∧ J m' nx

set_option maxHeartbeats 3200000 in
theorem my_iter {l : Addr} {vs : List Value} {nn : Nat} {m₀ : Str → Option Value} {news : List (Addr × Obj)} (J : Nat → (Str → Option Value) → List (Addr × Obj) → Prop)
    (hh : A.handled = none) (hl : (l, listOf vs.toArray nn) ∈ news) (F : Fr h₀ env.locals s.heap m₀) (N : News h₀ env.locals s.heap news) (hj : J 0 m₀ news)
    (hJa : ∀ i m nx, J i m nx → nx.map (·.1) = news.map (·.1)) (hJl : ∀ i m nx, J i m nx → (l, listOf vs.toArray nn) ∈ nx)
    (turn : ∀ i v m₁ news₁ h tk oI, vs[i]? = some v → (∀ p ∈ news, p.1 < s.heap.objs.size) → J i m₁ news₁ → Fr h₀ env.locals h m₁ → News h₀ env.locals h ((s.heap.objs.size, oI) :: news₁) →
      wpAny (model prog w) A (assign (.Name x px) env v) (fun _ s₃ => wpAny (model prog w) A (execs body env) (TurnPost h₀ env.locals s.heap.objs.size oI (J (i + 1)) { s with heap := h, toks := tk } Q) E s₃) E { s with heap := h, toks := tk })
    (done : ∀ m₁ news₁ h tk, J vs.length m₁ news₁ → Fr h₀ env.locals h m₁ → News h₀ env.locals h news₁ → Q .next { s with heap := h, toks := tk }) :
    wpAny (model prog w) A (pyIter (.ref l)) (fun it s₂ => TurnsAt prog w A h₀ env (.Name x px) body Q E it s₂) E s := by
  have hol : s.heap.get? l = some (listOf vs.toArray nn) := (N _ hl).1
  have hls : s.heap.IsList l vs.toArray := ⟨_, hol, rfl, nn, rfl⟩
  have hne : l ≠ s.heap.objs.size := Nat.ne_of_lt (Heap.lt_size hol)
  have hlt : ∀ p ∈ news, p.1 < s.heap.objs.size := fun p hp => Heap.lt_size (N p hp).1
  have hJn : ∀ i m nx, J i m nx → ∀ p ∈ nx, p.1 < s.heap.objs.size := by
    intro i m nx hJ p hp
    have hm : p.1 ∈ nx.map (·.1) := List.mem_map_of_mem hp
    rw [hJa i m nx hJ] at hm
    obtain ⟨q, hq, e⟩ := List.mem_map.mp hm
    rw [← e]
    exact hlt q hq
  refine wpAny_pyIter_list hls ?_
  have W := Walks.list (prog := prog) (w := w) hh s.heap.objs.size l hne vs.toArray
  have hlen : vs.toArray.size = vs.length := by simp
  rw [hlen] at W
  have W' := KTurns.ofWalks (target := Expr.Name x px) W (fun i v s Q E _ hq => wpAny_of_eq (a := ()) rfl hq)
  refine ⟨_, _, _, vs.length, _, _, _, m₀, news, J, rfl, W', ?_, ?_, ?_, ⟨⟨_, Heap.get?_push_size _ rfl, rfl, rfl⟩, hls.at fun o e => Heap.get?_push_of_some _ e⟩, F.push _, (fun p hp => ⟨Heap.get?_push_of_some _ (N p hp).1, (N p hp).2⟩), hj, ?_, ?_⟩
  · intro hm
    rcases List.mem_cons.mp hm with e | hm
    · exact absurd F.ns.lt (e ▸ Nat.lt_irrefl _)
    · exact (N _ hl).2.1 ((List.mem_singleton.mp hm).symm)
  · intro b hb
    rw [List.mem_singleton.mp hb]
    exact next_is_new F
  · intro p hp hI
    exact absurd (Heap.lt_size (N p hp).1) ((List.mem_singleton.mp hI) ▸ Nat.lt_irrefl _)
  · intro i v m₁ news₁ hh' tk' own hin hP hJ hoff hown hget hfp hst F₁ N₁
    have hP' : vs[i]? = some v := by simpa using hP
    have hI0 : h₀.get? s.heap.objs.size = none := next_is_new F
    obtain ⟨⟨oI, hoI, _⟩, _⟩ := id hst
    have hIown : (s.heap.objs.size, oI) ∈ own := hfp _ (List.mem_cons.mpr (.inl rfl)) hI0 _ hoI
    have hlo : hh'.get? l = some (listOf vs.toArray nn) := (N₁ _ (List.mem_append.mpr (.inr (hJl _ _ _ hJ)))).1
    have N₂ : News h₀ env.locals hh' ((s.heap.objs.size, oI) :: news₁) := fun p hp => by
      rcases List.mem_cons.mp hp with rfl | hp
      · exact N₁ _ (List.mem_append.mpr (.inl hIown))
      · exact N₁ _ (List.mem_append.mpr (.inr hp))
    refine wpAny_mono (turn i v m₁ news₁ hh' tk' oI hP' hlt hJ F₁ N₂) (fun _ s₃ h₃ => wpAny_mono h₃ (fun f s₂ p => ?_) fun _ _ e => e) fun _ _ e => e
    have fin : (∃ h' tk m' nx, s₂ = { s with heap := h', toks := tk } ∧ Fr h₀ env.locals h' m' ∧ News h₀ env.locals h' ((s.heap.objs.size, oI) :: nx) ∧ J (i + 1) m' nx) →
        LoopStepU h₀ env.locals [s.heap.objs.size] own (J (i + 1)) { s with heap := hh', toks := tk' } .next s₂ := by
      rintro ⟨h', tk, m', nx, e, F', N', hm⟩
      refine ⟨rfl, h', tk, m', nx, e, F', fun p hp => ?_, fun p hp hq => ?_, hm⟩
      · rcases List.mem_append.mp hp with h | h
        · by_cases hI : p.1 = s.heap.objs.size
          · have h2 : hh'.get? p.1 = some p.2 := hget p h
            rw [hI, hoI] at h2
            have h3 : p = (s.heap.objs.size, oI) := Prod.ext hI (Option.some.inj h2).symm
            rw [h3]
            exact N' _ (.head _)
          · have h1 : p.1 = l := by
              rcases List.mem_cons.mp (hown p h) with h2 | h2
              · exact absurd h2 hI
              · exact List.mem_singleton.mp h2
            have h2 : hh'.get? p.1 = some p.2 := hget p h
            rw [h1, hlo] at h2
            have h3 : p = (l, listOf vs.toArray nn) := Prod.ext h1 (Option.some.inj h2).symm
            rw [h3]
            exact N' _ (.tail _ (hJl _ _ _ hm))
        · exact N' p (.tail _ h)
      · exact Nat.ne_of_lt (hJn _ _ _ hm p hp) (List.mem_singleton.mp hq)
    cases f with
    | ret v => exact .ret p
    | brk => exact .brk p
    | next => exact .next (fin p)
    | cont => exact .cont (fin p)
  · rintro h' tk m' news' F' N' _ hJ
    exact done m' news' h' tk hJ F' N'
end
end Mine

namespace Mine
/-- the law's statements, its scope, the loop's turn, and the two defs of the plain file: taken out of the row's own term -/
def lawBody : List Stmt := match PySem.Challenge.pw_ki0027_01.main.body with
  | [_, _, _, _, .FunctionDef _ _ b _ _ _ _ _ _ _] => b
  | _ => []
def lawScope : Scope := match PySem.Challenge.pw_ki0027_01.main.body with
  | [_, _, _, _, .FunctionDef _ _ _ _ _ _ sc _ _ _] => sc
  | _ => { kind := .function, names := [], isGenerator := false, isCoroutine := false }
def fileBody : List Stmt := match PySem.Challenge.pw_ki0027_01.main.body with
  | [_, _, _, .FunctionDef _ _ b _ _ _ _ _ _ _, _] => b
  | _ => []
def turnBody : List Stmt := match lawBody with
  | [_, _, _, _, _, _, _, _, _, _, .For _ _ b _ _, _] => b
  | _ => []
def endBody : List Stmt := match lawBody with
  | [_, _, _, _, _, _, _, _, _, _, f, r] => [f, r]
  | _ => []
def noArgs : Arguments := { posonlyargs := [], args := [], vararg := none, kwonlyargs := [], kw_defaults := [], kwarg := none, defaults := [] }
def readArgs : Arguments := match fileBody with
  | _ :: .FunctionDef _ a _ _ _ _ _ _ _ _ :: _ => a
  | _ => noArgs
def readBody : List Stmt := match fileBody with
  | _ :: .FunctionDef _ _ b _ _ _ _ _ _ _ :: _ => b
  | _ => []
def readScope : Scope := match fileBody with
  | _ :: .FunctionDef _ _ _ _ _ _ sc _ _ _ :: _ => sc
  | _ => lawScope
def seekArgs : Arguments := match fileBody with
  | _ :: _ :: .FunctionDef _ a _ _ _ _ _ _ _ _ :: _ => a
  | _ => noArgs
def seekBody : List Stmt := match fileBody with
  | _ :: _ :: .FunctionDef _ _ b _ _ _ _ _ _ _ :: _ => b
  | _ => []
def seekScope : Scope := match fileBody with
  | _ :: _ :: .FunctionDef _ _ _ _ _ _ sc _ _ _ :: _ => sc
  | _ => lawScope
abbrev ent (w : World) (k : Str) (t : Tok) (v : Value) : DictEntry := { hash := PyData.keyHash w.params k, key := .str k t, val := v }
abbrev obj (cls : Value) (data : Data) : Obj := { cls := cls, data := data }
end Mine

namespace Mine
/-- what stands still in the loop -/
structure Cst where
  w : World
  h₀ : Heap
  mg : Str → Option Value
  mb : Str → Option Value
  mean : ExcName → Option Value
  loose : List Str
  fa : Nat
  cd : Value
  L : Nat
  P : Nat
  dP : Nat
  S : Nat
  dS : Nat
  fs : Nat
  cs : Nat
  fr : Nat
  cr : Nat
  pl : Nat
  Lf : Nat
  aks : Nat
  akd : Nat
  l : Nat
  vs : List Value
  nn : Nat
  t1 : Tok
  t2 : Tok
  t3 : Tok
  t4 : Tok
  u1 : Tok
  u2 : Tok
  u3 : Tok
  u4 : Tok
  u5 : Tok
  u6 : Tok
  b1 : Value
  b2 : Value
  b3 : Value
  b4 : Value
  qs : Str
  ds : Value
  ms : Value
  xs : Value
  os : Obj
  vss : Array Value
  tqs : Tok
  qr : Str
  dr : Value
  mr : Value
  xr : Value
  or : Obj
  vsr : Array Value
  tqr : Tok
  o1 : Obj
  o2 : Obj
  o3 : Obj
  o4 : Obj
  tab : Array Value
  most : Int
  tm : Tok
  tm' : Tok
  oct : List UInt8
  to : Tok
  to' : Tok
/-- what a turn may change -/
structure Var where
  buf : Value
  len : Value
  rd : Value
  here : Int
  plc : Int
  tp : Tok
  th : Tok
  asks : List Value
  nas : Nat
  asked : List Value
  nad : Nat
  front : List UInt8
  tf : Tok
  free : Value
  behind : List UInt8
  tb : Tok
abbrev Cst.env (c : Cst) : Env := envOfC (Str.ofString "law") lawScope c.L c.fa c.cd
abbrev Cst.A (c : Cst) : Around := callerA.deeper c.env
structure Ok (c : Cst) : Prop where
  X : (hd.heap_39 c.w.params).In c.h₀
  T : Top topProg c.loose c.mean c.mg c.mb c.h₀
  B : Below callerA c.h₀ [] c.h₀
  C : CodeHd c.h₀ 71 67
  lt : 67 < c.L ∧ c.L + 1 < c.akd ∧ c.akd < c.aks ∧ c.aks < c.Lf ∧ c.Lf + 4 < c.pl ∧ c.pl < c.cr ∧ c.cr < c.fr ∧ c.fr < c.cs ∧ c.cs < c.fs ∧ c.fs < c.dS ∧ c.dS < c.S ∧ c.S < c.dP ∧ c.dP < c.P ∧ c.P < c.l
  ds1 : c.os.data = .fields c.vss
  ds2 : c.vss[1]? = some (.str c.qs c.tqs)
  dr1 : c.or.data = .fields c.vsr
  dr2 : c.vsr[1]? = some (.str c.qr c.tqr)
  d1 : c.o1.data = .cell (some (.ref c.pl))
  d2 : c.o2.data = .cell (some (.ref c.akd))
  d3 : c.o3.data = .cell (some (.int c.most c.tm))
  d4 : c.o4.data = .cell (some (.bytes c.oct.toArray c.to))
  hm : 1 ≤ c.most ∧ c.most ≤ 7
  ho : c.oct.length ≤ 40
def led (c : Cst) (v : Var) (ox : Obj) : List (Addr × Obj) := [
  (c.l, listOf c.vs.toArray c.nn),
  (c.P, instObj 61 c.dP),
  (c.dP, dictOf [ent c.w (Str.ofString "_buffer") c.t1 v.buf, ent c.w (Str.ofString "_length") c.t2 v.len, ent c.w (Str.ofString "file") c.t3 (.ref c.S), ent c.w (Str.ofString "_read") c.t4 v.rd] 4),
  (c.S, instObj 61 c.dS),
  (c.dS, dictOf [ent c.w (Str.ofString "_buffer") c.u1 c.b1, ent c.w (Str.ofString "_length") c.u2 c.b2, ent c.w (Str.ofString "file") c.u3 c.b3, ent c.w (Str.ofString "_read") c.u4 c.b4, ent c.w (Str.ofString "read") c.u5 (.ref c.fr), ent c.w (Str.ofString "seek") c.u6 (.ref c.fs)] 6),
  (c.fs, fnMade (Str.ofString "_law_seek") c.qs seekArgs seekBody seekScope [(Str.ofString "place", c.Lf + 1 + 1 + 1 + 1), (Str.ofString "asked", c.Lf + 1 + 1 + 1)] c.ds c.ms c.cs c.xs),
  (c.cs, c.os),
  (c.fr, fnMade (Str.ofString "_law_read") c.qr readArgs readBody readScope [(Str.ofString "place", c.Lf + 1 + 1 + 1 + 1), (Str.ofString "octets", c.Lf + 1), (Str.ofString "most", c.Lf + 1 + 1), (Str.ofString "asked", c.Lf + 1 + 1 + 1)] c.dr c.mr c.cr c.xr),
  (c.cr, c.or),
  (c.pl, listOf #[.int v.plc v.tp] 0),
  (c.Lf + 1 + 1 + 1 + 1, c.o1),
  (c.Lf + 1 + 1 + 1, c.o2),
  (c.Lf + 1 + 1, c.o3),
  (c.Lf + 1, c.o4),
  (c.aks, listOf v.asks.toArray v.nas),
  (c.akd, listOf v.asked.toArray v.nad),
  (c.L + 1, ox),
  (67, tabObj c.tab)]
/-- the frame's names -/
def names (c : Cst) (v : Var) (m : Str → Option Value) : Prop :=
  m (Str.ofString "octets") = some (.bytes c.oct.toArray c.to') ∧ m (Str.ofString "most") = some (.int c.most c.tm') ∧ m (Str.ofString "front") = some (.bytes v.front.toArray v.tf) ∧ m (Str.ofString "asked") = some (.ref c.akd) ∧ m (Str.ofString "asks") = some (.ref c.aks) ∧ m (Str.ofString "padded") = some (.ref c.P) ∧ m (Str.ofString "behind") = some (.bytes v.behind.toArray v.tb) ∧ m (Str.ofString "free") = some v.free ∧ m (Str.ofString "here") = some (.int v.here v.th)
/-- what holds between the turns, i of them done -/
structure Inv (c : Cst) (i : Nat) (v : Var) : Prop where
  ask : ∃ ns : List Int, IntsAre v.asks ns ∧ IntsAre v.asked ns ∧ ns.length ≤ i
  here : 0 ≤ v.here ∧ v.here ≤ (c.oct.length : Int)
  plc : v.here = v.plc
  beh : v.behind.length ≤ 6 * i
  mode : (v.rd = .none ∧ v.free = .none ∧ v.front = []) ∨
    ∃ (r : Nat) (tr tf' tB tl : Tok) (B pre : List UInt8), v.rd = .int r tr ∧ v.free = .int r tf' ∧ v.buf = .bytes B.toArray tB ∧ v.len = .int B.length tl ∧ r ≤ B.length ∧ v.front = B.drop r ∧ v.behind = pre ++ B.take r ∧ B.length ≤ 9 + 6 * i
def J (c : Cst) (i : Nat) (m : Str → Option Value) (nx : List (Addr × Obj)) : Prop :=
  ∃ v ox d, nx = led c v ox ∧ ox.data = .cell d ∧ names c v m ∧ Inv c i v
/-- the names laid out for the walk -/
def laid (c : Cst) (v : Var) (m : Str → Option Value) : Str → Option Value := fun y =>
  if y = Str.ofString "here" then some (.int v.here v.th) else if y = Str.ofString "free" then some v.free else if y = Str.ofString "behind" then some (.bytes v.behind.toArray v.tb) else if y = Str.ofString "padded" then some (.ref c.P) else if y = Str.ofString "asks" then some (.ref c.aks) else if y = Str.ofString "asked" then some (.ref c.akd) else if y = Str.ofString "front" then some (.bytes v.front.toArray v.tf) else if y = Str.ofString "most" then some (.int c.most c.tm') else if y = Str.ofString "octets" then some (.bytes c.oct.toArray c.to') else m y
theorem laid_eq {c : Cst} {v : Var} {m : Str → Option Value} (h : names c v m) : m = laid c v m := by
  obtain ⟨h1, h2, h3, h4, h5, h6, h7, h8, h9⟩ := h
  funext y
  unfold laid
  repeat' split
  all_goals first | (subst_vars; assumption) | rfl
/-- a turn's end -/
def TEnd (c : Cst) (i : Nat) (I : Nat) (oI : Obj) (s₁ : Shared) (f : Flow) (s₂ : Shared) : Prop :=
  f = .next ∧ ∃ h' tk m' v ox d, s₂ = { s₁ with heap := h', toks := tk } ∧ Fr c.h₀ c.L h' m' ∧ News c.h₀ c.L h' ((I, oI) :: led c v ox) ∧ ox.data = .cell d ∧ names c v m' ∧ Inv c i v
end Mine

namespace Mine
local macro_rules | `(tactic| walk_at "ite") => `(tactic| (k_here; k_openite; k_dflt (first | (refine' ite_pos ?hc ?_; (case hc => ((simp only [decide_eq_true_eq, beq_iff_eq, bne_iff_ne, ne_eq, Bool.not_eq_true', decide_eq_false_iff_not]); omega))) | (refine' ite_neg ?hc ?_; (case hc => ((simp only [decide_eq_true_eq, beq_iff_eq, bne_iff_ne, ne_eq, Bool.not_eq_true', decide_eq_false_iff_not]); omega))) | (refine' ite_neg ?hc ?_; (case hc => (intro hc'; simp at hc'))))))
local macro_rules | `(tactic| walk_at "call builtin:list.append") => `(tactic| (k_here; (with_reducible show wpAny _ _ (call (Value.builtin _) [Value.ref _, _]) _ _ _); k_dflt (refine' my_append ?k1 ?k2 ?k3 ?z ?_; (case k1 => k_asm); (case k2 => k_asm); (case k3 => k_upd); (case z => omega); k_whole); intro h' F' N'; (try k_sweep)))
local macro_rules | `(tactic| walk_at "call builtin:len") => `(tactic| (k_here; (with_reducible show wpAny _ _ (call (Value.builtin "len") [Value.bytes (List.toArray _) _]) _ _ _); (refine my_len (by (simp only [List.length_append, List.length_take, List.length_drop, List.length_nil]; omega)) ?_)))
local macro_rules | `(tactic| walk_at "call builtin:len") => `(tactic| (k_here; (with_reducible show wpAny _ _ (call (Value.builtin "len") [Value.bytes (List.toArray _) _]) _ _ _); (refine my_len (by omega) ?_)))
local macro_rules | `(tactic| walk_at "binaryOp Add bytes bytes") => `(tactic| (k_here; (with_reducible show wpAny _ _ (binaryOp Operator.Add (Value.bytes (List.toArray _) _) (Value.bytes (List.toArray _) _)) _ _ _); (refine my_add (by ((try simp only [List.length_append, List.length_take, List.length_drop, List.length_nil]); omega)) ?_); intro _ _))
local macro_rules | `(tactic| walk_at "compareOp NotEq bytes bytes") => `(tactic| (k_here; (with_reducible show wpAny _ _ (compareOp CmpOp.NotEq (Value.bytes (List.toArray _) _) (Value.bytes (List.toArray _) _)) _ _ _); (refine my_ne ?_ ?_)))
local macro_rules | `(tactic| walk_at "subscriptTail") => `(tactic| (k_here; (with_reducible show wpAny _ _ (subscriptTail _ (Expr.Slice _ _ none _) (Value.bytes (List.toArray _) _) (Value.ref _)) _ _ _); (with_reducible rename Fr _ _ _ _ => F'); (with_reducible rename News _ _ _ _ => N'); (refine my_slice (s := ⟨_, _, _, _, _⟩) F' N' (by constructor) (by constructor) (by ((try simp only [List.length_append, List.length_take, List.length_drop, List.length_nil]); omega)) (by first | exact picked_take (by omega) | exact picked_drop (by omega) | exact picked_both (by omega) (by omega)) ?_); intro h' t' k' F' N'; (try k_sweep)))
local macro_rules | `(tactic| walk_at "getMethod ref") => `(tactic| (k_here; k_dflt (refine' method_shadow ?k1 ?k2 ?k3 ?k4 ?k5 ?k6 ?k7 ?k8 ?k9 ?k10 ?k11 ?_; (case k1 => k_asm); (case k2 => k_asm); (case k3 => k_inst); (case k4 => k_is); (case k5 => k_is); (case k6 => k_is); (case k7 => k_is); (case k8 => k_is); (case k9 => k_is); (case k10 => k_get); (case k11 => k_handed); k_whole)))
local macro_rules | `(tactic| walk_at "subscriptTail Name Constant ref int") => `(tactic| (k_here; (with_reducible show wpAny _ _ (subscriptTail _ _ (Value.ref _) (Value.int 0 _)) _ _ _); (with_unfolding_all refine' my_item0 ?k1 ?k2 ?_ ?k6; (case k1 => k_asm); (case k2 => k_mem); (case k6 => with_unfolding_all rfl); k_whole)))
local macro_rules | `(tactic| walk_at "call type:type") => `(tactic| (k_here; (with_reducible show wpAny _ _ (call _ [Value.bytes _ _]) _ _ _); refine call_type_of (Tx := "bytes") (typeIs_bytes _ _ _) (by decide +kernel) ?_))
set_option maxHeartbeats 8000000 in
theorem turn_seek {c : Cst} {v : Var} {i : Nat} {I : Nat} {oI ox : Obj} {s : Shared} {m : Str → Option Value} {n : Int} {t : Tok} {Q : Flow → Shared → Prop} {E : Value → Shared → Prop}
    (O : Ok c) (hI : c.l < I) (hi : i < 51) (H : Inv c i v) (hx : ox.data = .cell (some (.int n t))) (F : Fr c.h₀ c.L s.heap (laid c v m)) (N : News c.h₀ c.L s.heap ((I, oI) :: led c v ox))
    (hn : n.fmod 5 = 4)
    (hQ : ∀ h' tk m' v ox d, Fr c.h₀ c.L h' m' → News c.h₀ c.L h' ((I, oI) :: led c v ox) → ox.data = .cell d → names c v m' → Inv c (i + 1) v → Q .next { s with heap := h', toks := tk }) :
    wpAny (model PySem.Challenge.rw_ki0027_01.row.prog c.w) c.A (execs turnBody c.env) Q E s := by
  obtain ⟨X, T, B, C, lt, ds1, ds2, dr1, dr2, d1, d2, d3, d4, hm, ho⟩ := O
  revert X
  k_fill
  intro X
  rcases c with ⟨w, h₀, mg, mb, mean, loose, fa, cd, L, P, dP, S, dS, fs, cs, fr, cr, pl, Lf, aks, akd, l, vs, nn, t1, t2, t3, t4, u1, u2, u3, u4, u5, u6, b1, b2, b3, b4, qs, ds, ms, xs, os, vss, tqs, qr, dr, mr, xr, or, vsr, tqr, o1, o2, o3, o4, tab, most, tm, tm', oct, to, to'⟩
  rcases v with ⟨buf, len, rd, here, plc, tp, th, asks, nas, asked, nad, front, tf, free, behind, tb⟩
  obtain ⟨⟨ns, ha1, ha2, hnl⟩, hh, hpl, hb, mode⟩ := H
  obtain ⟨hp, gens, drawn, toks, oss⟩ := s
  delta laid at F
  dsimp only [Cst.A, Cst.env] at *
  subst hpl
  have hal1 : asks.length = ns.length := ha1.length
  have hal2 : asked.length = ns.length := ha2.length
  have hk5 := fm5 n
  clear mode
  have hoff := fmB (n.fdiv 5) ((oct.length : Int) + 1) (by omega)
  dsimp only [led, ent, turnBody, lawBody, lawScope, seekArgs, seekBody, seekScope, readArgs, readBody, readScope, fileBody, PySem.Challenge.pw_ki0027_01] at N ⊢
  replace hQ := fun h' tk m' buf len rd here plc tp th asks nas asked nad front tf free behind tb => hQ h' tk m' ⟨buf, len, rd, here, plc, tp, th, asks, nas, asked, nad, front, tf, free, behind, tb⟩
  dsimp only [led, names, ent, seekArgs, seekBody, seekScope, readArgs, readBody, readScope, fileBody, PySem.Challenge.pw_ki0027_01] at hQ
  w_top off
  k_steps
  (with_reducible rename Fr _ _ _ _ => FE)
  (with_reducible rename News _ _ _ _ => NE)
  dsimp only
  have NE' := nw1 (nw1 NE)
  refine' hQ _ _ _ _ _ _ _ _ _ _ _ _ _ _ [] _ .none behind _ _ _ FE NE' hx ?nm9 ?iv9
  case nm9 => refine ⟨?_, ?_, ?_, ?_, ?_, ?_, ?_, ?_, ?_⟩ <;> (repeat' (first | (with_reducible exact if_pos rfl) | (refine Eq.trans (if_neg (by decide)) ?_)))
  case iv9 =>
    refine ⟨⟨ns ++ [_], ha1.append (ints_one _ _), ha2.append (ints_one _ _), ?_⟩, ?_, rfl, ?_, .inl ⟨rfl, rfl, rfl⟩⟩
    · simp; omega
    · dsimp only; omega
    · dsimp only; omega
set_option maxHeartbeats 8000000 in
theorem turn_rn {c : Cst} {v : Var} {i : Nat} {I : Nat} {oI ox : Obj} {s : Shared} {m : Str → Option Value} {n : Int} {t : Tok} {Q : Flow → Shared → Prop} {E : Value → Shared → Prop}
    (O : Ok c) (hI : c.l < I) (hi : i < 51) (H : Inv c i v) (hx : ox.data = .cell (some (.int n t))) (F : Fr c.h₀ c.L s.heap (laid c v m)) (N : News c.h₀ c.L s.heap ((I, oI) :: led c v ox))
    (hn : n.fmod 5 < 2) (hmode : v.rd = .none ∧ v.free = .none ∧ v.front = [])
    (hQ : ∀ h' tk m' v ox d, Fr c.h₀ c.L h' m' → News c.h₀ c.L h' ((I, oI) :: led c v ox) → ox.data = .cell d → names c v m' → Inv c (i + 1) v → Q .next { s with heap := h', toks := tk }) :
    wpAny (model PySem.Challenge.rw_ki0027_01.row.prog c.w) c.A (execs turnBody c.env) Q E s := by
  obtain ⟨X, T, B, C, lt, ds1, ds2, dr1, dr2, d1, d2, d3, d4, hm, ho⟩ := O
  revert X
  k_fill
  intro X
  rcases c with ⟨w, h₀, mg, mb, mean, loose, fa, cd, L, P, dP, S, dS, fs, cs, fr, cr, pl, Lf, aks, akd, l, vs, nn, t1, t2, t3, t4, u1, u2, u3, u4, u5, u6, b1, b2, b3, b4, qs, ds, ms, xs, os, vss, tqs, qr, dr, mr, xr, or, vsr, tqr, o1, o2, o3, o4, tab, most, tm, tm', oct, to, to'⟩
  rcases v with ⟨buf, len, rd, here, plc, tp, th, asks, nas, asked, nad, front, tf, free, behind, tb⟩
  obtain ⟨⟨ns, ha1, ha2, hnl⟩, hh, hpl, hb, mode⟩ := H
  obtain ⟨hp, gens, drawn, toks, oss⟩ := s
  delta laid at F
  dsimp only [Cst.A, Cst.env] at *
  subst hpl
  have hal1 : asks.length = ns.length := ha1.length
  have hal2 : asked.length = ns.length := ha2.length
  have hk5 := fm5 n
  clear mode
  obtain ⟨h1, h2, h3⟩ := hmode
  try dsimp only at h1 h2 h3
  subst h1 h2
  have hfl : front.length = 0 := by rw [h3]; rfl
  have hsz := fmB (n.fdiv 5) 7 (by omega)
  dsimp only [led, ent, turnBody, lawBody, lawScope, seekArgs, seekBody, seekScope, readArgs, readBody, readScope, fileBody, PySem.Challenge.pw_ki0027_01] at N ⊢
  replace hQ := fun h' tk m' buf len rd here plc tp th asks nas asked nad front tf free behind tb => hQ h' tk m' ⟨buf, len, rd, here, plc, tp, th, asks, nas, asked, nad, front, tf, free, behind, tb⟩
  dsimp only [led, names, ent, seekArgs, seekBody, seekScope, readArgs, readBody, readScope, fileBody, PySem.Challenge.pw_ki0027_01] at hQ
  w_top off
  k_steps
  · refine (show _ = _ from ?_)
    rw [h3]
    exact part_eq hh.1 hh.2 (by omega) (by simp)
  (with_reducible rename Fr _ _ _ _ => FE)
  (with_reducible rename News _ _ _ _ => NE)
  dsimp only
  have NE' := nw1 (nw1 NE)
  refine' hQ _ _ _ _ _ _ _ _ _ _ _ _ _ _ [] _ .none _ _ _ _ FE NE' hx ?nm9 ?iv9
  case nm9 => refine ⟨?_, ?_, ?_, ?_, ?_, ?_, ?_, ?_, ?_⟩ <;> (repeat' (first | (with_reducible exact if_pos rfl) | (refine Eq.trans (if_neg (by decide)) ?_)))
  case iv9 =>
    refine ⟨⟨ns ++ [_], ints_to ha1 rfl, ints_to ha2 (by omega), ?_⟩, ?_, ?_, ?_, .inl ⟨rfl, rfl, rfl⟩⟩
    · simp; omega
    · simp only [List.length_take, List.length_drop]; omega
    · simp only [List.length_take, List.length_drop]; omega
    · simp only [List.length_append, List.length_take, List.length_drop]; omega
set_option maxHeartbeats 8000000 in
theorem turn_ri {c : Cst} {v : Var} {i : Nat} {I : Nat} {oI ox : Obj} {s : Shared} {m : Str → Option Value} {n : Int} {t : Tok} {Q : Flow → Shared → Prop} {E : Value → Shared → Prop}
    (O : Ok c) (hI : c.l < I) (hi : i < 51) (H : Inv c i v) (hx : ox.data = .cell (some (.int n t))) (F : Fr c.h₀ c.L s.heap (laid c v m)) (N : News c.h₀ c.L s.heap ((I, oI) :: led c v ox))
    {r : Nat} {tr tf' tB tl : Tok} {B' pre : List UInt8} (hn : n.fmod 5 < 2) (hmode : v.rd = .int r tr ∧ v.free = .int r tf' ∧ v.buf = .bytes B'.toArray tB ∧ v.len = .int B'.length tl ∧ r ≤ B'.length ∧ v.front = B'.drop r ∧ v.behind = pre ++ B'.take r ∧ B'.length ≤ 9 + 6 * i)
    (hsf : (n.fdiv 5).fmod 7 ≤ (v.front.length : Int))
    (hQ : ∀ h' tk m' v ox d, Fr c.h₀ c.L h' m' → News c.h₀ c.L h' ((I, oI) :: led c v ox) → ox.data = .cell d → names c v m' → Inv c (i + 1) v → Q .next { s with heap := h', toks := tk }) :
    wpAny (model PySem.Challenge.rw_ki0027_01.row.prog c.w) c.A (execs turnBody c.env) Q E s := by
  obtain ⟨X, T, B, C, lt, ds1, ds2, dr1, dr2, d1, d2, d3, d4, hm, ho⟩ := O
  revert X
  k_fill
  intro X
  rcases c with ⟨w, h₀, mg, mb, mean, loose, fa, cd, L, P, dP, S, dS, fs, cs, fr, cr, pl, Lf, aks, akd, l, vs, nn, t1, t2, t3, t4, u1, u2, u3, u4, u5, u6, b1, b2, b3, b4, qs, ds, ms, xs, os, vss, tqs, qr, dr, mr, xr, or, vsr, tqr, o1, o2, o3, o4, tab, most, tm, tm', oct, to, to'⟩
  rcases v with ⟨buf, len, rd, here, plc, tp, th, asks, nas, asked, nad, front, tf, free, behind, tb⟩
  obtain ⟨⟨ns, ha1, ha2, hnl⟩, hh, hpl, hb, mode⟩ := H
  obtain ⟨hp, gens, drawn, toks, oss⟩ := s
  delta laid at F
  dsimp only [Cst.A, Cst.env] at *
  subst hpl
  have hal1 : asks.length = ns.length := ha1.length
  have hal2 : asked.length = ns.length := ha2.length
  have hk5 := fm5 n
  clear mode
  obtain ⟨h1, h2, h3, h4, h5, h6, h7, h8⟩ := hmode
  try dsimp only at h1 h2 h3 h4 h6 h7 hsf
  subst h1 h2 h3 h4
  have hsz := fmB (n.fdiv 5) 7 (by omega)
  have hfl : front.length = B'.length - r := by rw [h6, List.length_drop]
  dsimp only [led, ent, turnBody, lawBody, lawScope, seekArgs, seekBody, seekScope, readArgs, readBody, readScope, fileBody, PySem.Challenge.pw_ki0027_01] at N ⊢
  replace hQ := fun h' tk m' buf len rd here plc tp th asks nas asked nad front tf free behind tb => hQ h' tk m' ⟨buf, len, rd, here, plc, tp, th, asks, nas, asked, nad, front, tf, free, behind, tb⟩
  dsimp only [led, names, ent, seekArgs, seekBody, seekScope, readArgs, readBody, readScope, fileBody, PySem.Challenge.pw_ki0027_01] at hQ
  w_top off
  k_steps
  · refine (show _ = _ from ?_)
    rw [h6, Int.toNat_natCast]
    congr 1
    omega
  (with_reducible rename Fr _ _ _ _ => FE)
  (with_reducible rename News _ _ _ _ => NE)
  dsimp only
  have NE' := nw1 (nw1 NE)
  refine' hQ _ _ _ _ _ _ _ _ _ _ _ _ _ _ _ _ _ _ _ _ _ FE NE' hx ?nm9 ?iv9
  case nm9 => refine ⟨?_, ?_, ?_, ?_, ?_, ?_, ?_, ?_, ?_⟩ <;> (repeat' (first | (with_reducible exact if_pos rfl) | (refine Eq.trans (if_neg (by decide)) ?_)))
  case iv9 =>
    refine ⟨⟨ns, ha1, ha2, by omega⟩, hh, rfl, ?_, .inr ⟨r + ((n.fdiv 5).fmod 7).toNat, _, _, _, _, B', pre, vi (by omega), vi (by omega), rfl, rfl, by omega, ?_, ?_, by omega⟩⟩
    · simp only [List.length_append, List.length_take, List.length_drop]; omega
    · dsimp only
      rw [h6, List.drop_drop]
    · dsimp only
      rw [h7, h6, List.append_assoc, List.take_add]
set_option maxHeartbeats 8000000 in
theorem turn_ro {c : Cst} {v : Var} {i : Nat} {I : Nat} {oI ox : Obj} {s : Shared} {m : Str → Option Value} {n : Int} {t : Tok} {Q : Flow → Shared → Prop} {E : Value → Shared → Prop}
    (O : Ok c) (hI : c.l < I) (hi : i < 51) (H : Inv c i v) (hx : ox.data = .cell (some (.int n t))) (F : Fr c.h₀ c.L s.heap (laid c v m)) (N : News c.h₀ c.L s.heap ((I, oI) :: led c v ox))
    {r : Nat} {tr tf' tB tl : Tok} {B' pre : List UInt8} (hn : n.fmod 5 < 2) (hmode : v.rd = .int r tr ∧ v.free = .int r tf' ∧ v.buf = .bytes B'.toArray tB ∧ v.len = .int B'.length tl ∧ r ≤ B'.length ∧ v.front = B'.drop r ∧ v.behind = pre ++ B'.take r ∧ B'.length ≤ 9 + 6 * i)
    (hsf : (v.front.length : Int) < (n.fdiv 5).fmod 7)
    (hQ : ∀ h' tk m' v ox d, Fr c.h₀ c.L h' m' → News c.h₀ c.L h' ((I, oI) :: led c v ox) → ox.data = .cell d → names c v m' → Inv c (i + 1) v → Q .next { s with heap := h', toks := tk }) :
    wpAny (model PySem.Challenge.rw_ki0027_01.row.prog c.w) c.A (execs turnBody c.env) Q E s := by
  obtain ⟨X, T, B, C, lt, ds1, ds2, dr1, dr2, d1, d2, d3, d4, hm, ho⟩ := O
  revert X
  k_fill
  intro X
  rcases c with ⟨w, h₀, mg, mb, mean, loose, fa, cd, L, P, dP, S, dS, fs, cs, fr, cr, pl, Lf, aks, akd, l, vs, nn, t1, t2, t3, t4, u1, u2, u3, u4, u5, u6, b1, b2, b3, b4, qs, ds, ms, xs, os, vss, tqs, qr, dr, mr, xr, or, vsr, tqr, o1, o2, o3, o4, tab, most, tm, tm', oct, to, to'⟩
  rcases v with ⟨buf, len, rd, here, plc, tp, th, asks, nas, asked, nad, front, tf, free, behind, tb⟩
  obtain ⟨⟨ns, ha1, ha2, hnl⟩, hh, hpl, hb, mode⟩ := H
  obtain ⟨hp, gens, drawn, toks, oss⟩ := s
  delta laid at F
  dsimp only [Cst.A, Cst.env] at *
  subst hpl
  have hal1 : asks.length = ns.length := ha1.length
  have hal2 : asked.length = ns.length := ha2.length
  have hk5 := fm5 n
  clear mode
  obtain ⟨h1, h2, h3, h4, h5, h6, h7, h8⟩ := hmode
  try dsimp only at h1 h2 h3 h4 h6 h7 hsf
  subst h1 h2 h3 h4
  have hsz := fmB (n.fdiv 5) 7 (by omega)
  have hfl : front.length = B'.length - r := by rw [h6, List.length_drop]
  dsimp only [led, ent, turnBody, lawBody, lawScope, seekArgs, seekBody, seekScope, readArgs, readBody, readScope, fileBody, PySem.Challenge.pw_ki0027_01] at N ⊢
  replace hQ := fun h' tk m' buf len rd here plc tp th asks nas asked nad front tf free behind tb => hQ h' tk m' ⟨buf, len, rd, here, plc, tp, th, asks, nas, asked, nad, front, tf, free, behind, tb⟩
  dsimp only [led, names, ent, seekArgs, seekBody, seekScope, readArgs, readBody, readScope, fileBody, PySem.Challenge.pw_ki0027_01] at hQ
  w_top off
  k_steps
  · refine (show _ = _ from ?_)
    rw [Int.toNat_natCast, ← h6]
    exact congrArg (front ++ ·) (part_eq hh.1 hh.2 (by omega) (by omega))
  (with_reducible rename Fr _ _ _ _ => FE)
  (with_reducible rename News _ _ _ _ => NE)
  dsimp only
  have NE' := nw1 (nw1 NE)
  refine' hQ _ _ _ _ _ _ _ _ _ _ _ _ _ _ [] _ .none _ _ _ _ FE NE' hx ?nm9 ?iv9
  case nm9 => refine ⟨?_, ?_, ?_, ?_, ?_, ?_, ?_, ?_, ?_⟩ <;> (repeat' (first | (with_reducible exact if_pos rfl) | (refine Eq.trans (if_neg (by decide)) ?_)))
  case iv9 =>
    refine ⟨⟨ns ++ [_], ints_to ha1 rfl, ints_to ha2 (by omega), ?_⟩, ?_, ?_, ?_, .inl ⟨rfl, rfl, rfl⟩⟩
    · simp; omega
    · simp only [List.length_take, List.length_drop]; omega
    · simp only [List.length_take, List.length_drop]; omega
    · simp only [List.length_append, List.length_take, List.length_drop]; omega
set_option maxHeartbeats 8000000 in
theorem turn_pn {c : Cst} {v : Var} {i : Nat} {I : Nat} {oI ox : Obj} {s : Shared} {m : Str → Option Value} {n : Int} {t : Tok} {Q : Flow → Shared → Prop} {E : Value → Shared → Prop}
    (O : Ok c) (hI : c.l < I) (hi : i < 51) (H : Inv c i v) (hx : ox.data = .cell (some (.int n t))) (F : Fr c.h₀ c.L s.heap (laid c v m)) (N : News c.h₀ c.L s.heap ((I, oI) :: led c v ox))
    (hn : n.fmod 5 = 3) (hmode : v.rd = .none ∧ v.free = .none ∧ v.front = [])
    (hQ : ∀ h' tk m' v ox d, Fr c.h₀ c.L h' m' → News c.h₀ c.L h' ((I, oI) :: led c v ox) → ox.data = .cell d → names c v m' → Inv c (i + 1) v → Q .next { s with heap := h', toks := tk }) :
    wpAny (model PySem.Challenge.rw_ki0027_01.row.prog c.w) c.A (execs turnBody c.env) Q E s := by
  obtain ⟨X, T, B, C, lt, ds1, ds2, dr1, dr2, d1, d2, d3, d4, hm, ho⟩ := O
  revert X
  k_fill
  intro X
  rcases c with ⟨w, h₀, mg, mb, mean, loose, fa, cd, L, P, dP, S, dS, fs, cs, fr, cr, pl, Lf, aks, akd, l, vs, nn, t1, t2, t3, t4, u1, u2, u3, u4, u5, u6, b1, b2, b3, b4, qs, ds, ms, xs, os, vss, tqs, qr, dr, mr, xr, or, vsr, tqr, o1, o2, o3, o4, tab, most, tm, tm', oct, to, to'⟩
  rcases v with ⟨buf, len, rd, here, plc, tp, th, asks, nas, asked, nad, front, tf, free, behind, tb⟩
  obtain ⟨⟨ns, ha1, ha2, hnl⟩, hh, hpl, hb, mode⟩ := H
  obtain ⟨hp, gens, drawn, toks, oss⟩ := s
  delta laid at F
  dsimp only [Cst.A, Cst.env] at *
  subst hpl
  have hal1 : asks.length = ns.length := ha1.length
  have hal2 : asked.length = ns.length := ha2.length
  have hk5 := fm5 n
  clear mode
  obtain ⟨h1, h2, h3⟩ := hmode
  try dsimp only at h1 h2 h3
  subst h1 h2
  have hfl : front.length = 0 := by rw [h3]; rfl
  have hsz := fmB (n.fdiv 5) 4 (by omega)
  dsimp only [led, ent, turnBody, lawBody, lawScope, seekArgs, seekBody, seekScope, readArgs, readBody, readScope, fileBody, PySem.Challenge.pw_ki0027_01] at N ⊢
  replace hQ := fun h' tk m' buf len rd here plc tp th asks nas asked nad front tf free behind tb => hQ h' tk m' ⟨buf, len, rd, here, plc, tp, th, asks, nas, asked, nad, front, tf, free, behind, tb⟩
  dsimp only [led, names, ent, seekArgs, seekBody, seekScope, readArgs, readBody, readScope, fileBody, PySem.Challenge.pw_ki0027_01] at hQ
  w_top off
  k_steps
  (with_reducible rename Fr _ _ _ _ => FE)
  (with_reducible rename News _ _ _ _ => NE)
  try dsimp only
  have NE' := nw1 (nw1 (nw1 NE))
  have hlen9 : (List.map (fun z : Int => z.toNat.toUInt8) (List.map (fun k' => (n + 83 * k').fmod 256) (rangeKs 0 ((n.fdiv 5).fmod 4 - 0).toNat))).length = ((n.fdiv 5).fmod 4 - 0).toNat := by
    rw [List.length_map, List.length_map, rangeKs_length]
  refine' hQ _ _ _ _ _ _ _ _ _ _ _ _ _ _ (List.map (fun z : Int => z.toNat.toUInt8) (List.map (fun k' => (n + 83 * k').fmod 256) (rangeKs 0 ((n.fdiv 5).fmod 4 - 0).toNat))) _ _ _ _ _ _ FE NE' hx ?nm9 ?iv9
  case nm9 => refine ⟨?_, ?_, ?_, ?_, ?_, ?_, ?_, ?_, ?_⟩ <;> (repeat' (first | (with_reducible exact if_pos rfl) | (refine Eq.trans (if_neg (by decide)) ?_) | (exact if_pos rfl)))
  case iv9 =>
    refine ⟨⟨ns, ha1, ha2, by omega⟩, hh, rfl, ?_, .inr ⟨0, _, _, _, _, (List.map (fun z : Int => z.toNat.toUInt8) (List.map (fun k' => (n + 83 * k').fmod 256) (rangeKs 0 ((n.fdiv 5).fmod 4 - 0).toNat))), behind, vi rfl, vi rfl, rfl, vi ?_, Nat.zero_le _, rfl, ?_, ?_⟩⟩
    · dsimp only; omega
    · rw [hlen9]
    · simp
    · rw [hlen9]; omega
set_option maxHeartbeats 8000000 in
theorem turn_pb {c : Cst} {v : Var} {i : Nat} {I : Nat} {oI ox : Obj} {s : Shared} {m : Str → Option Value} {n : Int} {t : Tok} {Q : Flow → Shared → Prop} {E : Value → Shared → Prop}
    (O : Ok c) (hI : c.l < I) (hi : i < 51) (H : Inv c i v) (hx : ox.data = .cell (some (.int n t))) (F : Fr c.h₀ c.L s.heap (laid c v m)) (N : News c.h₀ c.L s.heap ((I, oI) :: led c v ox))
    (hn : n.fmod 5 = 2) (hmode : v.rd = .none ∧ v.free = .none ∧ v.front = [])
    (hQ : ∀ h' tk m' v ox d, Fr c.h₀ c.L h' m' → News c.h₀ c.L h' ((I, oI) :: led c v ox) → ox.data = .cell d → names c v m' → Inv c (i + 1) v → Q .next { s with heap := h', toks := tk }) :
    wpAny (model PySem.Challenge.rw_ki0027_01.row.prog c.w) c.A (execs turnBody c.env) Q E s := by
  obtain ⟨X, T, B, C, lt, ds1, ds2, dr1, dr2, d1, d2, d3, d4, hm, ho⟩ := O
  revert X
  k_fill
  intro X
  rcases c with ⟨w, h₀, mg, mb, mean, loose, fa, cd, L, P, dP, S, dS, fs, cs, fr, cr, pl, Lf, aks, akd, l, vs, nn, t1, t2, t3, t4, u1, u2, u3, u4, u5, u6, b1, b2, b3, b4, qs, ds, ms, xs, os, vss, tqs, qr, dr, mr, xr, or, vsr, tqr, o1, o2, o3, o4, tab, most, tm, tm', oct, to, to'⟩
  rcases v with ⟨buf, len, rd, here, plc, tp, th, asks, nas, asked, nad, front, tf, free, behind, tb⟩
  obtain ⟨⟨ns, ha1, ha2, hnl⟩, hh, hpl, hb, mode⟩ := H
  obtain ⟨hp, gens, drawn, toks, oss⟩ := s
  delta laid at F
  dsimp only [Cst.A, Cst.env] at *
  subst hpl
  have hal1 : asks.length = ns.length := ha1.length
  have hal2 : asked.length = ns.length := ha2.length
  have hk5 := fm5 n
  clear mode
  obtain ⟨h1, h2, h3⟩ := hmode
  try dsimp only at h1 h2 h3
  subst h1 h2
  have hfl : front.length = 0 := by rw [h3]; rfl
  have hct := fmB (n.fdiv 5) (1 + (behind.length : Int)) (by omega)
  dsimp only [led, ent, turnBody, lawBody, lawScope, seekArgs, seekBody, seekScope, readArgs, readBody, readScope, fileBody, PySem.Challenge.pw_ki0027_01] at N ⊢
  replace hQ := fun h' tk m' buf len rd here plc tp th asks nas asked nad front tf free behind tb => hQ h' tk m' ⟨buf, len, rd, here, plc, tp, th, asks, nas, asked, nad, front, tf, free, behind, tb⟩
  dsimp only [led, names, ent, seekArgs, seekBody, seekScope, readArgs, readBody, readScope, fileBody, PySem.Challenge.pw_ki0027_01] at hQ
  w_top off
  k_steps
  (with_reducible rename Fr _ _ _ _ => FE)
  (with_reducible rename News _ _ _ _ => NE)
  dsimp only
  have NE' := nw1 (nw1 NE)
  refine' hQ _ _ _ _ _ _ _ _ _ _ _ _ _ _ _ _ _ _ _ _ _ FE NE' hx ?nm9 ?iv9
  case nm9 => refine ⟨?_, ?_, ?_, ?_, ?_, ?_, ?_, ?_, ?_⟩ <;> (repeat' (first | (with_reducible exact if_pos rfl) | (refine Eq.trans (if_neg (by decide)) ?_)))
  case iv9 =>
    refine ⟨⟨ns, ha1, ha2, by omega⟩, hh, rfl, ?_, .inr ⟨0, _, _, _, _, _, _, vi rfl, vi rfl, rfl, rfl, Nat.zero_le _, ?_, (List.append_nil _).symm, ?_⟩⟩
    · simp only [List.length_take]; omega
    · dsimp only
      rw [h3, List.append_nil, List.drop_zero]
    · simp only [List.length_drop]; omega
set_option maxHeartbeats 8000000 in
theorem turn_pi {c : Cst} {v : Var} {i : Nat} {I : Nat} {oI ox : Obj} {s : Shared} {m : Str → Option Value} {n : Int} {t : Tok} {Q : Flow → Shared → Prop} {E : Value → Shared → Prop}
    (O : Ok c) (hI : c.l < I) (hi : i < 51) (H : Inv c i v) (hx : ox.data = .cell (some (.int n t))) (F : Fr c.h₀ c.L s.heap (laid c v m)) (N : News c.h₀ c.L s.heap ((I, oI) :: led c v ox))
    {r : Nat} {tr tf' tB tl : Tok} {B' pre : List UInt8} (hn : n.fmod 5 = 2 ∨ n.fmod 5 = 3) (hmode : v.rd = .int r tr ∧ v.free = .int r tf' ∧ v.buf = .bytes B'.toArray tB ∧ v.len = .int B'.length tl ∧ r ≤ B'.length ∧ v.front = B'.drop r ∧ v.behind = pre ++ B'.take r ∧ B'.length ≤ 9 + 6 * i)
    (hQ : ∀ h' tk m' v ox d, Fr c.h₀ c.L h' m' → News c.h₀ c.L h' ((I, oI) :: led c v ox) → ox.data = .cell d → names c v m' → Inv c (i + 1) v → Q .next { s with heap := h', toks := tk }) :
    wpAny (model PySem.Challenge.rw_ki0027_01.row.prog c.w) c.A (execs turnBody c.env) Q E s := by
  obtain ⟨X, T, B, C, lt, ds1, ds2, dr1, dr2, d1, d2, d3, d4, hm, ho⟩ := O
  revert X
  k_fill
  intro X
  rcases c with ⟨w, h₀, mg, mb, mean, loose, fa, cd, L, P, dP, S, dS, fs, cs, fr, cr, pl, Lf, aks, akd, l, vs, nn, t1, t2, t3, t4, u1, u2, u3, u4, u5, u6, b1, b2, b3, b4, qs, ds, ms, xs, os, vss, tqs, qr, dr, mr, xr, or, vsr, tqr, o1, o2, o3, o4, tab, most, tm, tm', oct, to, to'⟩
  rcases v with ⟨buf, len, rd, here, plc, tp, th, asks, nas, asked, nad, front, tf, free, behind, tb⟩
  obtain ⟨⟨ns, ha1, ha2, hnl⟩, hh, hpl, hb, mode⟩ := H
  obtain ⟨hp, gens, drawn, toks, oss⟩ := s
  delta laid at F
  dsimp only [Cst.A, Cst.env] at *
  subst hpl
  have hal1 : asks.length = ns.length := ha1.length
  have hal2 : asked.length = ns.length := ha2.length
  have hk5 := fm5 n
  clear mode
  obtain ⟨h1, h2, h3, h4, h5, h6, h7, h8⟩ := hmode
  try dsimp only at h1 h2 h3 h4 h6 h7
  subst h1 h2 h3 h4
  have hfl : front.length = B'.length - r := by rw [h6, List.length_drop]
  have hbl : behind.length = pre.length + r := by rw [h7, List.length_append, List.length_take]; omega
  have hct := fmB (n.fdiv 5) (1 + (r : Int)) (by omega)
  dsimp only [led, ent, turnBody, lawBody, lawScope, seekArgs, seekBody, seekScope, readArgs, readBody, readScope, fileBody, PySem.Challenge.pw_ki0027_01] at N ⊢
  replace hQ := fun h' tk m' buf len rd here plc tp th asks nas asked nad front tf free behind tb => hQ h' tk m' ⟨buf, len, rd, here, plc, tp, th, asks, nas, asked, nad, front, tf, free, behind, tb⟩
  dsimp only [led, names, ent, seekArgs, seekBody, seekScope, readArgs, readBody, readScope, fileBody, PySem.Challenge.pw_ki0027_01] at hQ
  w_top off
  k_steps
  · (with_reducible rename Fr _ _ _ _ => FE)
    (with_reducible rename News _ _ _ _ => NE)
    try dsimp only
    have NE' := nw1 (nw1 NE)
    have hkk : ((behind.length : Int) - (n.fdiv 5).fmod (1 + (r : Int))).toNat = pre.length + (r - ((n.fdiv 5).fmod (1 + (r : Int))).toNat) := by omega
    refine' hQ _ _ _ _ _ _ _ _ _ _ _ _ _ _ _ _ _ _ _ _ _ FE NE' hx ?nm8 ?iv8
    case nm8 => refine ⟨?_, ?_, ?_, ?_, ?_, ?_, ?_, ?_, ?_⟩ <;> (repeat' (first | (with_reducible exact if_pos rfl) | (refine Eq.trans (if_neg (by decide)) ?_)))
    case iv8 =>
      refine ⟨⟨ns, ha1, ha2, by omega⟩, hh, rfl, ?_, .inr ⟨r - ((n.fdiv 5).fmod (1 + (r : Int))).toNat, _, _, _, _, B', pre, vi ?_, vi ?_, rfl, rfl, by omega, ?_, ?_, by omega⟩⟩
      · simp only [List.length_take]; omega
      · simp only [List.length_drop]; omega
      · omega
      · dsimp only
        rw [hkk, h6, h7]
        exact back_front (by omega) h5
      · dsimp only
        rw [hkk, h7]
        exact back_take (by omega)
  · (with_reducible rename Fr _ _ _ _ => FE)
    (with_reducible rename News _ _ _ _ => NE)
    try dsimp only
    have NE' := nw1 (nw1 NE)
    have hkk : ((behind.length : Int) - (n.fdiv 5).fmod (1 + (r : Int))).toNat = pre.length + (r - ((n.fdiv 5).fmod (1 + (r : Int))).toNat) := by omega
    refine' hQ _ _ _ _ _ _ _ _ _ _ _ _ _ _ _ _ _ _ _ _ _ FE NE' hx ?nm9 ?iv9
    case nm9 => refine ⟨?_, ?_, ?_, ?_, ?_, ?_, ?_, ?_, ?_⟩ <;> (repeat' (first | (with_reducible exact if_pos rfl) | (refine Eq.trans (if_neg (by decide)) ?_)))
    case iv9 =>
      refine ⟨⟨ns, ha1, ha2, by omega⟩, hh, rfl, ?_, .inr ⟨r - ((n.fdiv 5).fmod (1 + (r : Int))).toNat, _, _, _, _, B', pre, vi ?_, vi ?_, rfl, rfl, by omega, ?_, ?_, by omega⟩⟩
      · simp only [List.length_take]; omega
      · simp only [List.length_drop]; omega
      · omega
      · dsimp only
        rw [hkk, h6, h7]
        exact back_front (by omega) h5
      · dsimp only
        rw [hkk, h7]
        exact back_take (by omega)
end Mine

namespace Mine
theorem turn_any {c : Cst} {v : Var} {i : Nat} {I : Nat} {oI ox : Obj} {s : Shared} {m : Str → Option Value} {n : Int} {t : Tok} {Q : Flow → Shared → Prop} {E : Value → Shared → Prop}
    (O : Ok c) (hI : c.l < I) (hi : i < 51) (H : Inv c i v) (hx : ox.data = .cell (some (.int n t))) (F : Fr c.h₀ c.L s.heap (laid c v m)) (N : News c.h₀ c.L s.heap ((I, oI) :: led c v ox))
    (hQ : ∀ h' tk m' v ox d, Fr c.h₀ c.L h' m' → News c.h₀ c.L h' ((I, oI) :: led c v ox) → ox.data = .cell d → names c v m' → Inv c (i + 1) v → Q .next { s with heap := h', toks := tk }) :
    wpAny (model PySem.Challenge.rw_ki0027_01.row.prog c.w) c.A (execs turnBody c.env) Q E s := by
  have h5 := fm5 n
  by_cases h4 : n.fmod 5 = 4
  · exact turn_seek O hI hi H hx F N h4 hQ
  rcases H.mode with hm | ⟨r, tr, tf', tB, tl, B, pre, hm⟩
  · by_cases h1 : n.fmod 5 < 2
    · exact turn_rn O hI hi H hx F N h1 hm hQ
    by_cases h3 : n.fmod 5 = 3
    · exact turn_pn O hI hi H hx F N h3 hm hQ
    · exact turn_pb O hI hi H hx F N (by omega) hm hQ
  · by_cases h1 : n.fmod 5 < 2
    · by_cases hs : (n.fdiv 5).fmod 7 ≤ (v.front.length : Int)
      · exact turn_ri O hI hi H hx F N h1 hm hs hQ
      · exact turn_ro O hI hi H hx F N h1 hm (by omega) hQ
    · exact turn_pi O hI hi H hx F N (by omega) hm hQ
end Mine

namespace Mine
theorem led_addr (c : Cst) (v v' : Var) (ox ox' : Obj) : (led c v ox).map (·.1) = (led c v' ox').map (·.1) := rfl
theorem led_store {c : Cst} {v : Var} {ox oI : Obj} {I : Nat} (lt : Ok c) (hI : c.l < I) : UpdF (c.L + 1) ox ((I, oI) :: led c v ox) (fun o' => (I, oI) :: led c v o') := by
  have h := lt.lt
  unfold led
  k_updF
set_option maxHeartbeats 4000000 in
theorem loop {c : Cst} {v : Var} {ox : Obj} {d : Option Value} {s : Shared} {m : Str → Option Value} {ns : List Int} {px : Pos} {Q : Flow → Shared → Prop} {E : Value → Shared → Prop}
    (O : Ok c) (hvs : c.vs.length ≤ 51) (hns : IntsAre c.vs ns) (H : Inv c 0 v) (hx : ox.data = .cell d) (F : Fr c.h₀ c.L s.heap m) (N : News c.h₀ c.L s.heap (led c v ox)) (hn : names c v m)
    (hQ : ∀ h' tk m' v ox d, Fr c.h₀ c.L h' m' → News c.h₀ c.L h' (led c v ox) → ox.data = .cell d → names c v m' → Inv c c.vs.length v → Q .next { s with heap := h', toks := tk }) :
    wpAny (model PySem.Challenge.rw_ki0027_01.row.prog c.w) c.A (pyIter (.ref c.l)) (fun it s₂ => TurnsAt PySem.Challenge.rw_ki0027_01.row.prog c.w c.A c.h₀ c.env (.Name (Str.ofString "x") px) turnBody Q E it s₂) E s := by
  refine my_iter (nn := c.nn) (vs := c.vs) (m₀ := m) (news := led c v ox) (J c) rfl (.head _) F N ⟨v, ox, d, rfl, hx, hn, H⟩ ?_ ?_ ?_ ?_
  · rintro i m nx ⟨v', ox', d', rfl, _⟩
    exact led_addr _ _ _ _ _
  · rintro i m nx ⟨v', ox', d', rfl, _⟩
    exact .head _
  · rintro i x m₁ news₁ h tk oI hxi hlt ⟨v', ox', d', rfl, hx', hn', H'⟩ F₁ N₁
    have hil : i < c.vs.length := (List.getElem?_eq_some_iff.mp hxi).1
    obtain ⟨n, t, rfl, _⟩ := IntsAre.at hns i x hxi
    have hI : c.l < s.heap.objs.size := hlt _ (.head _)
    refine wpAny_assign_Name (storeX_C (cn := Str.ofString "law") (cs := lawScope) (L := c.L) (a := c.fa) (ccd := c.cd) F₁ N₁ rfl (led_store O hI) hx' ?_ rfl rfl)
    intro h' o' F' N' ho'
    rw [laid_eq hn'] at F'
    refine turn_any O hI (Nat.lt_of_lt_of_le hil hvs) H' ho' F' N' ?_
    intro h2 tk2 m2 v2 ox2 d2 F2 N2 hx2 hn2 H2
    exact ⟨h2, tk2, m2, _, rfl, F2, N2, v2, ox2, d2, rfl, hx2, hn2, H2⟩
  · rintro m₁ news₁ h tk ⟨v', ox', d', rfl, hx', hn', H'⟩ F₁ N₁
    exact hQ h tk m₁ v' ox' d' F₁ N₁ hx' hn' H'
end Mine

namespace Mine
def retBody : List Stmt := match endBody with
  | [_, r] => [r]
  | _ => []
local macro_rules | `(tactic| walk_at "ite") => `(tactic| (k_here; k_openite; k_dflt (first | (refine' ite_pos ?hc ?_; (case hc => ((simp only [decide_eq_true_eq, beq_iff_eq, bne_iff_ne, ne_eq, Bool.not_eq_true', decide_eq_false_iff_not]); omega))) | (refine' ite_neg ?hc ?_; (case hc => ((simp only [decide_eq_true_eq, beq_iff_eq, bne_iff_ne, ne_eq, Bool.not_eq_true', decide_eq_false_iff_not]); omega))) | (refine' ite_neg ?hc ?_; (case hc => (intro hc'; simp at hc'))))))
local macro_rules | `(tactic| walk_at "call builtin:list.append") => `(tactic| (k_here; (with_reducible show wpAny _ _ (call (Value.builtin _) [Value.ref _, _]) _ _ _); k_dflt (refine' my_append ?k1 ?k2 ?k3 ?z ?_; (case k1 => k_asm); (case k2 => k_asm); (case k3 => k_upd); (case z => omega); k_whole); intro h' F' N'; (try k_sweep)))
local macro_rules | `(tactic| walk_at "call builtin:len") => `(tactic| (k_here; (with_reducible show wpAny _ _ (call (Value.builtin "len") [Value.bytes (List.toArray _) _]) _ _ _); (refine my_len (by (simp only [List.length_append, List.length_take, List.length_drop, List.length_nil]; omega)) ?_)))
local macro_rules | `(tactic| walk_at "call builtin:len") => `(tactic| (k_here; (with_reducible show wpAny _ _ (call (Value.builtin "len") [Value.bytes (List.toArray _) _]) _ _ _); (refine my_len (by omega) ?_)))
local macro_rules | `(tactic| walk_at "binaryOp Add bytes bytes") => `(tactic| (k_here; (with_reducible show wpAny _ _ (binaryOp Operator.Add (Value.bytes (List.toArray _) _) (Value.bytes (List.toArray _) _)) _ _ _); (refine my_add (by ((try simp only [List.length_append, List.length_take, List.length_drop, List.length_nil]); omega)) ?_); intro _ _))
local macro_rules | `(tactic| walk_at "compareOp NotEq bytes bytes") => `(tactic| (k_here; (with_reducible show wpAny _ _ (compareOp CmpOp.NotEq (Value.bytes (List.toArray _) _) (Value.bytes (List.toArray _) _)) _ _ _); (refine my_ne ?_ ?_)))
local macro_rules | `(tactic| walk_at "subscriptTail") => `(tactic| (k_here; (with_reducible show wpAny _ _ (subscriptTail _ (Expr.Slice _ _ none _) (Value.bytes (List.toArray _) _) (Value.ref _)) _ _ _); (with_reducible rename Fr _ _ _ _ => F'); (with_reducible rename News _ _ _ _ => N'); (refine my_slice (s := ⟨_, _, _, _, _⟩) F' N' (by constructor) (by constructor) (by ((try simp only [List.length_append, List.length_take, List.length_drop, List.length_nil]); omega)) (by first | exact picked_take (by omega) | exact picked_drop (by omega) | exact picked_both (by omega) (by omega)) ?_); intro h' t' k' F' N'; (try k_sweep)))
local macro_rules | `(tactic| walk_at "getMethod ref") => `(tactic| (k_here; k_dflt (refine' method_shadow ?k1 ?k2 ?k3 ?k4 ?k5 ?k6 ?k7 ?k8 ?k9 ?k10 ?k11 ?_; (case k1 => k_asm); (case k2 => k_asm); (case k3 => k_inst); (case k4 => k_is); (case k5 => k_is); (case k6 => k_is); (case k7 => k_is); (case k8 => k_is); (case k9 => k_is); (case k10 => k_get); (case k11 => k_handed); k_whole)))
local macro_rules | `(tactic| walk_at "subscriptTail Name Constant ref int") => `(tactic| (k_here; (with_reducible show wpAny _ _ (subscriptTail _ _ (Value.ref _) (Value.int 0 _)) _ _ _); (with_unfolding_all refine' my_item0 ?k1 ?k2 ?_ ?k6; (case k1 => k_asm); (case k2 => k_mem); (case k6 => with_unfolding_all rfl); k_whole)))
local macro_rules | `(tactic| walk_at "call type:type") => `(tactic| (k_here; (with_reducible show wpAny _ _ (call _ [Value.bytes _ _]) _ _ _); refine call_type_of (Tx := "bytes") (typeIs_bytes _ _ _) (by decide +kernel) ?_))
set_option maxHeartbeats 8000000 in
theorem fin_part {c : Cst} {v : Var} {i : Nat} {ox : Obj} {d : Option Value} {s : Shared} {m : Str → Option Value} {Q : Flow → Shared → Prop} {E : Value → Shared → Prop}
    (O : Ok c) (hi : i ≤ 51) (H : Inv c i v) (hx : ox.data = .cell d) (F : Fr c.h₀ c.L s.heap m) (N : News c.h₀ c.L s.heap (led c v ox)) (hn : names c v m)
    (hQ : ∀ h' tk m' news', Fr c.h₀ c.L h' m' → News c.h₀ c.L h' news' → (67, tabObj c.tab) ∈ news' → Q (.ret (.bool true)) { s with heap := h', toks := tk }) :
    wpAny (model PySem.Challenge.rw_ki0027_01.row.prog c.w) c.A (execs retBody c.env) Q E s := by
  rw [laid_eq hn] at F
  obtain ⟨X, T, B, C, lt, ds1, ds2, dr1, dr2, d1, d2, d3, d4, hm, ho⟩ := O
  revert X
  k_fill
  intro X
  rcases c with ⟨w, h₀, mg, mb, mean, loose, fa, cd, L, P, dP, S, dS, fs, cs, fr, cr, pl, Lf, aks, akd, l, vs, nn, t1, t2, t3, t4, u1, u2, u3, u4, u5, u6, b1, b2, b3, b4, qs, ds, ms, xs, os, vss, tqs, qr, dr, mr, xr, or, vsr, tqr, o1, o2, o3, o4, tab, most, tm, tm', oct, to, to'⟩
  rcases v with ⟨buf, len, rd, here, plc, tp, th, asks, nas, asked, nad, front, tf, free, behind, tb⟩
  obtain ⟨⟨ns, ha1, ha2, hnl⟩, -, -, -, -⟩ := H
  obtain ⟨hp, gens, drawn, toks, oss⟩ := s
  clear hn
  delta laid at F
  dsimp only [Cst.A, Cst.env] at *
  have hal1 : asks.length = ns.length := ha1.length
  have hal2 : asked.length = ns.length := ha2.length
  dsimp only [led, ent, retBody, endBody, lawBody, lawScope, seekArgs, seekBody, seekScope, readArgs, readBody, readScope, fileBody, PySem.Challenge.pw_ki0027_01] at N ⊢
  w_top off
  k_steps
  (with_reducible rename Fr _ _ _ _ => FE)
  (with_reducible rename News _ _ _ _ => NE)
  exact hQ _ _ _ _ FE NE (by k_mem)
end Mine

namespace Mine
def led0 (c : Cst) (v : Var) (ox : Obj) : List (Addr × Obj) := (led c v ox).tail
theorem nw23 {h₀ h : Heap} {L : Addr} {a b c : Addr × Obj} {r : List (Addr × Obj)} (N : News h₀ L h (a :: b :: c :: r)) : News h₀ L h (a :: r) := fun p hp => by
  rcases List.mem_cons.mp hp with rfl | hp
  · exact N _ (.head _)
  · exact N _ (.tail _ (.tail _ (.tail _ hp)))
theorem fsi {a b : PySem.Expr} {op : Operator} {p : Pos} {env : Env} (x : Value) : foldedSetIterable (.BinOp a op b p) env x = pure x := rfl
local macro_rules | `(tactic| walk_at "binaryOp Add ref ref") => `(tactic| (k_here; (with_reducible show wpAny _ _ (binaryOp _ (Value.ref _) (Value.ref _)) _ _ _); k_dflt (refine' kmk_add_ints ?F ?N ?a ?b ?i ?j ?_ ?z; (case F => k_asm); (case N => k_asm); (case a => kmk_list); (case b => kmk_list); (case i => l_ints); (case j => l_ints); (case z => (simp only [sizeLine_eq, List.length_map, rangeInts_length, List.length_take, List.length_cons, List.length_nil]; omega))); intro D' ws' h' F' N' l1 hI'; (try k_lt l1); (try k_sweep)))
local macro_rules | `(tactic| walk_at "exec For Name BinOp cons nil") => `(tactic| (k_here; (with_reducible refine' For_turns ?F ?_ ?s ?e); (case F => k_asm); (case s => (intro x; exact fsi x)); (case e => exact PassesOwn.never)))
local macro_rules | `(tactic| walk_at "pyIter ref") => `(tactic| ((with_reducible show wpAny _ _ (pyIter (Value.ref _)) (fun it s₂ => TurnsAt _ _ _ _ _ _ _ _ _ it s₂) _ _); k_here; refine hold ?_))
set_option maxHeartbeats 8000000 in
theorem end_part {c : Cst} {v : Var} {ox : Obj} {d : Option Value} {s : Shared} {m : Str → Option Value} {sc : Addr} {vals : List Value} {ns : List Int} {Q : Flow → Shared → Prop} {E : Value → Shared → Prop}
    (O : Ok c) (H : Inv c 0 v) (hx : ox.data = .cell d) (F : Fr c.h₀ c.L s.heap m) (N : News c.h₀ c.L s.heap (led0 c v ox)) (hn : names c v m)
    (hs : m (Str.ofString "script") = some (.ref sc)) (hS : c.h₀.IsList sc vals.toArray) (hI : IntsAre vals ns) (hl : ns.length ≤ 63)
    (hQ : ∀ h' tk m' news', Fr c.h₀ c.L h' m' → News c.h₀ c.L h' news' → (67, tabObj c.tab) ∈ news' → Q (.ret (.bool true)) { s with heap := h', toks := tk }) :
    wpAny (model PySem.Challenge.rw_ki0027_01.row.prog c.w) c.A (execs endBody c.env) Q E s := by
  with_reducible refine wpAny_mono (E := fun _ _ => False) (Q := Q) ?_ (fun _ _ h => h) (fun _ _ h => h.elim)
  have hm0 : m = (fun y => if y = Str.ofString "script" then some (.ref sc) else laid c v m y) := by
    funext y
    split
    · subst_vars; exact hs
    · exact congrFun (laid_eq hn) y
  rw [hm0] at F
  have O' := O
  have H' := H
  obtain ⟨X, T, B, C, lt, ds1, ds2, dr1, dr2, d1, d2, d3, d4, hm, ho⟩ := O
  revert X
  k_fill
  intro X
  rcases c with ⟨w, h₀, mg, mb, mean, loose, fa, cd, L, P, dP, S, dS, fs, cs, fr, cr, pl, Lf, aks, akd, l, vs, nn, t1, t2, t3, t4, u1, u2, u3, u4, u5, u6, b1, b2, b3, b4, qs, ds, ms, xs, os, vss, tqs, qr, dr, mr, xr, or, vsr, tqr, o1, o2, o3, o4, tab, most, tm, tm', oct, to, to'⟩
  rcases v with ⟨buf, len, rd, here, plc, tp, th, asks, nas, asked, nad, front, tf, free, behind, tb⟩
  obtain ⟨hp, gens, drawn, toks, oss⟩ := s
  clear hn hm0
  delta laid at F
  dsimp only [Cst.A, Cst.env] at F N hS hQ lt ⊢
  dsimp only [led0, led, List.tail, ent, endBody, lawBody, lawScope, seekArgs, seekBody, seekScope, readArgs, readBody, readScope, fileBody, PySem.Challenge.pw_ki0027_01] at N ⊢
  w_top off
  k_steps
  (with_reducible rename Fr _ _ _ _ => FE)
  (with_reducible rename News _ _ _ _ => NE)
  (with_reducible rename IntsAre _ (_ ++ _) => hI9)
  with_reducible refine unhold ?_
  have hlen9 := hI9.length
  simp only [List.length_append, List.length_cons, List.length_nil, List.length_take] at hlen9
  have LL := fun l vs nn => @loop ⟨w, h₀, mg, mb, mean, loose, fa, cd, L, P, dP, S, dS, fs, cs, fr, cr, pl, Lf, aks, akd, l, vs, nn, t1, t2, t3, t4, u1, u2, u3, u4, u5, u6, b1, b2, b3, b4, qs, ds, ms, xs, os, vss, tqs, qr, dr, mr, xr, or, vsr, tqr, o1, o2, o3, o4, tab, most, tm, tm', oct, to, to'⟩ ⟨buf, len, rd, here, plc, tp, th, asks, nas, asked, nad, front, tf, free, behind, tb⟩ ox d
  have FF := fun l vs nn => @fin_part ⟨w, h₀, mg, mb, mean, loose, fa, cd, L, P, dP, S, dS, fs, cs, fr, cr, pl, Lf, aks, akd, l, vs, nn, t1, t2, t3, t4, u1, u2, u3, u4, u5, u6, b1, b2, b3, b4, qs, ds, ms, xs, os, vss, tqs, qr, dr, mr, xr, or, vsr, tqr, o1, o2, o3, o4, tab, most, tm, tm', oct, to, to'⟩
  dsimp only [Cst.A, Cst.env, led, ent, turnBody, lawBody, lawScope, seekArgs, seekBody, seekScope, readArgs, readBody, readScope, fileBody, PySem.Challenge.pw_ki0027_01] at LL
  dsimp only [Cst.A, Cst.env, led, ent, retBody, endBody, lawBody, lawScope, seekArgs, seekBody, seekScope, readArgs, readBody, readScope, fileBody, PySem.Challenge.pw_ki0027_01] at FF
  with_reducible refine' LL _ _ _ ?O9 ?l9 hI9 ?H9 hx FE (nw23 NE) ?n9 ?q9
  case O9 => exact ⟨X, T, B, C, by dsimp only; omega, ds1, ds2, dr1, dr2, d1, d2, d3, d4, hm, ho⟩
  case l9 => omega
  case H9 => exact ⟨H'.ask, H'.here, H'.plc, H'.beh, H'.mode⟩
  case n9 => refine ⟨?_, ?_, ?_, ?_, ?_, ?_, ?_, ?_, ?_⟩ <;> (repeat' (first | (with_reducible exact if_pos rfl) | (refine Eq.trans (if_neg (by decide)) ?_)))
  case q9 =>
    intro h2 tk2 m2 v2 ox2 d2 F2 N2 hx2 hn2 H2
    dsimp only
    with_reducible refine' FF _ _ _ ?O8 ?l8 H2 hx2 F2 N2 hn2 ?q8
    case O8 => exact ⟨X, T, B, C, by dsimp only; omega, ds1, ds2, dr1, dr2, d1, ‹_›, d3, d4, hm, ho⟩
    case l8 => omega
    case q8 =>
      intro h3 tk3 m3 nw3 F3 N3 hm3
      exact hQ h3 tk3 m3 nw3 F3 N3 hm3
end Mine

namespace Mine
set_option maxHeartbeats 8000000
local macro_rules | `(tactic| walk_at "binaryOp Add ref ref") => `(tactic| (k_here; (with_reducible show wpAny _ _ (binaryOp _ (Value.ref _) (Value.ref _)) _ _ _); k_dflt (refine' kmk_add_ints ?F ?N ?a ?b ?i ?j ?_ ?z; (case F => k_asm); (case N => k_asm); (case a => kmk_list); (case b => kmk_list); (case i => l_ints); (case j => l_ints); (case z => (simp only [sizeLine_eq, List.length_map, rangeInts_length, List.length_take, List.length_cons, List.length_nil]; omega))); intro D' ws' h' F' N' l1 hI'; (try k_lt l1); (try k_sweep)))
local macro_rules | `(tactic| walk_at "binaryOp Add ref ref") => `(tactic| (k_here; gn_on))
local macro_rules | `(tactic| walk_at "call type:bytes") => `(tactic| (k_here; (with_reducible show wpAny _ _ (call (Value.type "bytes") [Value.ref _]) _ _ _); k_dflt (refine' my_bytes ?F ?N ?l ?i ?r ?z ?h ?_; (case F => k_asm); (case N => k_asm); (case l => kba_isList); (case i => kba_listInts); (case r => ((repeat' (first | (with_reducible refine app_in ?_ ?_) | (with_reducible refine map_in ?_))) <;> (first | (intro x _; exact fmod_in _) | (exact range_in (by decide) (by decide))))); (case z => ((try simp only [List.length_append, List.length_map, rangeInts_length, List.length_take, List.length_cons, List.length_nil]); omega)); (case h => rfl)); intro h' t' k' b' F' N' hB'; (try simp only [List.length_append, List.length_map, rangeInts_length, List.length_take] at hB'); (try k_sweep)))
local macro_rules | `(tactic| walk_at "execs cons") => `(tactic| (k_here; (with_reducible show wpAny _ _ (execs (Stmt.Assign [Expr.Name (Str.ofString "padded") _] _ _ :: _) _) _ _ _); (with_reducible rename News _ _ _ _ => N'); (replace N' := drop_at N')))
local macro_rules | `(tactic| walk_at "execs cons") => `(tactic| (k_here; (with_reducible show wpAny _ _ (execs (Stmt.For _ _ _ _ _ :: _) _) _ _ _); refine hold ?_))
theorem main : PySem.Challenge.rw_ki0027_01.Holds := by
  refine hd ?_
  k_go0
  all_goals try k_fold
  k_steps
  with_reducible refine unhold ?_
  (with_reducible rename Fr _ _ _ _ => FE)
  (with_reducible rename News _ _ _ _ => NE)
  have LL := fun w h₀ mg mb mean loose fa cd L P dP S dS fs cs fr cr pl Lf aks akd t1 t2 t3 t4 u1 u2 u3 u4 u5 u6 b1 b2 b3 b4 qs ds ms xs os vss tqs qr dr mr xr or vsr tqr o1 o2 o3 o4 tab most tm tm' oct to to' buf len rd here plc tp th asks nas asked nad front tf free behind tb => @end_part ⟨w, h₀, mg, mb, mean, loose, fa, cd, L, P, dP, S, dS, fs, cs, fr, cr, pl, Lf, aks, akd, P + 1, [], 0, t1, t2, t3, t4, u1, u2, u3, u4, u5, u6, b1, b2, b3, b4, qs, ds, ms, xs, os, vss, tqs, qr, dr, mr, xr, or, vsr, tqr, o1, o2, o3, o4, tab, most, tm, tm', oct, to, to'⟩ ⟨buf, len, rd, here, plc, tp, th, asks, nas, asked, nad, front, tf, free, behind, tb⟩
  dsimp only [Cst.A, Cst.env, led0, led, List.tail, ent, endBody, lawBody, lawScope, seekArgs, seekBody, seekScope, readArgs, readBody, readScope, fileBody, PySem.Challenge.pw_ki0027_01] at LL
  with_reducible refine' LL _ _ _ _ _ _ _ _ _ _ _ _ _ _ _ _ _ _ _ _ _ _ _ _ _ _ _ _ _ _ _ _ _ _ _ _ _ _ _ _ _ _ _ _ _ _ _ _ _ _ _ _ _ _ _ _ _ _ _ _ _ _ _ _ _ _ _ _ _ _ _ _ _ _ _ _ ?O9 ?H9 ?x9 FE ?N9 ?n9 ?s9 ?S9 ?I9 ?l9 ?q9
  case N9 => exact NE
  case n9 => (refine ⟨?_, ?_, ?_, ?_, ?_, ?_, ?_, ?_, ?_⟩ <;> (repeat' (first | (with_reducible exact if_pos rfl) | (refine Eq.trans (if_neg (by decide)) ?_) | (exact if_pos rfl))))
  case s9 => (repeat' (first | (refine Eq.trans (if_neg (by decide)) ?_))); exact rfl
  case S9 => assumption
  case I9 => assumption
  case l9 => omega
  case x9 => assumption
  case O9 =>
    refine ⟨?_, ?_, ?_, ?_, ?_, ?_, ?_, ?_, ?_, ?_, ?_, ?_, ?_, ?_, ?_⟩
    · k_asm
    · k_asm
    · k_asm
    · k_asm
    · (dsimp only; omega)
    · k_asm
    · k_asm
    · k_asm
    · k_asm
    · k_asm
    · k_asm
    · k_asm
    · k_asm
    · exact most_in _
    · (dsimp only; omega)
  case H9 =>
    refine ⟨⟨[], .nil, .nil, Nat.le_refl 0⟩, ⟨Int.le_refl 0, Int.natCast_nonneg _⟩, rfl, Nat.le_refl 0, .inr ⟨0, _, _, _, _, _, [], vi rfl, vi rfl, rfl, vi ?_, Nat.zero_le _, rfl, rfl, ?_⟩⟩
    · rw [List.length_map, List.length_map, rangeKs_length]
    · rw [List.length_map, List.length_map, rangeKs_length]; omega
  case q9 =>
    intro h3 tk3 m3 nw3 F3 N3 hm3
    refine ⟨?_, ⟨_, (N3 _ hm3).1⟩, True.intro⟩
    dsimp only
    with_reducible refine' goodW_bool ?F9 ?g9 (raisesW_false ?r9) ?p9 ?h9
    case F9 => exact F3
    case g9 => assumption
    case r9 => wrow_none_raised
    case p9 => kc_post
    case h9 => rfl
end Mine

theorem PySem.Challenge.cw_ki0027_01_holds : PySem.Challenge.rw_ki0027_01.Holds := by
  exact Mine.main
