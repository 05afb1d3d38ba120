import PyProof.Rows.All
import Wide.All
import OpenK.AllK
import Wide.FinOn
import PySem.Challenge.RW_sr0021_01
open PySem PySem.W PyProof.Rows
set_option Elab.async false
namespace SrMine
set_option maxRecDepth 100000 in
set_option maxHeartbeats 8000000 in
open_top hd for PySem.Challenge.rw_sr0021_01
end SrMine
namespace SrMine
abbrev Led := List (Addr × Obj)
abbrev frMap {h₀ h : Heap} {L : Addr} {m : Str → Option Value} (_ : Fr h₀ L h m) : Str → Option Value := m
noncomputable def Stop (P : Prop) : Prop := P
theorem unstop {P : Prop} (h : Stop P) : P := h
theorem news_sub {h₀ h : Heap} {L : Addr} {a b : Led} (N : News h₀ L h a) (hs : ∀ p ∈ b, p ∈ a) : News h₀ L h b := fun p hp => N p (hs p hp)
theorem subT {e : Addr × Obj} {a b : Led} (h : ∀ p ∈ a, p ∈ b) : ∀ p ∈ a, p ∈ e :: b := fun p hp => .tail _ (h p hp)
theorem subI {a : Led} : ∀ p ∈ a, p ∈ a := fun _ h => h
theorem mem_new {e : Addr × Obj} {a : Led} : e ∈ a ++ [e] := List.mem_append.mpr (.inr (.head _))
theorem subL {a b : Led} : ∀ p ∈ a, p ∈ a ++ b := fun _ h => List.mem_append.mpr (.inl h)
theorem news_one {h₀ h : Heap} {L : Addr} {a b : Led} {e : Addr × Obj} (N : News h₀ L h (e :: b)) (hs : ∀ p ∈ a, p ∈ b) : News h₀ L h (a ++ [e]) := fun p hp => by
  rcases List.mem_append.mp hp with h | h
  · exact N p (.tail _ (hs p h))
  · rw [List.mem_singleton.mp h]; exact N _ (.head _)
theorem offApp {own a b : Led} (h : OwnOff own (a.map (·.1))) (k : OwnOff own (b.map (·.1))) : OwnOff own ((a ++ b).map (·.1)) := fun p hp x hx => by
  rw [List.map_append] at hx
  rcases List.mem_append.mp hx with hx | hx
  · exact h p hp x hx
  · exact k p hp x hx
theorem subR {a b c : Led} (h : ∀ p ∈ a, p ∈ b) : ∀ p ∈ a, p ∈ c ++ b := fun p hp => List.mem_append.mpr (.inr (h p hp))
theorem subLL {a b c : Led} (h : ∀ p ∈ a, p ∈ b) : ∀ p ∈ a, p ∈ b ++ c := fun p hp => List.mem_append.mpr (.inl (h p hp))
noncomputable def Lt (a b : Led) : Prop := ∀ q ∈ a, ∀ p ∈ b, q.1 < p.1
theorem Lt.sub {big b small : Led} (h : Lt big b) (hs : ∀ q ∈ small, q ∈ big) : Lt small b := fun q hq => h q (hs q hq)
theorem Lt.app {a b c : Led} (h : Lt a b) (k : Lt a c) : Lt a (b ++ c) := fun q hq p hp => (List.mem_append.mp hp).elim (h q hq p) (k q hq p)
theorem Lt.off {a b : Led} (h : Lt a b) : OwnOff a (b.map (·.1)) := fun p hp x hx => by
  obtain ⟨q, hq, rfl⟩ := List.mem_map.mp hx
  exact Nat.ne_of_lt (h p hp q hq)
noncomputable def Off (own a : Led) : Prop := ∀ q ∈ own, ∀ p ∈ a, q.1 ≠ p.1
theorem Off.to {own a : Led} (h : Off own a) : OwnOff own (a.map (·.1)) := fun p hp x hx => by
  obtain ⟨q, hq, rfl⟩ := List.mem_map.mp hx
  exact h p hp q hq
theorem Off.of {own a : Led} (h : OwnOff own (a.map (·.1))) : Off own a := fun q hq p hp => h q hq p.1 (List.mem_map.mpr ⟨p, hp, rfl⟩)
theorem Off.app {own a b : Led} (h : Off own a) (k : Off own b) : Off own (a ++ b) := fun q hq p hp => (List.mem_append.mp hp).elim (h q hq p) (k q hq p)
theorem Off.sub {own a b : Led} (h : Off own b) (hs : ∀ p ∈ a, p ∈ b) : Off own a := fun q hq p hp => h q hq p (hs p hp)
theorem Off.ofLt {own big b : Led} (h : Lt big b) (hs : ∀ p ∈ own, p ∈ big) : Off own b := fun q hq p hp => Nat.ne_of_lt (h q (hs q hq) p hp)
theorem offAll {own : Led} {b : Led} (h : ∀ p ∈ own, ∀ q ∈ b, p.1 ≠ q.1) : OwnOff own (b.map (·.1)) := fun p hp a ha => by
  obtain ⟨q, hq, rfl⟩ := List.mem_map.mp ha
  exact h p hp q hq

noncomputable def GrowEnd (h₀ : Heap) (L : Addr) (J : (Str → Option Value) → Led → Prop) (own : Led) (s₁ s₂ : Shared) : Prop :=
  ∃ h' tk m' news' nx, s₂ = { s₁ with heap := h', toks := tk } ∧ Fr h₀ L h' m' ∧ News h₀ L h' news' ∧ (∀ p ∈ nx, p ∈ news') ∧ (∀ p ∈ own, p ∈ news') ∧ OwnOff own (nx.map (·.1)) ∧ J m' nx
noncomputable def GrowPost (h₀ : Heap) (L : Addr) (J : (Str → Option Value) → Led → Prop) (own : Led) (s₁ : Shared) (Q : Flow → Shared → Prop) (f : Flow) (s₂ : Shared) : Prop :=
  match f with
  | .ret v => Q (.ret v) s₂
  | .brk => Q .next s₂
  | _ => GrowEnd h₀ L J own s₁ s₂

section
variable {prog : Program} {w : World} {A : Around} {E : Value → Shared → Prop} {s : Shared} {env : Env} {h₀ : Heap} {x : Str} {body : List Stmt} {Q : Flow → Shared → Prop}
theorem loop_growF {I : Addr} {fp : List Addr} {n : Nat} {P : Nat → Value → Prop} {St : Nat → Heap → Prop} {m₀ : Str → Option Value} {news : Led} (J : Nat → (Str → Option Value) → Led → Prop)
    (W : Walks prog w A I fp [I] n P St) (hI : I ∈ fp) (live : ∀ i h, St i h → ∀ b ∈ fp, ∃ o, h.get? b = some o) (hLf : env.locals ∉ fp) (hwr : ∀ b ∈ fp, h₀.get? b = none) (hnw : ∀ p ∈ news, p.1 ∉ fp) (hst : St 0 s.heap) (F : Fr h₀ env.locals s.heap m₀) (N : News h₀ env.locals s.heap news) (hj : J 0 m₀ news)
    (turn : ∀ i v m₁ news₁ h tk own, i < n → P i v → OwnOff own (news₁.map (·.1)) → J i m₁ news₁ → Fr h₀ env.locals h (fun y => if y = x then some v else m₁ y) → News h₀ env.locals h (own ++ news₁) →
      wpAny (model prog w) A (execs body env) (GrowPost h₀ env.locals (J (i + 1)) own { s with heap := h, toks := tk } Q) E { s with heap := h, toks := tk })
    (done : ∀ m₁ news₁ h tk, J n m₁ news₁ → Fr h₀ env.locals h m₁ → News h₀ env.locals h news₁ → Q .next { s with heap := h, toks := tk }) :
    LoopAtV prog w A h₀ env x body Q E (.ref I) s := by
  let J' : Nat → (Str → Option Value) → Led → Prop := fun i m led => J i m led ∧ ∀ p ∈ led, p.1 ∉ fp
  refine ⟨I, fp, [I], n, P, St, m₀, news, J', rfl, W, hLf, ?_, ?_, hst, F, N, ⟨hj, hnw⟩, ?_, ?_⟩
  · intro b hb; rw [List.mem_singleton.mp hb]; exact hwr I hI
  · intro p hp hI'; exact hnw p hp (by rw [List.mem_singleton.mp hI']; exact hI)
  · rintro i v m₁ news₁ s₁ own ⟨hh', tk', rfl⟩ hin hP ⟨hJ, hJf⟩ hoff hown _ hall hs1 F₁ N₁
    have hsep : OwnOff own (news₁.map (·.1)) := by
      intro p hp b hb e
      obtain ⟨q, hq, rfl⟩ := List.mem_map.mp hb
      exact hJf q hq (e ▸ hown p hp)
    refine wpAny_mono (turn i v m₁ news₁ hh' tk' own hin hP hsep hJ F₁ N₁) (fun f s₂ p => ?_) fun _ _ e => e
    have fin : GrowEnd h₀ env.locals (J (i + 1)) own { s with heap := hh', toks := tk' } s₂ → LoopStepU h₀ env.locals [I] own (J' (i + 1)) { s with heap := hh', toks := tk' } .next s₂ := by
      rintro ⟨h', tk, m', news', nx, e, F', N', hn, ho, ha, hm⟩
      have off : ∀ p ∈ nx, p.1 ∉ fp := fun p hp hq => by
        obtain ⟨ob, hob⟩ := live _ _ hs1 _ hq
        exact ha _ (hall p.1 hq (hwr _ hq) ob hob) p.1 (List.mem_map.mpr ⟨p, hp, rfl⟩) rfl
      refine ⟨rfl, h', tk, m', nx, e, F', fun p hp => N' p ((List.mem_append.mp hp).elim (ho p) (hn p)), fun p hp hq => off p hp (by rw [List.mem_singleton.mp hq]; exact hI), hm, off⟩
    cases f with
    | ret v => exact .ret p
    | brk => exact .brk p
    | next => exact .next (fin p)
    | cont => exact .cont (fin p)
  · rintro h' tk m' news' F' N' _ ⟨hJ, _⟩
    exact done m' news' h' tk hJ F' N'
theorem loop_grow {I : Addr} {n : Nat} {P : Nat → Value → Prop} {St : Nat → Heap → Prop} {m₀ : Str → Option Value} {news : Led} (J : Nat → (Str → Option Value) → Led → Prop)
    (W : Walks prog w A I [I] [I] n P St) (live : ∀ i h, St i h → ∃ o, h.get? I = some o) (hLf : env.locals ≠ I) (hwr : h₀.get? I = none) (hnw : ∀ p ∈ news, p.1 ≠ I) (hst : St 0 s.heap) (F : Fr h₀ env.locals s.heap m₀) (N : News h₀ env.locals s.heap news) (hj : J 0 m₀ news)
    (turn : ∀ i v m₁ news₁ h tk own, i < n → P i v → OwnOff own (news₁.map (·.1)) → J i m₁ news₁ → Fr h₀ env.locals h (fun y => if y = x then some v else m₁ y) → News h₀ env.locals h (own ++ news₁) →
      wpAny (model prog w) A (execs body env) (GrowPost h₀ env.locals (J (i + 1)) own { s with heap := h, toks := tk } Q) E { s with heap := h, toks := tk })
    (done : ∀ m₁ news₁ h tk, J n m₁ news₁ → Fr h₀ env.locals h m₁ → News h₀ env.locals h news₁ → Q .next { s with heap := h, toks := tk }) :
    LoopAtV prog w A h₀ env x body Q E (.ref I) s :=
  loop_growF J W (.head _) (fun i h hs b hb => by rw [List.mem_singleton.mp hb]; exact live i h hs) (fun h => hLf (List.mem_singleton.mp h)) (fun b hb => by rw [List.mem_singleton.mp hb]; exact hwr) (fun p hp h => hnw p hp (List.mem_singleton.mp h)) hst F N hj turn done

/-- what holds of the frame's map between the turns: the names of `ps`, the forgotten ones, the rest as it was -/
noncomputable def MapAt (x : Str) (ps : List (Str × Value)) (stored : List Str) (m₀ m : Str → Option Value) : Prop :=
  (∀ p ∈ ps, m p.1 = some p.2) ∧ ∀ z, z ≠ x → (∀ p ∈ ps, z ≠ p.1) → stored.contains z = false → m z = m₀ z
noncomputable def GJ {σ : Type} (L : σ → Led) (ps : σ → List (Str × Value)) (Facts : Nat → σ → Prop) (x : Str) (stored : List Str) (m₀ : Str → Option Value) (i : Nat) (m : Str → Option Value) (nx : Led) : Prop :=
  ∃ c : σ, nx = L c ∧ Facts i c ∧ MapAt x (ps c) stored m₀ m
theorem grow_end {σ : Type} {L : Addr} {Ld : σ → Led} {ps : σ → List (Str × Value)} {Facts : Nat → σ → Prop} {stored : List Str} {m₀ m' : Str → Option Value} {i : Nat} {own news' : Led} {s₁ : Shared} {h' : Heap} {tk : Nat} (c : σ)
    (F : Fr h₀ L h' m') (N : News h₀ L h' news') (hf : Facts i c) (h1 : ∀ p ∈ ps c, m' p.1 = some p.2) (h2 : ∀ z, z ≠ x → (∀ p ∈ ps c, z ≠ p.1) → stored.contains z = false → m' z = m₀ z)
    (hn : ∀ p ∈ Ld c, p ∈ news') (ho : ∀ p ∈ own, p ∈ news') (off : OwnOff own ((Ld c).map (·.1))) : GrowEnd h₀ L (GJ Ld ps Facts x stored m₀ i) own s₁ { s₁ with heap := h', toks := tk } :=
  ⟨h', tk, m', news', _, rfl, F, N, hn, ho, off, c, rfl, hf, h1, h2⟩

theorem grow_end1 {σ : Type} {L : Addr} {Ld : σ → Led} {y : Str} {ps : σ → List (Str × Value)} {Facts : Nat → σ → Prop} {stored : List Str} {m₀ m' : Str → Option Value} {i : Nat} {own : Led} {s₁ : Shared} {h' : Heap} {tk : Nat} (mk : Led → Value → σ) {T : Led} {v : Value}
    (F : Fr h₀ L h' m') (N : News h₀ L h' (own ++ Ld (mk T v))) (hps : ps (mk T v) = [(y, v)]) (hv : m' y = some v) (hf : Facts i (mk T v)) (h2 : ∀ z, z ≠ x → z ≠ y → stored.contains z = false → m' z = m₀ z)
    (off : OwnOff own ((Ld (mk T v)).map (·.1))) : GrowEnd h₀ L (GJ Ld ps Facts x stored m₀ i) own s₁ { s₁ with heap := h', toks := tk } :=
  grow_end (mk T v) F N hf (fun q hq => by rw [hps] at hq; rw [List.mem_singleton.mp hq]; exact hv) (fun z h1 h3 h4 => h2 z h1 (h3 (y, v) (by rw [hps]; exact .head _)) h4) (fun p hp => List.mem_append.mpr (.inr hp)) (fun p hp => List.mem_append.mpr (.inl hp)) off
theorem str_grow {σ : Type} {xt : Str} {tx : Tok} {m₀ : Str → Option Value} (Ld : σ → Led) (ps : σ → List (Str × Value)) (Facts : Nat → σ → Prop) (stored : List Str) (c₀ : σ)
    (hh : A.handled = none) (F : Fr h₀ env.locals s.heap m₀) (N : News h₀ env.locals s.heap (Ld c₀)) (hf : Facts 0 c₀) (hk : ∀ p ∈ ps c₀, m₀ p.1 = some p.2)
    (turn : ∀ (c : σ) (i n : Nat) t (u : Str → Option Value) h tk own, xt.cps[i]? = some n → OwnOff own ((Ld c).map (·.1)) → Facts i c →
      Fr h₀ env.locals h (fun y => if y = x then some (.str ⟨#[n]⟩ t) else kstB (fun z => if stored.contains z then u z else m₀ z) (ps c) y) → News h₀ env.locals h (own ++ Ld c) →
      wpAny (model prog w) A (execs body env) (GrowPost h₀ env.locals (GJ Ld ps Facts x stored m₀ (i + 1)) own { s with heap := h, toks := tk } Q) E { s with heap := h, toks := tk })
    (done : ∀ (c : σ) (u : Str → Option Value) h tk, Facts xt.cps.size c → Fr h₀ env.locals h (fun y => if y = x then u y else kstB (fun z => if stored.contains z then u z else m₀ z) (ps c) y) → News h₀ env.locals h (Ld c) → Q .next { s with heap := h, toks := tk }) :
    wpAny (model prog w) A (pyIter (.str xt tx)) (fun it s₂ => LoopAtV prog w A h₀ env x body Q E it s₂) E s := by
  have key : ∀ (o : Obj) (St : Nat → Heap → Prop), Walks prog w A s.heap.objs.size [s.heap.objs.size] [s.heap.objs.size] xt.cps.size (SignAt xt) St → (∀ i h, St i h → ∃ o, h.get? s.heap.objs.size = some o) → St 0 (s.heap.push o) →
      LoopAtV prog w A h₀ env x body Q E (.ref s.heap.objs.size) { s with heap := s.heap.push o } := by
    intro o St W live hst
    refine loop_grow (s := { s with heap := s.heap.push o }) (GJ Ld ps Facts x stored m₀) W live ?_ ?_ ?_ hst (F.push _) (fun p hp => ⟨Heap.get?_push_of_some _ (N p hp).1, (N p hp).2⟩) ⟨c₀, rfl, hf, hk, fun _ _ _ _ => rfl⟩ ?_ ?_
    · intro e; exact absurd F.ns.lt (by rw [e]; exact Nat.lt_irrefl _)
    · exact next_is_new F
    · intro p hp e
      exact absurd (Heap.lt_size (N p hp).1) (by rw [e]; exact Nat.lt_irrefl _)
    · rintro i v m₁ nx h tk own hi ⟨n, u, hn, rfl⟩ hoff ⟨c, rfl, hf', h1, h2⟩ F₁ N₁
      exact turn c i n u m₁ h tk own hn hoff hf' (kst_fr h1 h2 F₁) N₁
    · rintro m₁ nx h tk ⟨c, rfl, hf', h1, h2⟩ F₁ N₁
      exact done c m₁ h tk hf' (kst_frOut h1 h2 F₁) N₁
  cases ha : xt.cps.all (· < 128)
  · exact wpAny_pyIter_wide ha (key _ _ (Walks.strWide hh _ xt tx) (fun i h hs => ⟨_, hs.choose_spec.1⟩) ⟨_, Heap.get?_push_size _ rfl, rfl, rfl⟩)
  · exact wpAny_pyIter_ascii ha (key _ _ (Walks.strAscii hh _ xt tx) (fun i h hs => ⟨_, hs.choose_spec.1⟩) ⟨_, Heap.get?_push_size _ rfl, rfl, rfl⟩)

theorem range_grow {σ : Type} {r : Addr} {b₀ : Int} {t₀ u₀ v₀ : Tok} {n : Nat} {m₀ : Str → Option Value} (Ld : σ → Led) (ps : σ → List (Str × Value)) (Facts : Nat → σ → Prop) (stored : List Str) (c₀ : σ)
    (hh : A.handled = none) (hr : IsRange s.heap r 0 b₀ 1 t₀ u₀ v₀) (hsmall : Builtin.Range.small 0 b₀ 1 = true) (hn : Builtin.Range.rangeSize 0 b₀ 1 = (n : Int)) (F : Fr h₀ env.locals s.heap m₀) (N : News h₀ env.locals s.heap (Ld c₀)) (hf : Facts 0 c₀) (hk : ∀ p ∈ ps c₀, m₀ p.1 = some p.2)
    (turn : ∀ (c : σ) (i : Nat) t (u : Str → Option Value) h tk own, i < n → OwnOff own ((Ld c).map (·.1)) → Facts i c →
      Fr h₀ env.locals h (fun y => if y = x then some (.int (i : Int) t) else kstB (fun z => if stored.contains z then u z else m₀ z) (ps c) y) → News h₀ env.locals h (own ++ Ld c) →
      wpAny (model prog w) A (execs body env) (GrowPost h₀ env.locals (GJ Ld ps Facts x stored m₀ (i + 1)) own { s with heap := h, toks := tk } Q) E { s with heap := h, toks := tk })
    (done : ∀ (c : σ) (u : Str → Option Value) h tk, Facts n c → Fr h₀ env.locals h (fun y => if y = x then u y else kstB (fun z => if stored.contains z then u z else m₀ z) (ps c) y) → News h₀ env.locals h (Ld c) → Q .next { s with heap := h, toks := tk }) :
    wpAny (model prog w) A (pyIter (.ref r)) (fun it s₂ => LoopAtV prog w A h₀ env x body Q E it s₂) E s := by
  refine wpAny_pyIter_range hr hsmall ?_
  have W : Walks prog w A s.heap.objs.size [s.heap.objs.size] [s.heap.objs.size] n (fun i v => i < n ∧ ∃ t, v = .int (0 + i * 1) t)
      (fun i h => IsRangeIter h s.heap.objs.size (0 + (i : Nat) * 1) ((n : Int) - (i : Nat)) 1) := (Walks.range hh _ 0 1 n).bound
  refine loop_grow (GJ Ld ps Facts x stored m₀) W (fun i h hs => ⟨_, hs⟩) ?_ ?_ ?_ (by show IsRangeIter _ _ _ _ _; rw [hn]; simpa using Heap.get?_push_size _ rfl) (F.push _) (fun p hp => ⟨Heap.get?_push_of_some _ (N p hp).1, (N p hp).2⟩) ⟨c₀, rfl, hf, hk, fun _ _ _ _ => rfl⟩ ?_ ?_
  · intro e; exact absurd F.ns.lt (by rw [e]; exact Nat.lt_irrefl _)
  · exact next_is_new F
  · intro p hp e
    exact absurd (Heap.lt_size (N p hp).1) (by rw [e]; exact Nat.lt_irrefl _)
  · rintro i v m₁ nx h tk own hi ⟨_, t, rfl⟩ hoff ⟨c, rfl, hf', h1, h2⟩ F₁ N₁
    have e1 : 0 + (i : Int) * 1 = (i : Int) := by omega
    rw [e1] at F₁
    exact turn c i t m₁ h tk own hi hoff hf' (kst_fr h1 h2 F₁) N₁
  · rintro m₁ nx h tk ⟨c, rfl, hf', h1, h2⟩ F₁ N₁
    exact done c m₁ h tk hf' (kst_frOut h1 h2 F₁) N₁

theorem tup_grow {σ : Type} {ax : Addr} {lo : Obj} {vs : List Value} {nn : Nat} {news : Led} {m₀ : Str → Option Value} (Ld : σ → Led) (ps : σ → List (Str × Value)) (Facts : Nat → σ → Prop) (stored : List Str) (c₀ : σ)
    (hh : A.handled = none) (F : Fr h₀ env.locals s.heap m₀) (N : News h₀ env.locals s.heap news) (hm : (ax, lo) ∈ news) (hc : lo.cls = .type "tuple") (hd : lo.data = .seq vs.toArray nn)
    (hs : ∀ p ∈ Ld c₀, p ∈ news) (ho : ∀ p ∈ Ld c₀, p.1 ≠ ax) (hf : Facts 0 c₀) (hk : ∀ p ∈ ps c₀, m₀ p.1 = some p.2)
    (turn : ∀ (c : σ) (i : Nat) v (u : Str → Option Value) h tk own, vs[i]? = some v → OwnOff own ((Ld c).map (·.1)) → Facts i c →
      Fr h₀ env.locals h (fun y => if y = x then some v else kstB (fun z => if stored.contains z then u z else m₀ z) (ps c) y) → News h₀ env.locals h (own ++ Ld c) →
      wpAny (model prog w) A (execs body env) (GrowPost h₀ env.locals (GJ Ld ps Facts x stored m₀ (i + 1)) own { s with heap := h, toks := tk } Q) E { s with heap := h, toks := tk })
    (done : ∀ (c : σ) (u : Str → Option Value) h tk, Facts vs.length c → Fr h₀ env.locals h (fun y => if y = x then u y else kstB (fun z => if stored.contains z then u z else m₀ z) (ps c) y) → News h₀ env.locals h (Ld c) → Q .next { s with heap := h, toks := tk }) :
    wpAny (model prog w) A (pyIter (.ref ax)) (fun it s₂ => LoopAtV prog w A h₀ env x body Q E it s₂) E s := by
  have hax := N _ hm
  have hl : s.heap.IsTuple ax vs.toArray := ⟨lo, hax.1, hc, nn, hd⟩
  have hlt : ax < s.heap.objs.size := Heap.lt_size hax.1
  have hne : ax ≠ s.heap.objs.size := Nat.ne_of_lt hlt
  refine wpAny_pyIter_tuple hl ?_
  have W := Walks.tuple (prog := prog) (w := w) hh s.heap.objs.size ax hne vs.toArray
  have hlen : vs.toArray.size = vs.length := by simp
  rw [hlen] at W
  refine loop_growF (s := { s with heap := s.heap.push _ }) (GJ Ld ps Facts x stored m₀) W (.head _) ?_ ?_ ?_ ?_ ⟨⟨_, Heap.get?_push_size _ rfl, rfl, rfl⟩, hl.at fun o e => Heap.get?_push_of_some _ e⟩ (F.push _) (fun p hp => ⟨Heap.get?_push_of_some _ (N p (hs p hp)).1, (N p (hs p hp)).2⟩) ⟨c₀, rfl, hf, hk, fun _ _ _ _ => rfl⟩ ?_ ?_
  · intro i h st b hb
    rcases List.mem_cons.mp hb with rfl | hb
    · exact ⟨_, st.1.choose_spec.1⟩
    · rw [List.mem_singleton.mp hb]; exact ⟨_, st.2.choose_spec.1⟩
  · intro hb
    rcases List.mem_cons.mp hb with e | hb
    · exact absurd F.ns.lt (by rw [e]; exact Nat.lt_irrefl _)
    · exact hax.2.1 (List.mem_singleton.mp hb).symm
  · intro b hb
    rcases List.mem_cons.mp hb with rfl | hb
    · exact next_is_new F
    · rw [List.mem_singleton.mp hb]; exact hax.2.2
  · intro p hp hb
    rcases List.mem_cons.mp hb with e | hb
    · exact absurd (Heap.lt_size (N p (hs p hp)).1) (by rw [e]; exact Nat.lt_irrefl _)
    · exact ho p hp (List.mem_singleton.mp hb)
  · rintro i v m₁ nx h tk own hi hP hoff ⟨c, rfl, hf', h1, h2⟩ F₁ N₁
    exact turn c i v m₁ h tk own (by simpa using hP) hoff hf' (kst_fr h1 h2 F₁) N₁
  · rintro m₁ nx h tk ⟨c, rfl, hf', h1, h2⟩ F₁ N₁
    exact done c m₁ h tk hf' (kst_frOut h1 h2 F₁) N₁
end
end SrMine
namespace SrMine
abbrev Pt := Option (Int × Int)
inductive PtIn (news : Led) : Value → Pt → Prop where
  | zero {a : Addr} {n : Nat} : (a, ({ cls := .type "tuple", data := .seq #[] n } : Obj)) ∈ news → PtIn news (.ref a) none
  | at {a : Addr} {x y : Int} {t1 t2 : Tok} {n : Nat} : (a, ({ cls := .type "tuple", data := .seq #[.int x t1, .int y t2] n } : Obj)) ∈ news → PtIn news (.ref a) (some (x, y))
theorem PtIn.mono {news news' : Led} {v : Value} {t : Pt} (h : PtIn news v t) (hs : ∀ p ∈ news, p ∈ news') : PtIn news' v t := by
  cases h with
  | zero h => exact .zero (hs _ h)
  | «at» h => exact .at (hs _ h)

noncomputable def ecSum (a p : Int) : Pt → Pt → Pt
  | none, q => q
  | some P, none => some P
  | some (x1, y1), some (x2, y2) =>
    if x1 = x2 ∧ (y1 + y2).fmod p = 0 then none else
    let s := if x1 = x2 then ((3 * x1 * x1 + a) * (2 * y1) ^ (p - 2).toNat).fmod p else ((y2 - y1) * (x2 - x1) ^ (p - 2).toNat).fmod p
    let x := (s * s - x1 - x2).fmod p
    some (x, (s * (x1 - x) - y1).fmod p)
noncomputable def Good (p : Int) : Pt → Prop
  | none => True
  | some (x, y) => 0 ≤ x ∧ x < p ∧ 0 ≤ y ∧ y < p
theorem good_sum {a p : Int} (hp : 0 < p) {P Q : Pt} (hP : Good p P) (hQ : Good p Q) : Good p (ecSum a p P Q) := by
  have f := fun z : Int => (⟨Int.fmod_nonneg_of_pos z hp, Int.fmod_lt_of_pos z hp⟩ : 0 ≤ z.fmod p ∧ z.fmod p < p)
  match P, Q, hP, hQ with
  | none, q, _, hQ => exact hQ
  | some P, none, hP, _ => exact hP
  | some (x1, y1), some (x2, y2), _, _ =>
    by_cases h : x1 = x2 ∧ (y1 + y2).fmod p = 0
    · unfold ecSum; dsimp only; rw [if_pos h]; trivial
    · unfold ecSum; dsimp only; rw [if_neg h]; exact ⟨(f _).1, (f _).2, (f _).1, (f _).2⟩
theorem ec_zero {a p x1 y1 x2 y2 : Int} (h : x1 = x2) (h' : (y1 + y2).fmod p = 0) : ecSum a p (some (x1, y1)) (some (x2, y2)) = none := by
  unfold ecSum; dsimp only; rw [if_pos ⟨h, h'⟩]
theorem ec_dbl {a p x1 y1 x2 y2 : Int} (h : x1 = x2) (h' : (y1 + y2).fmod p ≠ 0) : ecSum a p (some (x1, y1)) (some (x2, y2)) =
    some ((((3 * x1 * x1 + a) * (2 * y1) ^ (p - 2).toNat).fmod p * ((3 * x1 * x1 + a) * (2 * y1) ^ (p - 2).toNat).fmod p - x1 - x2).fmod p, (((3 * x1 * x1 + a) * (2 * y1) ^ (p - 2).toNat).fmod p * (x1 - (((3 * x1 * x1 + a) * (2 * y1) ^ (p - 2).toNat).fmod p * ((3 * x1 * x1 + a) * (2 * y1) ^ (p - 2).toNat).fmod p - x1 - x2).fmod p) - y1).fmod p) := by
  unfold ecSum; dsimp only; rw [if_neg (fun c => h' c.2)]; simp only [if_pos h]
theorem ec_add {a p x1 y1 x2 y2 : Int} (h : x1 ≠ x2) : ecSum a p (some (x1, y1)) (some (x2, y2)) =
    some ((((y2 - y1) * (x2 - x1) ^ (p - 2).toNat).fmod p * ((y2 - y1) * (x2 - x1) ^ (p - 2).toNat).fmod p - x1 - x2).fmod p, (((y2 - y1) * (x2 - x1) ^ (p - 2).toNat).fmod p * (x1 - (((y2 - y1) * (x2 - x1) ^ (p - 2).toNat).fmod p * ((y2 - y1) * (x2 - x1) ^ (p - 2).toNat).fmod p - x1 - x2).fmod p) - y1).fmod p) := by
  unfold ecSum; dsimp only; rw [if_neg (fun c => h c.1)]; simp only [if_neg h]
theorem sh1 {x a p : Int} (h0 : 0 ≤ x) (h1 : x < p) (h2 : 0 ≤ a) (h3 : a < p) (hp : p ≤ 13) : IntMulOk (3 * x * x + a) b := by
  refine IntMulOk.of_left (intBits_le_64 ?_ ?_)
  · have : 0 ≤ 3 * x * x := Int.mul_nonneg (by omega) h0
    omega
  · have : 3 * x * x ≤ 39 * 13 := Int.mul_le_mul (by omega) (by omega) h0 (by omega)
    omega
theorem sh2 {z p b : Int} (h0 : 7 ≤ p) (hp : p ≤ 13) : IntMulOk (z.fmod p) b := by
  have h1 := Int.fmod_nonneg_of_pos z (b := p) (by omega)
  have h2 := Int.fmod_lt_of_pos z (b := p) (by omega)
  exact IntMulOk.of_left (intBits_le_64 (by omega) (by omega))
local macro_rules | `(tactic| k_mem) => `(tactic| assumption)
local macro_rules | `(tactic| units_room) => `(tactic| ((simp only [units_in1, units_deeper, Around.mark_units, units_caller]); (try dsimp only [ktrTop]); omega))
local macro_rules | `(tactic| walk_at "binaryOp Mod int int") => `(tactic| (with_reducible refine mod_int' (by omega) ?_))
local macro_rules | `(tactic| walk_at "binaryOp Pow int int") => `(tactic| (with_reducible refine pow_int_small (by omega) (by omega) (by omega) ?_))
local macro_rules | `(tactic| walk_at "binaryOp Mult int int") => `(tactic| (first
  | with_reducible refine mul_int ?_ (sh2 (by assumption) (by assumption))
  | with_reducible refine mul_int ?_ (sh1 (by assumption) (by assumption) (by assumption) (by assumption) (by assumption))
  | with_reducible refine mul_int ?_ (IntMulOk.of_left (intBits_le_64 (by omega) (by omega)))
  | with_reducible refine mul_int ?_ (IntMulOk.of_right (intBits_le_64 (by omega) (by omega)))))
set_option maxRecDepth 100000 in
set_option maxHeartbeats 8000000 in
theorem sum_call {w : World} {mean : ExcName → Option Value} {mg mb : Str → Option Value} {dp un : Nat} {gd : Option (List Code)} {cn : Str} {cs : Scope} {ac : Addr} {ccd : Value} {cl : List (Str × Addr)} {outer : List Env} {A₀ : Around} {base h₀ : Heap} {L : Addr} {m : Str → Option Value} {news sub1 sub2 : Led} {s : Shared}
    {Q E : Value → Shared → Prop} {v1 v2 : Value} {one two : Pt} {a p : Int} {ta tp : Tok}
    (B : Below A₀ base outer h₀) (F : Fr h₀ L s.heap m) (X : (hd.heap_39 w.params).In h₀) (N : News h₀ L s.heap news) (T : Top hd.view_39 (looseW hd.view_39 [Str.ofString "insort_right", Str.ofString "bisect_right", Str.ofString "bisect_left"]) mean mg mb h₀) (hk : cs.kind = .function)
    (h1 : PtIn sub1 v1 one) (h2 : PtIn sub2 v2 two) (hs1 : ∀ p ∈ sub1, p ∈ news) (hs2 : ∀ p ∈ sub2, p ∈ news) (hp0 : 7 ≤ p) (hp1 : p ≤ 13) (ha0 : 0 ≤ a) (ha1 : a < p) (hg1 : Good p one) (hg2 : Good p two)
    (hd' : dp + 20 < recursionLimit) (hu' : un + 160 < cLine)
    (hret : ∀ r tl h' tk', Fr h₀ L h' m → News h₀ L h' (news ++ tl) → Lt news tl → PtIn (sub1 ++ (sub2 ++ tl)) r (ecSum a p one two) → Good p (ecSum a p one two) → Q r { s with heap := h', toks := tk' }) :
    wpAny (model PySem.Challenge.rw_sr0021_01.row.prog w) (ktrTop dp un gd cn cs L ac ccd cl outer) (call (.ref 67) [v1, v2, .int a ta, .int p tp]) Q E s := by
  have hgs := good_sum (a := a) (by omega : 0 < p) hg1 hg2
  replace hret := fun r tl h' tk' a b c d => hret r tl h' tk' a b c d hgs
  clear hgs
  w_top off
  revert X
  k_fill
  intro X
  rcases h1 with ⟨m1⟩ | ⟨m1⟩ <;> rcases h2 with ⟨m2⟩ | ⟨m2⟩ <;> (have m1' := hs1 _ m1) <;> (have m2' := hs2 _ m2)
  all_goals try (obtain ⟨g1, g2, g3, g4⟩ := hg1)
  all_goals try (obtain ⟨g5, g6, g7, g8⟩ := hg2)
  all_goals (refine wpAny_call ?_; k_dflt ktr_enter; k_steps)
  · exact hret _ [] _ _ (by assumption) (ktn_tl0 (news_sub (by assumption) (subT subI))) ktn_ord0 (PtIn.mono (.zero m2) (subR (subLL subI)))
  · exact hret _ [] _ _ (by assumption) (ktn_tl0 (news_sub (by assumption) (subT subI))) ktn_ord0 (PtIn.mono (.at m2) (subR (subLL subI)))
  · exact hret _ [] _ _ (by assumption) (ktn_tl0 (news_sub (by assumption) (subT (subT subI)))) ktn_ord0 (PtIn.mono (.at m1) (subLL subI))
  · exact hret _ [_] _ _ (by assumption) (news_one (by assumption) (subT (subT subI))) (ktn_ord1 (And.right (And.right (by assumption)))) (by show PtIn _ _ (ecSum _ _ (some (_, _)) (some (_, _))); rw [ec_zero]; exact .zero (subR subI _ mem_new); assumption; assumption)
  · exact hret _ [_] _ _ (by assumption) (news_one (by assumption) (subT (subT subI))) (ktn_ord1 (And.right (And.right (by assumption)))) (by show PtIn _ _ (ecSum _ _ (some (_, _)) (some (_, _))); rw [ec_dbl]; exact .at (subR subI _ mem_new); assumption; assumption)
  · contradiction
  · contradiction
  · exact hret _ [_] _ _ (by assumption) (news_one (by assumption) (subT (subT subI))) (ktn_ord1 (And.right (And.right (by assumption)))) (by show PtIn _ _ (ecSum _ _ (some (_, _)) (some (_, _))); rw [ec_add]; exact .at (subR subI _ mem_new); assumption)
end SrMine
namespace SrMine
noncomputable def ecBit (a p : Int) (P : Pt) (n : Nat) (t : Pt) (bit : Int) : Pt :=
  if (((n : Int) - 65).fdiv bit).fmod 2 = 1 then ecSum a p (ecSum a p t t) P else ecSum a p t t
noncomputable def ecLetter (a p : Int) (P : Pt) (t : Pt) (n : Nat) : Pt := [8, 4, 2, 1].foldl (ecBit a p P n) t
noncomputable def ecMany (a p : Int) (P : Pt) (w : List Nat) : Pt := w.foldl (ecLetter a p P) none
structure MS where
  tl : Led
  v : Value
  t : Pt
local macro_rules | `(tactic| k_mem) => `(tactic| assumption)
local macro_rules | `(tactic| units_room) => `(tactic| ((simp only [units_in1, units_deeper, Around.mark_units, units_caller]); (try dsimp only [ktrTop]); omega))
local macro_rules | `(tactic| tb_start) => `(tactic| first | assumption | exact subI | (intro q hq; (simp only [List.mem_append, List.mem_cons] at hq ⊢); grind))
local macro_rules | `(tactic| tb_rel) => `(tactic| first | assumption | (refine Lt.app ?_ ?_ <;> tb_rel) | (refine Lt.sub (by assumption) ?_; tb_start))
local macro_rules | `(tactic| tb_lt) => `(tactic| first | assumption | (refine Off.to ?_; tb_lt) | (refine Off.app ?_ ?_ <;> tb_lt) | (refine Off.ofLt (by assumption) ?_; tb_start) | (refine Off.sub (by assumption) ?_; tb_start))
local macro_rules | `(tactic| walk_at "call ref") => `(tactic| (k_here; (with_reducible show wpAny _ _ (call (Value.ref _) [_, _, Value.int _ _, Value.int _ _]) _ _ _); k_dflt (refine' sum_call ?k1 ?k2 ?k3 ?k4 ?k5 ?kK ?a1 ?a2 ?b1 ?b2 ?c1 ?c2 ?c3 ?c4 ?d1 ?d2 ?e1 ?e2 ?_; (case k1 => k_asm); (case k2 => k_asm); (case k3 => k_asm); (case k4 => k_asm); (case k5 => k_asm); (case kK => exact rfl); (case a1 => assumption); (case a2 => assumption); (case b1 => tb_start); (case b2 => tb_start); (case c1 => assumption); (case c2 => assumption); (case c3 => assumption); (case c4 => assumption); (case d1 => assumption); (case d2 => assumption); (case e1 => ktr_room); (case e2 => ktr_units); k_whole); (intro r' tl' h' tk' F' N' hl' ho' hg'); (try simp only [List.cons_append, List.append_assoc, List.nil_append] at N'); (try dsimp only); (try k_fold)))
local macro_rules | `(tactic| walk_at "GrowPost") => `(tactic| (dsimp only [GrowPost]))
local macro_rules | `(tactic| walk_at "exec For Name Name cons nil") => `(tactic| (k_here; (rename Fr _ _ _ _ => lF'); (with_unfolding_all refine' For_invVF lF' ?k1 ?k2 ?_; (case k1 => exact rfl); (case k2 => exact rfl); k_whole)))
local macro_rules | `(tactic| walk_at "exec For Name Tuple cons nil") => `(tactic| (k_here; (rename Fr _ _ _ _ => lF'); (with_unfolding_all refine' For_invVF lF' ?k1 ?k2 ?_; (case k1 => exact rfl); (case k2 => exact rfl); k_whole)))
set_option maxRecDepth 100000 in
set_option maxHeartbeats 8000000 in
theorem many_call {w : World} {mean : ExcName → Option Value} {mg mb : Str → Option Value} {dp un : Nat} {gd : Option (List Code)} {cn : Str} {cs : Scope} {ac : Addr} {ccd : Value} {cl : List (Str × Addr)} {outer : List Env} {A₀ : Around} {base h₀ : Heap} {L : Addr} {m : Str → Option Value} {news sub : Led} {s : Shared}
    {Q E : Value → Shared → Prop} {x : Str} {tx : Tok} {v : Value} {P : Pt} {a p : Int} {ta tp : Tok}
    (B : Below A₀ base outer h₀) (F : Fr h₀ L s.heap m) (X : (hd.heap_39 w.params).In h₀) (N : News h₀ L s.heap news) (T : Top hd.view_39 (looseW hd.view_39 [Str.ofString "insort_right", Str.ofString "bisect_right", Str.ofString "bisect_left"]) mean mg mb h₀) (hk : cs.kind = .function)
    (h1 : PtIn sub v P) (hs1 : ∀ p ∈ sub, p ∈ news) (hp0 : 7 ≤ p) (hp1 : p ≤ 13) (ha0 : 0 ≤ a) (ha1 : a < p) (hg1 : Good p P)
    (hd' : dp + 40 < recursionLimit) (hu' : un + 320 < cLine)
    (hret : ∀ r tl h' tk', Fr h₀ L h' m → News h₀ L h' (news ++ tl) → Lt news tl → PtIn (sub ++ tl) r (ecMany a p P x.cps.toList) → Good p (ecMany a p P x.cps.toList) → Q r { s with heap := h', toks := tk' }) :
    wpAny (model PySem.Challenge.rw_sr0021_01.row.prog w) (ktrTop dp un gd cn cs L ac ccd cl outer) (call (.ref 74) [.str x tx, v, .int a ta, .int p tp]) Q E s := by
  w_top off
  revert X
  k_fill
  intro X
  (refine wpAny_call ?_; k_dflt ktr_enter; k_steps)
  rename Fr _ _ _ _ => lF
  rename News _ _ _ _ => lN
  rename ∀ p ∈ news, _ => lO
  refine str_grow (σ := MS) (fun c => news ++ c.tl) (fun c => [(Str.ofString "total", c.v)])
    (fun i c => c.t = ecMany a p P (x.cps.toList.take i) ∧ PtIn (sub ++ c.tl) c.v c.t ∧ Good p c.t ∧ Lt news c.tl) [Str.ofString "bit"] ⟨[_], _, none⟩ (by rfl) lF (news_one lN subI)
    ⟨rfl, .zero mem_new, trivial, fun q hq r hr => by rw [List.mem_singleton.mp hr]; exact lO q hq⟩ (fun q hq => by rw [List.mem_singleton.mp hq]; with_unfolding_all rfl) ?_ ?_
  · clear lF lN lO
    intro c i n t₁ u h₁ tk₁ own hn hoff ⟨hc, hpt, hgood, hlt⟩ F₁ N₁
    k_steps
    rename Fr _ _ _ _ => lF
    rename News _ _ _ _ => lN
    rename ∀ p ∈ _ ++ _, _ => lO
    refine tup_grow (σ := MS) (fun d => own ++ (news ++ d.tl)) (fun d => [(Str.ofString "total", d.v)])
      (fun j d => d.t = ([8, 4, 2, 1].take j).foldl (ecBit a p P n) c.t ∧ PtIn (sub ++ d.tl) d.v d.t ∧ Good p d.t ∧ Lt news d.tl ∧ OwnOff own ((news ++ d.tl).map (·.1))) [] ⟨c.tl, c.v, c.t⟩ (by rfl) lF lN (.head _) rfl rfl
      (subT subI) (fun q hq => Nat.ne_of_lt (lO q hq)) ⟨rfl, hpt, hgood, hlt, hoff⟩ (fun q hq => by rw [List.mem_singleton.mp hq]; with_unfolding_all rfl) ?_ ?_
    · clear lF lN lO
      intro d j v₂ u₂ h₂ tk₂ own₂ hv₂ hoff₂ ⟨hd1, hd2, hd3, hd4, hd5⟩ F₂ N₂
      obtain ⟨b, tb, rfl, hb, hb1, hb2⟩ : ∃ b tb, v₂ = Value.int b tb ∧ ([8, 4, 2, 1] : List Int)[j]? = some b ∧ 1 ≤ b ∧ b ≤ 8 := by
        match j, hv₂ with
        | 0, h => exact ⟨_, _, (Option.some.inj h).symm, rfl, by decide, by decide⟩
        | 1, h => exact ⟨_, _, (Option.some.inj h).symm, rfl, by decide, by decide⟩
        | 2, h => exact ⟨_, _, (Option.some.inj h).symm, rfl, by decide, by decide⟩
        | 3, h => exact ⟨_, _, (Option.some.inj h).symm, rfl, by decide, by decide⟩
        | j + 4, h => simp at h
      have hpt2 : PtIn (sub ++ d.tl) v P := h1.mono subL
      have hbit : ([8, 4, 2, 1] : List Int).take (j + 1) = ([8, 4, 2, 1] : List Int).take j ++ [b] := by rw [List.take_add_one, hb]; rfl
      replace hoff₂ := Off.of hoff₂
      replace hd5 := Off.of hd5
      k_steps
      · rename Fr _ _ _ _ => lF
        rename News _ _ _ _ => lN
        rename PtIn _ _ (ecSum _ _ (ecSum _ _ _ _) _) => ho2
        rename Int.fmod _ _ = 1 => hcnd
        refine grow_end1 (fun T v => ⟨d.tl ++ T, v, ecSum a p (ecSum a p d.t d.t) P⟩) lF lN rfl (by with_unfolding_all rfl) ?_ ?_ ?_
        · refine ⟨?_, ho2.mono (by tb_start), by assumption, by tb_rel, ?_⟩
          · rw [hbit, List.foldl_append, ← hd1]
            exact (if_pos hcnd).symm
          · tb_lt
        · intro z h1 h2 h3
          simp [kstB, h1, h2]
        · tb_lt
      · rename Fr _ _ _ _ => lF
        rename News _ _ _ _ => lN
        rename PtIn _ _ (ecSum _ _ _ _) => ho2
        rename Int.fmod _ _ ≠ 1 => hcnd
        refine grow_end1 (fun T v => ⟨d.tl ++ T, v, ecSum a p d.t d.t⟩) lF lN rfl (by with_unfolding_all rfl) ?_ ?_ ?_
        · refine ⟨?_, ho2.mono (by tb_start), by assumption, by tb_rel, ?_⟩
          · rw [hbit, List.foldl_append, ← hd1]
            exact (if_neg hcnd).symm
          · tb_lt
        · intro z h1 h2 h3
          simp [kstB, h1, h2]
        · tb_lt
    · clear lF lN lO
      intro d u₂ h₂ tk₂ ⟨hd1, hd2, hd3, hd4, hd5⟩ F₂ N₂
      have hlet : x.cps.toList.take (i + 1) = x.cps.toList.take i ++ [n] := by
        rw [List.take_add_one, Array.getElem?_toList, hn]; rfl
      k_steps
      rename Fr _ _ _ _ => lF
      rename News _ _ _ _ => lN
      refine grow_end1 (fun _ v => ⟨d.tl, v, d.t⟩) (T := []) lF lN rfl (by with_unfolding_all rfl) ?_ ?_ ?_
      · refine ⟨?_, hd2, hd3, hd4⟩
        rw [hlet, ecMany, List.foldl_append, ← ecMany, ← hc]
        exact hd1
      · intro z h1 h2 h3
        simp only [List.contains_cons, List.contains_nil, Bool.or_false, beq_eq_false_iff_ne, ne_eq] at h3
        simp [kstB, h1, h2, h3]
      · exact hd5
  · clear lF lN lO
    intro c u h₁ tk₁ ⟨hc, hpt, hgood, hlt⟩ F₁ N₁
    rw [← Array.length_toList, List.take_length] at hc
    rw [hc] at hpt hgood
    k_steps
    exact hret _ _ _ _ (by assumption) (by assumption) hlt hpt hgood
end SrMine
namespace SrMine
local macro_rules | `(tactic| k_mem) => `(tactic| assumption)
local macro_rules | `(tactic| units_room) => `(tactic| ((simp only [units_in1, units_deeper, Around.mark_units, units_caller]); (try dsimp only [ktrTop]); omega))
local macro_rules | `(tactic| walk_at "exec While Name cons nil") => `(tactic| (k_here; with_reducible refine unstop ?_))
local macro_rules | `(tactic| walk_at "subscriptTail") => `(tactic| (k_here; (with_reducible show wpAny _ _ (subscriptTail _ (Expr.Slice _ _ none _) (Value.bytes _ _) (Value.ref _)) _ _ _); (with_reducible rename Fr _ _ _ _ => F'); (with_reducible rename News _ _ _ _ => N'); (refine KBc.slice_K (s := ⟨_, _, _, _, _⟩) F' N' rfl (by constructor) (by constructor) (by decide) ?_); intro _ _ _ _ _ _))
noncomputable def hexF : Nat → Nat → List Nat → List Nat
  | 0, _, acc => acc
  | f + 1, n, acc => if n = 0 then acc else hexF f (n / 16) ((65 + n % 16) :: acc)
theorem hexF_zero (f : Nat) (acc : List Nat) : hexF f 0 acc = acc := by cases f <;> rfl
theorem picked_ap (m : Int) (h0 : 0 ≤ m) (h1 : m < 16) : KBy.picked #[65, 66, 67, 68, 69, 70, 71, 72, 73, 74, 75, 76, 77, 78, 79, 80] (some m) (some (m + 1)) = #[UInt8.ofNat (65 + m.toNat)] := by
  obtain ⟨k, rfl⟩ := Int.eq_ofNat_of_zero_le h0
  have hk : k < 16 := by omega
  revert hk; clear h0 h1; revert k
  decide +kernel
local macro_rules | `(tactic| walk_at "binaryOp Add bytes bytes") => `(tactic| (k_here; with_reducible refine unstop ?_))
structure AS where
  num : Int
  tn : Tok
  val : Array UInt8
  tv : Tok
set_option maxRecDepth 100000 in
set_option maxHeartbeats 8000000 in
theorem ap_call {w : World} {mean : ExcName → Option Value} {mg mb : Str → Option Value} {dp un : Nat} {gd : Option (List Code)} {cn : Str} {cs : Scope} {ac : Addr} {ccd : Value} {cl : List (Str × Addr)} {outer : List Env} {A₀ : Around} {base h₀ : Heap} {L : Addr} {m : Str → Option Value} {news : Led} {s : Shared}
    {Q E : Value → Shared → Prop} {n : Int} {tn : Tok}
    (B : Below A₀ base outer h₀) (F : Fr h₀ L s.heap m) (X : (hd.heap_39 w.params).In h₀) (N : News h₀ L s.heap news) (T : Top hd.view_39 (looseW hd.view_39 [Str.ofString "insort_right", Str.ofString "bisect_right", Str.ofString "bisect_left"]) mean mg mb h₀) (hk : cs.kind = .function)
    (hn : n.natAbs < 4096)
    (hd' : dp + 20 < recursionLimit) (hu' : un + 160 < cLine)
    (hret : ∀ val t h' tk', val.toList.map UInt8.toNat = hexF 4 n.natAbs [] → Fr h₀ L h' m → News h₀ L h' news → Q (.bytes val t) { s with heap := h', toks := tk' }) :
    wpAny (model PySem.Challenge.rw_sr0021_01.row.prog w) (ktrTop dp un gd cn cs L ac ccd cl outer) (call (.ref 55) [.int n tn]) Q E s := by
  w_top off
  revert X
  k_fill
  intro X
  (refine wpAny_call ?_; k_dflt ktr_enter; k_steps)
  rename Fr _ _ _ _ => lF
  rename News _ _ _ _ => lN
  obtain ⟨t1, e1⟩ : ∃ t, frMap lF (Str.ofString "num") = some (.int (if n < 0 then -n else n) t) := ⟨_, by with_unfolding_all rfl⟩
  obtain ⟨t2, e2⟩ : ∃ t, frMap lF (Str.ofString "val") = some (.bytes #[] t) := ⟨_, by with_unfolding_all rfl⟩
  refine ksw_while (σ := AS) (fun _ => news) (fun c => [(Str.ofString "num", .int c.num c.tn), (Str.ofString "val", .bytes c.val c.tv)]) (fun _ => True) [Str.ofString "mod"]
    (fun c => 0 ≤ c.num ∧ ∃ f, c.val.size + f ≤ 4 ∧ c.num < 16 ^ f ∧ hexF 4 n.natAbs [] = hexF f c.num.toNat (c.val.toList.map UInt8.toNat)) (fun c => c.num.toNat) ⟨if n < 0 then -n else n, t1, #[], t2⟩ lF lN trivial (List.forall_mem_cons.mpr ⟨e1, List.forall_mem_cons.mpr ⟨e2, fun _ h => nomatch h⟩⟩) ?_ ?_
  · dsimp only
    refine ⟨by split <;> omega, 4, by decide, by split <;> omega, ?_⟩
    rw [show (if n < 0 then -n else n).toNat = n.natAbs by split <;> omega]
    rfl
  · clear e1 e2 lF lN
    intro c u h₁ tk₁ _ ⟨hc0, f, hcz, hc1, hc2⟩ F₁ N₁
    k_steps
    · have hm0 := Int.fmod_nonneg_of_pos c.num (b := 16) (by decide)
      have hm1 := Int.fmod_lt_of_pos c.num (b := 16) (by decide)
      rename c.num ≠ 0 => hne
      dsimp only [Stop]
      rw [picked_ap _ hm0 hm1]
      refine KBy.add_bytes (by simp; omega) ?_
      intro t9 k9
      k_steps
      rename Fr _ _ _ _ => lF
      rename News _ _ _ _ => lN
      obtain ⟨t3, e3⟩ : ∃ t, frMap lF (Str.ofString "num") = some (.int (c.num.fdiv 16) t) := ⟨_, by with_unfolding_all rfl⟩
      obtain ⟨t4, e4⟩ : ∃ t, frMap lF (Str.ofString "val") = some (.bytes (#[UInt8.ofNat (65 + (c.num.fmod 16).toNat)] ++ c.val) t) := ⟨_, by with_unfolding_all rfl⟩
      refine ksw_end (⟨c.num.fdiv 16, t3, #[UInt8.ofNat (65 + (c.num.fmod 16).toNat)] ++ c.val, t4⟩ : AS) lF lN (subT subI) trivial (List.forall_mem_cons.mpr ⟨e3, List.forall_mem_cons.mpr ⟨e4, fun _ h => nomatch h⟩⟩) ?_ ?_ ?_
      · intro z h2 h3
        simp only [List.forall_mem_cons, List.not_mem_nil, false_implies, implies_true, and_true, ne_eq] at h2
        simp only [List.contains_cons, List.contains_nil, Bool.or_false, beq_eq_false_iff_ne, ne_eq] at h3
        simp [kstB, h2, h3]
      · dsimp only
        obtain ⟨N, hN⟩ := Int.eq_ofNat_of_zero_le hc0
        rw [Int.fdiv_eq_ediv_of_nonneg _ (by decide), Int.fmod_eq_emod_of_nonneg _ (by decide)]
        rw [hN] at hne hc1 hc2 ⊢
        match f, hcz, hc1, hc2 with
        | 0, _, h1, _ => exfalso; simp at h1; omega
        | g + 1, hz, h1, h2 =>
          refine ⟨by omega, g, by simp; omega, ?_, ?_⟩
          · rw [Int.pow_succ] at h1; omega
          · rw [h2]
            have e1 : ((N : Int) % 16).toNat = N % 16 := by omega
            have e2 : ((N : Int) / 16).toNat = N / 16 := by omega
            have e5 : (N : Int).toNat = N := rfl
            have hN0 : N ≠ 0 := by omega
            have h6 : (65 + N % 16) % 256 = 65 + N % 16 := by omega
            rw [e1, e2, e5, hexF, if_neg hN0]
            simp [h6]
      · dsimp only
        rw [Int.fdiv_eq_ediv_of_nonneg _ (by decide)]
        omega
    · rename c.num = 0 => hz
      rw [hz] at hc2
      rw [show (0 : Int).toNat = 0 from rfl, hexF_zero] at hc2
      exact hret _ _ _ _ hc2.symm (by assumption) (by assumption)
end SrMine
namespace SrMine
local macro_rules | `(tactic| walk_at "no such head") => `(tactic| fail)
local macro_rules | `(tactic| k_mem) => `(tactic| assumption)
local macro_rules | `(tactic| units_room) => `(tactic| ((simp only [units_in1, units_deeper, Around.mark_units, units_caller]); (try dsimp only [ktrTop]); omega))
local macro_rules | `(tactic| walk_at "call ref") => `(tactic| (k_here; (with_reducible show wpAny _ _ (call (Value.ref _) [Value.int _ _]) _ _ _); k_dflt (refine' ap_call ?k1 ?k2 ?k3 ?k4 ?k5 ?kK ?c1 ?e1 ?e2 ?_; (case k1 => k_asm); (case k2 => k_asm); (case k3 => k_asm); (case k4 => k_asm); (case k5 => k_asm); (case kK => exact rfl); (case c1 => assumption); (case e1 => ktr_room); (case e2 => ktr_units); k_whole); (intro b' t' h' tk' hb' F' N'); (try dsimp only); (try k_fold)))
local macro_rules | `(tactic| walk_at "call builtin:str.join") => `(tactic| (k_here; with_reducible refine unstop ?_))
local macro_rules | `(tactic| walk_at "eval ListComp") => `(tactic| (k_here; with_reducible refine unstop ?_))
section
open LCg
variable {prog : Program} {w : World} {A : Around} {E : Value → Shared → Prop} {s : Shared} {h₀ : Heap} {L : Addr} {m : Str → Option Value} {env : Env}
noncomputable def SrcB (prog : Program) (w : World) (A : Around) (h₀ : Heap) (L : Addr) (m : Str → Option Value) (env : Env) (elt : Expr) (x : Str) (scope : Scope) (cl : List (Str × Addr)) (Q : Value → Shared → Prop) (xv : Value) (s₁ : Shared) : Prop :=
  ∃ b tb news, xv = .bytes b tb ∧ A.handled = none ∧ Fr h₀ L s₁.heap m ∧ News h₀ L s₁.heap news ∧ b.size ≤ sizeLine ∧
    ∀ s₂ : Shared, (∃ h, s₂ = { s₁ with heap := h }) → CompRest prog w A h₀ L m env elt x scope cl s₂ (fun _ => True) (fun i v => ∃ c u, b[i]? = some c ∧ v = .int (c.toNat : Int) u) (FinE h₀ L m s₂ Q) b.size 0 [] news
theorem ListComp_B {elt iter : Expr} {x : Str} {px : Pos} {scope : Scope} {cl : List (Str × Addr)} {pos : Pos} {Q : Value → Shared → Prop} (F₀ : Fr h₀ L s.heap m)
    (hclos : closureFor scope env = pure cl) (hcell : ∀ y ∈ scope.names, y.2 ≠ .cell) (hkind : scope.kind = .function)
    (hnames : ∀ y ∈ scope.names, y.2 = .local → scope.names.lookup y.1 = some .local) (hx : scope.names.lookup x = some .local)
    (h : wpAny (model prog w) A (eval iter env) (SrcB prog w A h₀ L m env elt x scope cl Q) E s)
    (hs : ∀ x, foldedSetIterable iter env x = pure x := by intro _; rfl) :
    wpAny (model prog w) A (eval (.ListComp elt [⟨.Name x px, iter, [], 0⟩] scope pos) env) Q E s := by
  rw [eval_ListComp]
  refine wpAny_comprehension_free (use := none) rfl hs hclos hkind hnames (wpAny_mono h (fun xv s₁ h₁ => ?_) fun _ _ e => e)
  rcases h₁ with ⟨b, tb, news, rfl, hh, F, N, hsz, R⟩
  refine KBw.pyIter_bytes ?_
  refine block_U (KBw.walks hh s₁.heap.objs.size b tb) hsz (fun i h st => by obtain ⟨o, e, _⟩ := st; exact ⟨o, e⟩) (fun i h h' o nw st e e' _ _ _ => by obtain ⟨o', q, r⟩ := st; rw [e] at q; cases q; exact ⟨o, e', r⟩) hcell hkind hx ⟨_, Heap.get?_push_size _ rfl, rfl, rfl⟩ (fun b hb => ?_)
    (F.keeps fun _ _ e => Heap.get?_push_of_some _ e) (N.grown fun _ _ e => Heap.get?_push_of_some _ e) (Nat.ne_of_lt F.ns.lt) (next_is_new F) (fun p hp => Nat.ne_of_lt (Heap.lt_size (N p hp).1)) trivial (R _ ⟨_, rfl⟩) ?_
  · rw [List.mem_singleton.mp hb]
    show s₁.heap.objs.size < (s₁.heap.push _).objs.size
    rw [Heap.size_push]; exact Nat.lt_succ_self _
  · intro D C h tk m' ys news' F' N' o1 hn hC₀ hD₀ hCL hDL hCD offC fin
    refine ⟨m', hn, fun h'' hs'' => fin D h'' tk (F'.change hs'' hCL hC₀) (fun p hp => ?_) o1⟩
    refine ⟨hs''.extBut _ _ ?_ (N' p hp).1, (N' p hp).2⟩
    rcases List.mem_cons.mp hp with rfl | hp
    · exact Ne.symm hCD
    · exact offC p hp
end
theorem hexF_length : ∀ (f n : Nat) (acc : List Nat), (hexF f n acc).length ≤ f + acc.length
  | 0, _, acc => by simp [hexF]
  | f + 1, n, acc => by
    unfold hexF
    split
    · omega
    · have := hexF_length f (n / 16) ((65 + n % 16) :: acc)
      simp only [List.length_cons] at this
      omega
theorem join_flat : ∀ (l : List Int), (Str.join (Str.ofString "") (l.map fun k => (⟨#[k.toNat]⟩ : Str))).cps.toList = l.map Int.toNat
  | [] => rfl
  | [k] => rfl
  | k :: j :: r => by
    have ih := join_flat (j :: r)
    show ((⟨#[k.toNat]⟩ : Str) ++ Str.ofString "" ++ Str.join (Str.ofString "") ((j :: r).map fun k => (⟨#[k.toNat]⟩ : Str))).cps.toList = _
    rw [PySem.Str.cps_append, Array.toList_append, ih, PySem.Str.cps_append]
    rfl
theorem join_chrs (b : Array UInt8) : (PySem.Txt.join (Str.ofString "") ((KBw.bInts b).map fun k => (⟨#[k.toNat]⟩ : Str))).cps.toList = b.toList.map UInt8.toNat := by
  show (Builtin.Str.glued (Str.ofString "") _).cps.toList = _
  rw [PySem.StrLaws.glued_eq_join, join_flat, KBw.bInts, List.map_map]
  rfl
set_option maxRecDepth 100000 in
set_option maxHeartbeats 8000000 in
theorem word_call {w : World} {mean : ExcName → Option Value} {mg mb : Str → Option Value} {dp un : Nat} {gd : Option (List Code)} {cn : Str} {cs : Scope} {ac : Addr} {ccd : Value} {cl : List (Str × Addr)} {outer : List Env} {A₀ : Around} {base h₀ : Heap} {L : Addr} {m : Str → Option Value} {news : Led} {s : Shared}
    {Q E : Value → Shared → Prop} {n : Int} {tn : Tok}
    (B : Below A₀ base outer h₀) (F : Fr h₀ L s.heap m) (X : (hd.heap_39 w.params).In h₀) (N : News h₀ L s.heap news) (T : Top hd.view_39 (looseW hd.view_39 [Str.ofString "insort_right", Str.ofString "bisect_right", Str.ofString "bisect_left"]) mean mg mb h₀) (hk : cs.kind = .function)
    (hn : n.natAbs < 4096)
    (hd' : dp + 40 < recursionLimit) (hu' : un + 320 < cLine)
    (hret : ∀ x t h' tk', x.cps.toList = hexF 4 n.natAbs [] → Fr h₀ L h' m → News h₀ L h' news → Q (.str x t) { s with heap := h', toks := tk' }) :
    wpAny (model PySem.Challenge.rw_sr0021_01.row.prog w) (ktrTop dp un gd cn cs L ac ccd cl outer) (call (.ref 60) [.int n tn]) Q E s := by
  w_top off
  revert X
  k_fill
  intro X
  (refine wpAny_call ?_; k_dflt ktr_enter; k_steps)
  dsimp only [Stop]
  rename Fr _ _ _ _ => lF
  k_dflt (refine ListComp_B (F₀ := lF) (by with_unfolding_all rfl) (by decide) (by rfl) (by decide) (by rfl) ?_)
  k_steps
  rename Fr _ _ _ _ => lF
  rename News _ _ _ _ => lN
  rename _ = hexF _ _ _ => hb
  have hlen := congrArg List.length hb
  rw [List.length_map, Array.length_toList] at hlen
  have hle := hexF_length 4 n.natAbs []
  rw [← hlen] at hle
  refine ⟨_, _, news, rfl, rfl, lF, lN, by rw [PySem.sizeLine_eq]; simp at hle; omega, ?_⟩
  rintro s₂ ⟨g9, rfl⟩
  refine kct_rest (fun k => (⟨#[k.toNat]⟩ : Str)) (KBw.ints_length _) (fun i v hi hv => ?_) ?_ ?_
  · obtain ⟨c, u, hc, rfl⟩ := hv
    exact ⟨_, _, KBw.ints_get hc, rfl⟩
  · intro k' t' I' oI' C' oC' D' m' ys' h' tk' E' hk' hC' hx' F' N' off' ne' hM'
    have hk0 := KBw.ints_in hk'
    k_steps
    exact LCg.CompEnd.intro F' N' news (fun p hp => hp) off' trivial ⟨rfl, _, rfl⟩
  · intro ys hys hn D h tk F' N' off
    have hl : h.IsList D ys.toArray := ⟨_, (N' _ (.head _)).1, rfl, _, rfl⟩
    replace N' := news_sub N' (subT subI)
    k_steps
    dsimp only [Stop]
    refine KT.join_1 (g := fun (k : Int) => (⟨#[k.toNat]⟩ : Str)) hl hys (fun _ _ => rfl) ?_ ?_
    · rw [KBw.ints_length]; simp at hle; omega
    intro t9 k9 e9
    k_steps
    refine hret _ _ _ _ ?_ (by assumption) (by assumption)
    rw [← hb, join_chrs]
end SrMine
namespace SrMine
open PySem.Builtin PySem.Builtin.Str
noncomputable def findR (x y : Str) (i j : Int) : Int := match occurrences x y (fromIndex x.length i) (min (fromIndex x.length j) x.length) 1 with | k :: _ => (k : Int) | [] => -1
noncomputable def rfindR (x y : Str) (i j : Int) : Int := match lastOccurrence x y (fromIndex x.length i) (min (fromIndex x.length j) x.length) with | some k => (k : Int) | none => -1
theorem gives_findR (x y : Str) (i j : Int) (t u v w : Tok) : Gives («str.find» ⟨[.str x t, .str y u, .int i v, .int j w], []⟩) (.int (findR x y i j)) := by
  unfold findR
  show Gives (match occurrences x y (fromIndex x.length i) (min (fromIndex x.length j) x.length) 1 with | k :: _ => retInt k | [] => (do rule "str.find.not-found"; retInt (-1))) _
  cases occurrences x y (fromIndex x.length i) (min (fromIndex x.length j) x.length) 1 with
  | nil => exact .rule (.of_eq rfl)
  | cons k _ => exact .of_eq rfl
theorem gives_rfindR (x y : Str) (i j : Int) (t u v w : Tok) : Gives («str.rfind» ⟨[.str x t, .str y u, .int i v, .int j w], []⟩) (.int (rfindR x y i j)) := by
  unfold rfindR
  show Gives (match lastOccurrence x y (fromIndex x.length i) (min (fromIndex x.length j) x.length) with | some k => retInt k | none => (do rule "str.rfind.not-found"; retInt (-1))) _
  cases lastOccurrence x y (fromIndex x.length i) (min (fromIndex x.length j) x.length) with
  | none => exact .rule (.of_eq rfl)
  | some k => exact .of_eq rfl
section
variable {prog : Program} {w : World} {A : Around} {E : Value → Shared → Prop} {s : Shared} {x y : Str} {t u v z : Tok} {i j : Int} {Q : Value → Shared → Prop}
theorem call_findR (hq : Q (.int (findR x y i j) s.toks) { s with toks := s.toks + 1 }) : wpAny (model prog w) A (call (.builtin "str.find") [.str x t, .str y u, .int i v, .int j z]) Q E s :=
  PySem.call_gives F.slot_str_find (typeIs_str _ _ _) F.entry_str_find (F.args_str_find_4 _ _ _ _) (gives_findR x y i j t u v z) hq
theorem call_rfindR (hq : Q (.int (rfindR x y i j) s.toks) { s with toks := s.toks + 1 }) : wpAny (model prog w) A (call (.builtin "str.rfind") [.str x t, .str y u, .int i v, .int j z]) Q E s :=
  PySem.call_gives F.slot_str_rfind (typeIs_str _ _ _) F.entry_str_rfind (F.args_str_rfind_4 _ _ _ _) (gives_rfindR x y i j t u v z) hq
end
end SrMine
namespace SrMine
local macro_rules | `(tactic| k_mem) => `(tactic| assumption)
local macro_rules | `(tactic| units_room) => `(tactic| ((simp only [units_in1, units_deeper, Around.mark_units, units_caller]); (try dsimp only [ktrTop]); omega))
local macro_rules | `(tactic| walk_at "call builtin:str.find") => `(tactic| (k_here; (with_reducible show wpAny _ _ (call (Value.builtin "str.find") [Value.str _ _, Value.str _ _, Value.int _ _, Value.int _ _]) _ _ _); refine call_findR ?_))
local macro_rules | `(tactic| walk_at "call builtin:str.rfind") => `(tactic| (k_here; (with_reducible show wpAny _ _ (call (Value.builtin "str.rfind") [Value.str _ _, Value.str _ _, Value.int _ _, Value.int _ _]) _ _ _); refine call_rfindR ?_))
noncomputable def stripT (x : Str) : Str :=
  let e1 : Int := if 0 ≤ (Txt.find x (Str.ofString "\n") : Int) then (Txt.find x (Str.ofString "\n") : Int) else (x.length : Int)
  let f2 := findR x (Str.ofString ":") 0 e1
  let e2 := if 0 ≤ f2 then f2 else e1
  let f3 := rfindR x (Str.ofString ".") 0 e2
  Txt.slice x (some (if 0 ≤ f3 then f3 + 1 else 0)) (some e2)
section
variable {x : Str} {r : Int}
noncomputable def FirstR (x : Str) (r : Int) : Prop := (0 ≤ (Txt.find x (Str.ofString "\n") : Int) ∧ r = Txt.find x (Str.ofString "\n")) ∨ (¬ 0 ≤ (Txt.find x (Str.ofString "\n") : Int) ∧ r = (x.length : Int))
theorem strip_gen (hr : FirstR x r) : stripT x = Txt.slice x (some (if 0 ≤ rfindR x (Str.ofString ".") 0 (if 0 ≤ findR x (Str.ofString ":") 0 r then findR x (Str.ofString ":") 0 r else r) then rfindR x (Str.ofString ".") 0 (if 0 ≤ findR x (Str.ofString ":") 0 r then findR x (Str.ofString ":") 0 r else r) + 1 else 0)) (some (if 0 ≤ findR x (Str.ofString ":") 0 r then findR x (Str.ofString ":") 0 r else r)) := by
  have er : r = if 0 ≤ (Txt.find x (Str.ofString "\n") : Int) then (Txt.find x (Str.ofString "\n") : Int) else (x.length : Int) := by
    rcases hr with ⟨a, b⟩ | ⟨a, b⟩
    · rw [if_pos a]; exact b
    · rw [if_neg a]; exact b
  rw [er]
  rfl
theorem strip_11 (hr : FirstR x r) (h2 : 0 ≤ findR x (Str.ofString ":") 0 r) (h3 : 0 ≤ rfindR x (Str.ofString ".") 0 (findR x (Str.ofString ":") 0 r)) : stripT x = Txt.slice x (some (rfindR x (Str.ofString ".") 0 (findR x (Str.ofString ":") 0 r) + 1)) (some (findR x (Str.ofString ":") 0 r)) := by
  rw [strip_gen hr]; simp only [if_pos h2, if_pos h3]
theorem strip_10 (hr : FirstR x r) (h2 : 0 ≤ findR x (Str.ofString ":") 0 r) (h3 : ¬ 0 ≤ rfindR x (Str.ofString ".") 0 (findR x (Str.ofString ":") 0 r)) : stripT x = Txt.slice x (some 0) (some (findR x (Str.ofString ":") 0 r)) := by
  rw [strip_gen hr]; simp only [if_pos h2, if_neg h3]
theorem strip_01 (hr : FirstR x r) (h2 : ¬ 0 ≤ findR x (Str.ofString ":") 0 r) (h3 : 0 ≤ rfindR x (Str.ofString ".") 0 r) : stripT x = Txt.slice x (some (rfindR x (Str.ofString ".") 0 r + 1)) (some r) := by
  rw [strip_gen hr]; simp only [if_neg h2, if_pos h3]
theorem strip_00 (hr : FirstR x r) (h2 : ¬ 0 ≤ findR x (Str.ofString ":") 0 r) (h3 : ¬ 0 ≤ rfindR x (Str.ofString ".") 0 r) : stripT x = Txt.slice x (some 0) (some r) := by
  rw [strip_gen hr]; simp only [if_neg h2, if_neg h3]
end
theorem strip_end {x y : Str} {t : Tok} {s : Shared} {Q : Value → Shared → Prop} (e : stripT x = y) (h : Q (.str (stripT x) t) s) : Q (.str y t) s := e ▸ h
set_option maxRecDepth 100000 in
set_option maxHeartbeats 8000000 in
theorem strip_call {w : World} {mean : ExcName → Option Value} {mg mb : Str → Option Value} {dp un : Nat} {gd : Option (List Code)} {cn : Str} {cs : Scope} {ac : Addr} {ccd : Value} {cl : List (Str × Addr)} {outer : List Env} {A₀ : Around} {base h₀ : Heap} {L : Addr} {m : Str → Option Value} {news : Led} {s : Shared}
    {Q E : Value → Shared → Prop} {x : Str} {tx : Tok}
    (B : Below A₀ base outer h₀) (F : Fr h₀ L s.heap m) (X : (hd.heap_39 w.params).In h₀) (N : News h₀ L s.heap news) (T : Top hd.view_39 (looseW hd.view_39 [Str.ofString "insort_right", Str.ofString "bisect_right", Str.ofString "bisect_left"]) mean mg mb h₀) (hk : cs.kind = .function)
    (hx : x.length ≤ 100)
    (hd' : dp + 20 < recursionLimit) (hu' : un + 160 < cLine)
    (hret : ∀ t h' tk', Fr h₀ L h' m → News h₀ L h' news → Q (.str (stripT x) t) { s with heap := h', toks := tk' }) :
    wpAny (model PySem.Challenge.rw_sr0021_01.row.prog w) (ktrTop dp un gd cn cs L ac ccd cl outer) (call (.ref 48) [.str x tx]) Q E s := by
  w_top off
  revert X
  k_fill
  intro X
  (refine wpAny_call ?_; k_dflt ktr_enter; k_steps)
  · exact strip_end (strip_11 (by assumption) (by assumption) (by assumption)) (hret _ _ _ (by assumption) (news_sub (by assumption) (subT subI)))
  · exact strip_end (strip_10 (by assumption) (by assumption) (by assumption)) (hret _ _ _ (by assumption) (news_sub (by assumption) (subT subI)))
  · exact strip_end (strip_01 (by assumption) (by assumption) (by assumption)) (hret _ _ _ (by assumption) (news_sub (by assumption) (subT subI)))
  · exact strip_end (strip_00 (by assumption) (by assumption) (by assumption)) (hret _ _ _ (by assumption) (news_sub (by assumption) (subT subI)))
end SrMine
namespace SrMine
noncomputable def kq (q : Nat) : Str := ⟨#[66, q + 65]⟩
theorem kq_lt (a b : Nat) : ((kq a).cps.toList < (kq b).cps.toList) ↔ a < b := by
  show ([66, a + 65] : List Nat) < [66, b + 65] ↔ a < b
  simp [List.cons_lt_cons_iff]
/-- a journal: its lines, the letters of their keys -/
structure Jour (xs : List Str) (ks : List Nat) : Prop where
  key : ∀ (i : Nat) x, xs[i]? = some x → ∃ k, ks[i]? = some k ∧ stripT x = kq k
  len : xs.length = ks.length
  short : ∀ x ∈ xs, x.length ≤ 100
  small : xs.length ≤ 100
  sort : ∀ (i j a b : Nat), ks[i]? = some a → ks[j]? = some b → i ≤ j → a ≤ b
structure BS where
  lo : Nat
  hi : Nat
  tl : Tok
  th : Tok
section
variable {prog : Program} {w : World} {A : Around} {E : Value → Shared → Prop} {s : Shared} {h₀ : Heap} {L : Addr}
theorem strs_len : ∀ {vs : List Value} {xs : List Str}, StrsAre vs xs → vs.length = xs.length
  | _, _, .nil => rfl
  | _, _, .cons _ _ h => by simp [strs_len h]
theorem len_J {l : Addr} {vs : List Value} {xs : List Str} {nn : Nat} {news : Led} {Q : Value → Shared → Prop} (N : News h₀ L s.heap news) (hm : (l, ({ cls := .type "list", data := .seq vs.toArray nn } : Obj)) ∈ news) (hv : StrsAre vs xs) (hsm : xs.length ≤ 100)
    (h : ∀ t k, Q (.int xs.length t) { s with toks := k }) : wpAny (model prog w) A (call (.builtin "len") [.ref l]) Q E s := by
  have e := strs_len hv
  refine len_list ⟨_, (N _ hm).1, rfl, _, rfl⟩ (by rw [List.size_toArray]; omega) ?_
  rw [List.size_toArray, e]
  exact h _ _
theorem floordiv2 {a : Int} {t u : Tok} {Q : Value → Shared → Prop} (h : Q (.int (a / 2) s.toks) { s with toks := s.toks + 1 }) : wpAny (model prog w) A (binaryOp .FloorDiv (.int a t) (.int 2 u)) Q E s :=
  floordiv_int (by decide) (by rw [Int.fdiv_eq_ediv_of_nonneg _ (by decide)]; exact h) (Or.inl (PyProof.noPylong_small (by decide)))
theorem item_J {value slice : PySem.Expr} {l : Addr} {vs : List Value} {xs : List Str} {nn : Nat} {news : Led} {k : Int} {u : Tok} {Q : Value → Shared → Prop} (N : News h₀ L s.heap news) (hm : (l, ({ cls := .type "list", data := .seq vs.toArray nn } : Obj)) ∈ news) (hv : StrsAre vs xs) (hsm : xs.length ≤ 100) (h0 : 0 ≤ k) (h1 : k < xs.length) (h : ∀ x t, xs[k.toNat]? = some x → Q (.str x t) s)
    (hs : subscripted slice false (.ref l) (.int k u) = operate [.ref l, .int k u] (getItem (.ref l) (.int k u)) := by with_unfolding_all rfl) :
    wpAny (model prog w) A (subscriptTail value slice (.ref l) (.int k u)) Q E s := by
  have hl : s.heap.IsList l vs.toArray := ⟨_, (N _ hm).1, rfl, _, rfl⟩
  have get : ∀ {vs : List Value} {xs : List Str}, StrsAre vs xs → ∀ i, i < xs.length → ∃ x t, xs[i]? = some x ∧ vs[i]? = some (.str x t) := by
    intro vs xs hv
    induction hv with
    | nil => intro i hi; simp at hi
    | cons y t _ ih =>
      intro i hi
      cases i with
      | zero => exact ⟨y, t, rfl, rfl⟩
      | succ i =>
        obtain ⟨x, t, a, b⟩ := ih i (by simpa using hi)
        exact ⟨x, t, by simpa using a, by simpa using b⟩
  obtain ⟨x, t, hx, hvx⟩ := get hv k.toNat (by omega)
  exact tail_any hl.typeIs slot_list_getitem.lookup (wpAny_getItem_list hl h0 (by omega) (by simpa using hvx) (h x t hx)) hs
end
local macro_rules | `(tactic| k_mem) => `(tactic| assumption)
local macro_rules | `(tactic| units_room) => `(tactic| ((simp only [units_in1, units_deeper, Around.mark_units, units_caller]); (try dsimp only [ktrTop]); omega))
local macro_rules | `(tactic| walk_at "exec While Compare cons nil") => `(tactic| (k_here; with_reducible refine unstop ?_))
local macro_rules | `(tactic| walk_at "call builtin:len") => `(tactic| (k_here; (with_reducible show wpAny _ _ (call (Value.builtin _) [Value.ref _]) _ _ _); k_dflt (refine' len_J ?k1 ?k2 ?k3 ?k4 ?_; (case k1 => k_asm); (case k2 => k_mem); (case k3 => assumption); (case k4 => exact Jour.small (by assumption)); k_whole); intro t9 k9))
local macro_rules | `(tactic| walk_at "binaryOp FloorDiv int int") => `(tactic| (k_here; with_reducible refine floordiv2 ?_))
local macro_rules | `(tactic| walk_at "subscriptTail") => `(tactic| (k_here; (with_reducible show wpAny _ _ (subscriptTail _ _ (Value.ref _) (Value.int _ _)) _ _ _); k_dflt (refine' item_J ?k1 ?k2 ?k3 ?k4 ?k5 ?k6 ?_; (case k1 => k_asm); (case k2 => k_mem); (case k3 => assumption); (case k4 => exact Jour.small (by assumption)); (case k5 => omega); (case k6 => omega); k_whole); intro x9 t9 hx9))
local macro_rules | `(tactic| walk_at "call ref") => `(tactic| (k_here; (with_reducible show wpAny _ _ (call (Value.ref _) [Value.str _ _]) _ _ _); k_dflt (refine' strip_call ?k1 ?k2 ?k3 ?k4 ?k5 ?kK ?c1 ?e1 ?e2 ?_; (case k1 => k_asm); (case k2 => k_asm); (case k3 => k_asm); (case k4 => k_asm); (case k5 => k_asm); (case kK => exact rfl); (case c1 => exact Jour.short (by assumption) _ (List.mem_of_getElem? (by assumption))); (case e1 => ktr_room); (case e2 => ktr_units); k_whole); (intro t' h' tk' F' N'); (try dsimp only); (try k_fold)))
set_option maxRecDepth 100000 in
set_option maxHeartbeats 8000000 in
theorem bisR_call {w : World} {mean : ExcName → Option Value} {mg mb : Str → Option Value} {dp un : Nat} {gd : Option (List Code)} {cn : Str} {cs : Scope} {ac : Addr} {ccd : Value} {cl : List (Str × Addr)} {outer : List Env} {A₀ : Around} {base h₀ : Heap} {L : Addr} {m : Str → Option Value} {news : Led} {s : Shared}
    {Q E : Value → Shared → Prop} {J : Addr} {vs : List Value} {nn : Nat} {xs : List Str} {ks : List Nat} {q : Nat} {tq : Tok}
    (B : Below A₀ base outer h₀) (F : Fr h₀ L s.heap m) (X : (hd.heap_39 w.params).In h₀) (N : News h₀ L s.heap news) (T : Top hd.view_39 (looseW hd.view_39 [Str.ofString "insort_right", Str.ofString "bisect_right", Str.ofString "bisect_left"]) mean mg mb h₀) (hk : cs.kind = .function)
    (hm : (J, ({ cls := .type "list", data := .seq vs.toArray nn } : Obj)) ∈ news) (hv : StrsAre vs xs) (hj : Jour xs ks)
    (hd' : dp + 60 < recursionLimit) (hu' : un + 480 < cLine)
    (hret : ∀ (r : Nat) t h' tk', r ≤ xs.length → (∀ (i k : Nat), ks[i]? = some k → i < r → k ≤ q) → (∀ (i k : Nat), ks[i]? = some k → r ≤ i → q < k) → Fr h₀ L h' m → News h₀ L h' news → Q (.int r t) { s with heap := h', toks := tk' }) :
    wpAny (model PySem.Challenge.rw_sr0021_01.row.prog w) (ktrTop dp un gd cn cs L ac ccd cl outer) (call (.ref 32) [.ref J, .str (kq q) tq] [(Str.ofString "key", .ref 48)]) Q E s := by
  w_top off
  revert X
  k_fill
  intro X
  refine wpAny_call ?_
  k_dflt (refine' code_def ?k1 ?k2 ?k3 ?k4 ?k5 ?kA ?kF ?kK ?k6 ?k7 ?k8 ?k9 ?kB ?_ ?c2 ?c3 ?c4 ?c5; (case kA => exact rfl); (case kF => exact rfl); (case kK => assumption); (case k1 => k_asm); (case k2 => k_asm); (case k3 => k_asm); (case k4 => k_asm); (case k5 => k_asm); (case k6 => k_is); (case k7 => k_is); (case k8 => ktr_room); (case k9 => (refine' kp_binds ?kx ?ke; (case kx => k_in); (case ke => exact fun _ => rfl))); (case c5 => decide); (case kB => exact locs rfl); (case c2 => exact rfl); (case c3 => exact rfl); (case c4 => exact rfl); k_whole; intro g' L' h' FG' F' N' B' X' T'; (try dsimp only); (try k_fold))
  k_steps
  dsimp only [Stop]
  rename Fr _ _ _ _ => lF
  rename News _ _ _ _ => lN
  obtain ⟨t1, e1⟩ : ∃ t, frMap lF (Str.ofString "lo") = some (.int ((0 : Nat) : Int) t) := ⟨_, by with_unfolding_all rfl⟩
  obtain ⟨t2, e2⟩ : ∃ t, frMap lF (Str.ofString "hi") = some (.int (xs.length : Int) t) := ⟨_, by with_unfolding_all rfl⟩
  refine ksw_while (σ := BS) (fun _ => news) (fun c => [(Str.ofString "lo", .int c.lo c.tl), (Str.ofString "hi", .int c.hi c.th)]) (fun _ => True) [Str.ofString "mid"]
    (fun c => c.lo ≤ c.hi ∧ c.hi ≤ xs.length ∧ (∀ (i k : Nat), ks[i]? = some k → i < c.lo → k ≤ q) ∧ (∀ (i k : Nat), ks[i]? = some k → c.hi ≤ i → q < k)) (fun c => c.hi - c.lo) ⟨0, xs.length, t1, t2⟩ lF lN trivial (List.forall_mem_cons.mpr ⟨e1, List.forall_mem_cons.mpr ⟨e2, fun _ h => nomatch h⟩⟩) ?_ ?_
  · refine ⟨Nat.zero_le _, Nat.le_refl _, fun i k _ h => absurd h (Nat.not_lt_zero _), fun i k hi h => ?_⟩
    have := (List.getElem?_eq_some_iff.mp hi).1
    have := hj.len
    dsimp only at h
    omega
  · clear e1 e2 lF lN
    intro c u h₁ tk₁ _ ⟨hc1, hc2, hc3, hc4⟩ F₁ N₁
    have hsm := hj.small
    k_steps
    · rename Fr _ _ _ _ => lF
      rename News _ _ _ _ => lN
      rename xs[_]? = some _ => hx
      rename List.lt _ _ => hc
      have hmid : ((c.lo : Int) + c.hi) / 2 = (((c.lo + c.hi) / 2 : Nat) : Int) := by omega
      obtain ⟨t3, e3⟩ : ∃ t, frMap lF (Str.ofString "lo") = some (.int (c.lo : Int) t) := ⟨_, by with_unfolding_all rfl⟩
      obtain ⟨t4, e4⟩ : ∃ t, frMap lF (Str.ofString "hi") = some (.int (((c.lo : Int) + c.hi) / 2) t) := ⟨_, by with_unfolding_all rfl⟩
      replace e4 := e4.trans (congrArg (fun z => some (Value.int z t4)) hmid)
      rw [hmid] at hx
      rw [Int.toNat_natCast] at hx
      obtain ⟨k, hk1, hk2⟩ := hj.key _ _ hx
      rw [hk2] at hc
      replace hc := (kq_lt _ _).mp hc
      refine ksw_end (⟨c.lo, (c.lo + c.hi) / 2, t3, t4⟩ : BS) lF lN subI trivial (List.forall_mem_cons.mpr ⟨e3, List.forall_mem_cons.mpr ⟨e4, fun _ h => nomatch h⟩⟩) ?_ ?_ ?_
      · intro z h2 h3
        simp only [List.forall_mem_cons, List.not_mem_nil, false_implies, implies_true, and_true, ne_eq] at h2
        simp only [List.contains_cons, List.contains_nil, Bool.or_false, beq_eq_false_iff_ne, ne_eq] at h3
        simp [kstB, h2, h3]
      · refine ⟨by dsimp only; omega, by dsimp only; omega, hc3, fun i k' hi hle => Nat.lt_of_lt_of_le hc (hj.sort _ _ _ _ hk1 hi hle)⟩
      · dsimp only; omega
    · rename Fr _ _ _ _ => lF
      rename News _ _ _ _ => lN
      rename xs[_]? = some _ => hx
      rename ¬ (List.lt _ _) => hc
      have hmid : ((c.lo : Int) + c.hi) / 2 = (((c.lo + c.hi) / 2 : Nat) : Int) := by omega
      obtain ⟨t3, e3⟩ : ∃ t, frMap lF (Str.ofString "lo") = some (.int (((c.lo : Int) + c.hi) / 2 + 1) t) := ⟨_, by with_unfolding_all rfl⟩
      obtain ⟨t4, e4⟩ : ∃ t, frMap lF (Str.ofString "hi") = some (.int (c.hi : Int) t) := ⟨_, by with_unfolding_all rfl⟩
      replace e3 := e3.trans (congrArg (fun z => some (Value.int (z + 1) t3)) hmid)
      rw [hmid] at hx
      rw [Int.toNat_natCast] at hx
      obtain ⟨k, hk1, hk2⟩ := hj.key _ _ hx
      rw [hk2] at hc
      replace hc := Nat.le_of_not_lt (fun h => hc ((kq_lt _ _).mpr h))
      refine ksw_end (⟨(c.lo + c.hi) / 2 + 1, c.hi, t3, t4⟩ : BS) lF lN subI trivial (List.forall_mem_cons.mpr ⟨e3, List.forall_mem_cons.mpr ⟨e4, fun _ h => nomatch h⟩⟩) ?_ ?_ ?_
      · intro z h2 h3
        simp only [List.forall_mem_cons, List.not_mem_nil, false_implies, implies_true, and_true, ne_eq] at h2
        simp only [List.contains_cons, List.contains_nil, Bool.or_false, beq_eq_false_iff_ne, ne_eq] at h3
        simp [kstB, h2, h3]
      · refine ⟨by dsimp only; omega, hc2, fun i k' hi hle => Nat.le_trans (hj.sort _ _ _ _ hi hk1 (Nat.le_of_lt_succ hle)) hc, hc4⟩
      · dsimp only; omega
    · refine hret c.lo _ _ _ (by omega) hc3 (fun i k hi hle => hc4 i k hi (by omega)) (by assumption) (by assumption)
set_option maxRecDepth 100000 in
set_option maxHeartbeats 8000000 in
theorem bisR4_call {w : World} {mean : ExcName → Option Value} {mg mb : Str → Option Value} {dp un : Nat} {gd : Option (List Code)} {cn : Str} {cs : Scope} {ac : Addr} {ccd : Value} {cl : List (Str × Addr)} {outer : List Env} {A₀ : Around} {base h₀ : Heap} {L : Addr} {m : Str → Option Value} {news : Led} {s : Shared}
    {Q E : Value → Shared → Prop} {J : Addr} {vs : List Value} {nn : Nat} {xs : List Str} {ks : List Nat} {q : Nat} {y : Str} {tq t0 : Tok}
    (B : Below A₀ base outer h₀) (F : Fr h₀ L s.heap m) (X : (hd.heap_39 w.params).In h₀) (N : News h₀ L s.heap news) (T : Top hd.view_39 (looseW hd.view_39 [Str.ofString "insort_right", Str.ofString "bisect_right", Str.ofString "bisect_left"]) mean mg mb h₀) (hk : cs.kind = .function)
    (hm : (J, ({ cls := .type "list", data := .seq vs.toArray nn } : Obj)) ∈ news) (hv : StrsAre vs xs) (hj : Jour xs ks) (hy : y = kq q)
    (hd' : dp + 60 < recursionLimit) (hu' : un + 480 < cLine)
    (hret : ∀ (r : Nat) t h' tk', r ≤ xs.length → (∀ (i k : Nat), ks[i]? = some k → i < r → k ≤ q) → (∀ (i k : Nat), ks[i]? = some k → r ≤ i → q < k) → Fr h₀ L h' m → News h₀ L h' news → Q (.int r t) { s with heap := h', toks := tk' }) :
    wpAny (model PySem.Challenge.rw_sr0021_01.row.prog w) (ktrTop dp un gd cn cs L ac ccd cl outer) (call (.ref 32) [.ref J, .str y tq, .int 0 t0, .none] [(Str.ofString "key", .ref 48)]) Q E s := by
  subst hy
  w_top off
  revert X
  k_fill
  intro X
  refine wpAny_call ?_
  k_dflt (refine' code_def ?k1 ?k2 ?k3 ?k4 ?k5 ?kA ?kF ?kK ?k6 ?k7 ?k8 ?k9 ?kB ?_ ?c2 ?c3 ?c4 ?c5; (case kA => exact rfl); (case kF => exact rfl); (case kK => assumption); (case k1 => k_asm); (case k2 => k_asm); (case k3 => k_asm); (case k4 => k_asm); (case k5 => k_asm); (case k6 => k_is); (case k7 => k_is); (case k8 => ktr_room); (case k9 => (refine' kp_binds ?kx ?ke; (case kx => k_in); (case ke => exact fun _ => rfl))); (case c5 => decide); (case kB => exact locs rfl); (case c2 => exact rfl); (case c3 => exact rfl); (case c4 => exact rfl); k_whole; intro g' L' h' FG' F' N' B' X' T'; (try dsimp only); (try k_fold))
  k_steps
  dsimp only [Stop]
  rename Fr _ _ _ _ => lF
  rename News _ _ _ _ => lN
  obtain ⟨t1, e1⟩ : ∃ t, frMap lF (Str.ofString "lo") = some (.int ((0 : Nat) : Int) t) := ⟨_, by with_unfolding_all rfl⟩
  obtain ⟨t2, e2⟩ : ∃ t, frMap lF (Str.ofString "hi") = some (.int (xs.length : Int) t) := ⟨_, by with_unfolding_all rfl⟩
  refine ksw_while (σ := BS) (fun _ => news) (fun c => [(Str.ofString "lo", .int c.lo c.tl), (Str.ofString "hi", .int c.hi c.th)]) (fun _ => True) [Str.ofString "mid"]
    (fun c => c.lo ≤ c.hi ∧ c.hi ≤ xs.length ∧ (∀ (i k : Nat), ks[i]? = some k → i < c.lo → k ≤ q) ∧ (∀ (i k : Nat), ks[i]? = some k → c.hi ≤ i → q < k)) (fun c => c.hi - c.lo) ⟨0, xs.length, t1, t2⟩ lF lN trivial (List.forall_mem_cons.mpr ⟨e1, List.forall_mem_cons.mpr ⟨e2, fun _ h => nomatch h⟩⟩) ?_ ?_
  · refine ⟨Nat.zero_le _, Nat.le_refl _, fun i k _ h => absurd h (Nat.not_lt_zero _), fun i k hi h => ?_⟩
    have := (List.getElem?_eq_some_iff.mp hi).1
    have := hj.len
    dsimp only at h
    omega
  · clear e1 e2 lF lN
    intro c u h₁ tk₁ _ ⟨hc1, hc2, hc3, hc4⟩ F₁ N₁
    have hsm := hj.small
    k_steps
    · rename Fr _ _ _ _ => lF
      rename News _ _ _ _ => lN
      rename xs[_]? = some _ => hx
      rename List.lt _ _ => hc
      have hmid : ((c.lo : Int) + c.hi) / 2 = (((c.lo + c.hi) / 2 : Nat) : Int) := by omega
      obtain ⟨t3, e3⟩ : ∃ t, frMap lF (Str.ofString "lo") = some (.int (c.lo : Int) t) := ⟨_, by with_unfolding_all rfl⟩
      obtain ⟨t4, e4⟩ : ∃ t, frMap lF (Str.ofString "hi") = some (.int (((c.lo : Int) + c.hi) / 2) t) := ⟨_, by with_unfolding_all rfl⟩
      replace e4 := e4.trans (congrArg (fun z => some (Value.int z t4)) hmid)
      rw [hmid] at hx
      rw [Int.toNat_natCast] at hx
      obtain ⟨k, hk1, hk2⟩ := hj.key _ _ hx
      rw [hk2] at hc
      replace hc := (kq_lt _ _).mp hc
      refine ksw_end (⟨c.lo, (c.lo + c.hi) / 2, t3, t4⟩ : BS) lF lN subI trivial (List.forall_mem_cons.mpr ⟨e3, List.forall_mem_cons.mpr ⟨e4, fun _ h => nomatch h⟩⟩) ?_ ?_ ?_
      · intro z h2 h3
        simp only [List.forall_mem_cons, List.not_mem_nil, false_implies, implies_true, and_true, ne_eq] at h2
        simp only [List.contains_cons, List.contains_nil, Bool.or_false, beq_eq_false_iff_ne, ne_eq] at h3
        simp [kstB, h2, h3]
      · refine ⟨by dsimp only; omega, by dsimp only; omega, hc3, fun i k' hi hle => Nat.lt_of_lt_of_le hc (hj.sort _ _ _ _ hk1 hi hle)⟩
      · dsimp only; omega
    · rename Fr _ _ _ _ => lF
      rename News _ _ _ _ => lN
      rename xs[_]? = some _ => hx
      rename ¬ (List.lt _ _) => hc
      have hmid : ((c.lo : Int) + c.hi) / 2 = (((c.lo + c.hi) / 2 : Nat) : Int) := by omega
      obtain ⟨t3, e3⟩ : ∃ t, frMap lF (Str.ofString "lo") = some (.int (((c.lo : Int) + c.hi) / 2 + 1) t) := ⟨_, by with_unfolding_all rfl⟩
      obtain ⟨t4, e4⟩ : ∃ t, frMap lF (Str.ofString "hi") = some (.int (c.hi : Int) t) := ⟨_, by with_unfolding_all rfl⟩
      replace e3 := e3.trans (congrArg (fun z => some (Value.int (z + 1) t3)) hmid)
      rw [hmid] at hx
      rw [Int.toNat_natCast] at hx
      obtain ⟨k, hk1, hk2⟩ := hj.key _ _ hx
      rw [hk2] at hc
      replace hc := Nat.le_of_not_lt (fun h => hc ((kq_lt _ _).mpr h))
      refine ksw_end (⟨(c.lo + c.hi) / 2 + 1, c.hi, t3, t4⟩ : BS) lF lN subI trivial (List.forall_mem_cons.mpr ⟨e3, List.forall_mem_cons.mpr ⟨e4, fun _ h => nomatch h⟩⟩) ?_ ?_ ?_
      · intro z h2 h3
        simp only [List.forall_mem_cons, List.not_mem_nil, false_implies, implies_true, and_true, ne_eq] at h2
        simp only [List.contains_cons, List.contains_nil, Bool.or_false, beq_eq_false_iff_ne, ne_eq] at h3
        simp [kstB, h2, h3]
      · refine ⟨by dsimp only; omega, hc2, fun i k' hi hle => Nat.le_trans (hj.sort _ _ _ _ hi hk1 (Nat.le_of_lt_succ hle)) hc, hc4⟩
      · dsimp only; omega
    · refine hret c.lo _ _ _ (by omega) hc3 (fun i k hi hle => hc4 i k hi (by omega)) (by assumption) (by assumption)
set_option maxRecDepth 100000 in
set_option maxHeartbeats 8000000 in
theorem bisL_call {w : World} {mean : ExcName → Option Value} {mg mb : Str → Option Value} {dp un : Nat} {gd : Option (List Code)} {cn : Str} {cs : Scope} {ac : Addr} {ccd : Value} {cl : List (Str × Addr)} {outer : List Env} {A₀ : Around} {base h₀ : Heap} {L : Addr} {m : Str → Option Value} {news : Led} {s : Shared}
    {Q E : Value → Shared → Prop} {J : Addr} {vs : List Value} {nn : Nat} {xs : List Str} {ks : List Nat} {q : Nat} {tq : Tok}
    (B : Below A₀ base outer h₀) (F : Fr h₀ L s.heap m) (X : (hd.heap_39 w.params).In h₀) (N : News h₀ L s.heap news) (T : Top hd.view_39 (looseW hd.view_39 [Str.ofString "insort_right", Str.ofString "bisect_right", Str.ofString "bisect_left"]) mean mg mb h₀) (hk : cs.kind = .function)
    (hm : (J, ({ cls := .type "list", data := .seq vs.toArray nn } : Obj)) ∈ news) (hv : StrsAre vs xs) (hj : Jour xs ks)
    (hd' : dp + 60 < recursionLimit) (hu' : un + 480 < cLine)
    (hret : ∀ (r : Nat) t h' tk', r ≤ xs.length → (∀ (i k : Nat), ks[i]? = some k → i < r → k < q) → (∀ (i k : Nat), ks[i]? = some k → r ≤ i → q ≤ k) → Fr h₀ L h' m → News h₀ L h' news → Q (.int r t) { s with heap := h', toks := tk' }) :
    wpAny (model PySem.Challenge.rw_sr0021_01.row.prog w) (ktrTop dp un gd cn cs L ac ccd cl outer) (call (.ref 41) [.ref J, .str (kq q) tq] [(Str.ofString "key", .ref 48)]) Q E s := by
  w_top off
  revert X
  k_fill
  intro X
  refine wpAny_call ?_
  k_dflt (refine' code_def ?k1 ?k2 ?k3 ?k4 ?k5 ?kA ?kF ?kK ?k6 ?k7 ?k8 ?k9 ?kB ?_ ?c2 ?c3 ?c4 ?c5; (case kA => exact rfl); (case kF => exact rfl); (case kK => assumption); (case k1 => k_asm); (case k2 => k_asm); (case k3 => k_asm); (case k4 => k_asm); (case k5 => k_asm); (case k6 => k_is); (case k7 => k_is); (case k8 => ktr_room); (case k9 => (refine' kp_binds ?kx ?ke; (case kx => k_in); (case ke => exact fun _ => rfl))); (case c5 => decide); (case kB => exact locs rfl); (case c2 => exact rfl); (case c3 => exact rfl); (case c4 => exact rfl); k_whole; intro g' L' h' FG' F' N' B' X' T'; (try dsimp only); (try k_fold))
  k_steps
  dsimp only [Stop]
  rename Fr _ _ _ _ => lF
  rename News _ _ _ _ => lN
  obtain ⟨t1, e1⟩ : ∃ t, frMap lF (Str.ofString "lo") = some (.int ((0 : Nat) : Int) t) := ⟨_, by with_unfolding_all rfl⟩
  obtain ⟨t2, e2⟩ : ∃ t, frMap lF (Str.ofString "hi") = some (.int (xs.length : Int) t) := ⟨_, by with_unfolding_all rfl⟩
  refine ksw_while (σ := BS) (fun _ => news) (fun c => [(Str.ofString "lo", .int c.lo c.tl), (Str.ofString "hi", .int c.hi c.th)]) (fun _ => True) [Str.ofString "mid"]
    (fun c => c.lo ≤ c.hi ∧ c.hi ≤ xs.length ∧ (∀ (i k : Nat), ks[i]? = some k → i < c.lo → k < q) ∧ (∀ (i k : Nat), ks[i]? = some k → c.hi ≤ i → q ≤ k)) (fun c => c.hi - c.lo) ⟨0, xs.length, t1, t2⟩ lF lN trivial (List.forall_mem_cons.mpr ⟨e1, List.forall_mem_cons.mpr ⟨e2, fun _ h => nomatch h⟩⟩) ?_ ?_
  · refine ⟨Nat.zero_le _, Nat.le_refl _, fun i k _ h => absurd h (Nat.not_lt_zero _), fun i k hi h => ?_⟩
    have := (List.getElem?_eq_some_iff.mp hi).1
    have := hj.len
    dsimp only at h
    omega
  · clear e1 e2 lF lN
    intro c u h₁ tk₁ _ ⟨hc1, hc2, hc3, hc4⟩ F₁ N₁
    have hsm := hj.small
    k_steps
    · rename Fr _ _ _ _ => lF
      rename News _ _ _ _ => lN
      rename xs[_]? = some _ => hx
      rename List.lt _ _ => hc
      have hmid : ((c.lo : Int) + c.hi) / 2 = (((c.lo + c.hi) / 2 : Nat) : Int) := by omega
      obtain ⟨t3, e3⟩ : ∃ t, frMap lF (Str.ofString "lo") = some (.int (((c.lo : Int) + c.hi) / 2 + 1) t) := ⟨_, by with_unfolding_all rfl⟩
      obtain ⟨t4, e4⟩ : ∃ t, frMap lF (Str.ofString "hi") = some (.int (c.hi : Int) t) := ⟨_, by with_unfolding_all rfl⟩
      replace e3 := e3.trans (congrArg (fun z => some (Value.int (z + 1) t3)) hmid)
      rw [hmid] at hx
      rw [Int.toNat_natCast] at hx
      obtain ⟨k, hk1, hk2⟩ := hj.key _ _ hx
      rw [hk2] at hc
      replace hc := (kq_lt _ _).mp hc
      refine ksw_end (⟨(c.lo + c.hi) / 2 + 1, c.hi, t3, t4⟩ : BS) lF lN subI trivial (List.forall_mem_cons.mpr ⟨e3, List.forall_mem_cons.mpr ⟨e4, fun _ h => nomatch h⟩⟩) ?_ ?_ ?_
      · intro z h2 h3
        simp only [List.forall_mem_cons, List.not_mem_nil, false_implies, implies_true, and_true, ne_eq] at h2
        simp only [List.contains_cons, List.contains_nil, Bool.or_false, beq_eq_false_iff_ne, ne_eq] at h3
        simp [kstB, h2, h3]
      · refine ⟨by dsimp only; omega, hc2, fun i k' hi hle => Nat.lt_of_le_of_lt (hj.sort _ _ _ _ hi hk1 (Nat.le_of_lt_succ hle)) hc, hc4⟩
      · dsimp only; omega
    · rename Fr _ _ _ _ => lF
      rename News _ _ _ _ => lN
      rename xs[_]? = some _ => hx
      rename ¬ (List.lt _ _) => hc
      have hmid : ((c.lo : Int) + c.hi) / 2 = (((c.lo + c.hi) / 2 : Nat) : Int) := by omega
      obtain ⟨t3, e3⟩ : ∃ t, frMap lF (Str.ofString "lo") = some (.int (c.lo : Int) t) := ⟨_, by with_unfolding_all rfl⟩
      obtain ⟨t4, e4⟩ : ∃ t, frMap lF (Str.ofString "hi") = some (.int (((c.lo : Int) + c.hi) / 2) t) := ⟨_, by with_unfolding_all rfl⟩
      replace e4 := e4.trans (congrArg (fun z => some (Value.int z t4)) hmid)
      rw [hmid] at hx
      rw [Int.toNat_natCast] at hx
      obtain ⟨k, hk1, hk2⟩ := hj.key _ _ hx
      rw [hk2] at hc
      replace hc := Nat.le_of_not_lt (fun h => hc ((kq_lt _ _).mpr h))
      refine ksw_end (⟨c.lo, (c.lo + c.hi) / 2, t3, t4⟩ : BS) lF lN subI trivial (List.forall_mem_cons.mpr ⟨e3, List.forall_mem_cons.mpr ⟨e4, fun _ h => nomatch h⟩⟩) ?_ ?_ ?_
      · intro z h2 h3
        simp only [List.forall_mem_cons, List.not_mem_nil, false_implies, implies_true, and_true, ne_eq] at h2
        simp only [List.contains_cons, List.contains_nil, Bool.or_false, beq_eq_false_iff_ne, ne_eq] at h3
        simp [kstB, h2, h3]
      · refine ⟨by dsimp only; omega, by dsimp only; omega, hc3, fun i k' hi hle => Nat.le_trans hc (hj.sort _ _ _ _ hk1 hi hle)⟩
      · dsimp only; omega
    · refine hret c.lo _ _ _ (by omega) hc3 (fun i k hi hle => hc4 i k hi (by omega)) (by assumption) (by assumption)
end SrMine
namespace SrMine
local macro_rules | `(tactic| k_mem) => `(tactic| assumption)
local macro_rules | `(tactic| units_room) => `(tactic| ((simp only [units_in1, units_deeper, Around.mark_units, units_caller]); (try dsimp only [ktrTop]); omega))
local macro_rules | `(tactic| walk_at "call ref") => `(tactic| (k_here; (with_reducible show wpAny _ _ (call (Value.ref _) [Value.str _ _]) _ _ _); k_dflt (refine' strip_call ?k1 ?k2 ?k3 ?k4 ?k5 ?kK ?c1 ?e1 ?e2 ?_; (case k1 => k_asm); (case k2 => k_asm); (case k3 => k_asm); (case k4 => k_asm); (case k5 => k_asm); (case kK => exact rfl); (case c1 => assumption); (case e1 => ktr_room); (case e2 => ktr_units); k_whole); (intro t' h' tk' F' N'); (try dsimp only); (try k_fold)))
local macro_rules | `(tactic| walk_at "call ref") => `(tactic| (k_here; (with_reducible show wpAny _ _ (call (Value.ref _) [Value.ref _, Value.str _ _, Value.int _ _, Value.none] _) _ _ _); k_dflt (refine' bisR4_call ?k1 ?k2 ?k3 ?k4 ?k5 ?kK ?m ?v ?j ?y ?e1 ?e2 ?_; (case k1 => k_asm); (case k2 => k_asm); (case k3 => k_asm); (case k4 => k_asm); (case k5 => k_asm); (case kK => exact rfl); (case m => exact .head _); (case v => assumption); (case j => assumption); (case y => assumption); (case e1 => ktr_room); (case e2 => ktr_units); k_whole); (intro r9 t' h' tk' hb1 hb2 hb3 F' N'); (try dsimp only); (try k_fold)))
local macro_rules | `(tactic| walk_at "call builtin:list.insert") => `(tactic| (k_here; with_reducible refine unstop ?_))
theorem ins_eq (vs : List Value) (r : Nat) (y : Value) (h : r ≤ vs.length) : kl_ins vs (r : Int) y = vs.take r ++ y :: vs.drop r := by
  unfold kl_ins
  have h1 : ¬ ((r : Int) < 0) := by omega
  have h2 : min (r : Int).toNat vs.length = r := by rw [Int.toNat_natCast]; omega
  simp only [if_neg h1, h2]
set_option maxRecDepth 100000 in
set_option maxHeartbeats 8000000 in
theorem insort_call {w : World} {mean : ExcName → Option Value} {mg mb : Str → Option Value} {dp un : Nat} {gd : Option (List Code)} {cn : Str} {cs : Scope} {ac : Addr} {ccd : Value} {cl : List (Str × Addr)} {outer : List Env} {A₀ : Around} {base h₀ : Heap} {L : Addr} {m : Str → Option Value} {rest : Led} {s : Shared}
    {Q E : Value → Shared → Prop} {J : Addr} {vs : List Value} {nn : Nat} {xs : List Str} {ks : List Nat} {q : Nat} {x : Str} {tx : Tok}
    (B : Below A₀ base outer h₀) (F : Fr h₀ L s.heap m) (X : (hd.heap_39 w.params).In h₀) (N : News h₀ L s.heap ((J, ({ cls := .type "list", data := .seq vs.toArray nn } : Obj)) :: rest)) (T : Top hd.view_39 (looseW hd.view_39 [Str.ofString "insort_right", Str.ofString "bisect_right", Str.ofString "bisect_left"]) mean mg mb h₀) (hk : cs.kind = .function)
    (hr : ∀ p ∈ rest, p.1 ≠ J) (hv : StrsAre vs xs) (hj : Jour xs ks) (hx : x.length ≤ 100) (hq : stripT x = kq q)
    (hd' : dp + 100 < recursionLimit) (hu' : un + 800 < cLine)
    (hret : ∀ (r : Nat) t h' tk', r ≤ xs.length → (∀ (i k : Nat), ks[i]? = some k → i < r → k ≤ q) → (∀ (i k : Nat), ks[i]? = some k → r ≤ i → q < k) → Fr h₀ L h' m → News h₀ L h' ((J, ({ cls := .type "list", data := .seq (vs.take r ++ .str x t :: vs.drop r).toArray (nn + 1) } : Obj)) :: rest) → Q .none { s with heap := h', toks := tk' }) :
    wpAny (model PySem.Challenge.rw_sr0021_01.row.prog w) (ktrTop dp un gd cn cs L ac ccd cl outer) (call (.ref 23) [.ref J, .str x tx] [(Str.ofString "key", .ref 48)]) Q E s := by
  w_top off
  revert X
  k_fill
  intro X
  refine wpAny_call ?_
  k_dflt (refine' code_def ?k1 ?k2 ?k3 ?k4 ?k5 ?kA ?kF ?kK ?k6 ?k7 ?k8 ?k9 ?kB ?_ ?c2 ?c3 ?c4 ?c5; (case kA => exact rfl); (case kF => exact rfl); (case kK => assumption); (case k1 => k_asm); (case k2 => k_asm); (case k3 => k_asm); (case k4 => k_asm); (case k5 => k_asm); (case k6 => k_is); (case k7 => k_is); (case k8 => ktr_room); (case k9 => (refine' kp_binds ?kx ?ke; (case kx => k_in); (case ke => exact fun _ => rfl))); (case c5 => decide); (case kB => exact locs rfl); (case c2 => exact rfl); (case c3 => exact rfl); (case c4 => exact rfl); k_whole; intro g' L' h' FG' F' N' B' X' T'; (try dsimp only); (try k_fold))
  k_steps
  dsimp only [Stop]
  rename Fr _ _ _ _ => lF
  rename News _ _ _ _ => lN
  rename _ ≤ xs.length => hb1
  have hs := strs_len hv
  have hsm := hj.small
  refine kl_insert lF lN ?_ (ins_eq vs _ _ (by rw [hs]; exact hb1)) (Upd.head hr) ?_ ?_
  · unfold Builtin.List.listFitsIndex
    simp
    omega
  · show vs.length ≤ _
    rw [PySem.sizeLine_eq]; omega
  · intro h9 F9 N9
    clear lF lN
    k_steps
    exact hret _ _ _ _ hb1 (by assumption) (by assumption) (by assumption) (by assumption)
end SrMine
namespace SrMine
noncomputable def aheads : List Str := [⟨#[]⟩, ⟨#[112, 46]⟩, ⟨#[113, 46, 114, 46]⟩, ⟨#[46]⟩]
noncomputable def behinds : List Str := [⟨#[58, 32]⟩, ⟨#[58, 46]⟩, ⟨#[10]⟩, ⟨#[10, 58]⟩]
theorem os_nl : Str.ofString "\n" = ⟨#[10]⟩ := by decide +kernel
theorem os_co : Str.ofString ":" = ⟨#[58]⟩ := by decide +kernel
theorem os_dot : Str.ofString "." = ⟨#[46]⟩ := by decide +kernel
theorem os_a0 : Str.ofString "" = ⟨#[]⟩ := by decide +kernel
theorem os_a1 : Str.ofString "p." = ⟨#[112, 46]⟩ := by decide +kernel
theorem os_a2 : Str.ofString "q.r." = ⟨#[113, 46, 114, 46]⟩ := by decide +kernel
theorem os_b0 : Str.ofString ": " = ⟨#[58, 32]⟩ := by decide +kernel
theorem os_b1 : Str.ofString ":." = ⟨#[58, 46]⟩ := by decide +kernel
theorem os_b3 : Str.ofString "\n:" = ⟨#[10, 58]⟩ := by decide +kernel
noncomputable def stripC (x : Str) : Str :=
  let e1 : Int := if 0 ≤ (Txt.find x ⟨#[10]⟩ : Int) then (Txt.find x ⟨#[10]⟩ : Int) else (x.length : Int)
  let f2 := findR x ⟨#[58]⟩ 0 e1
  let e2 := if 0 ≤ f2 then f2 else e1
  let f3 := rfindR x ⟨#[46]⟩ 0 e2
  Txt.slice x (some (if 0 ≤ f3 then f3 + 1 else 0)) (some e2)
theorem strip_C (x : Str) : stripT x = stripC x := by unfold stripT stripC; rw [os_nl, os_co, os_dot]
noncomputable def lineOf (a b : Str) (k y : Nat) : Str := a ++ kq k ++ b ++ kq y
theorem hexF_two : ∀ k < 13, hexF 4 (16 + k) [] = [66, k + 65] := by decide +kernel
/-- a line of the journal: its key's letter k, its last letter y -/
structure IsLine (x : Str) (k y : Nat) : Prop where
  key : stripT x = kq k
  short : x.length ≤ 100
  last : x.cps.toList.getLast? = some (y + 65)
theorem sl_00 (k y : Nat) : IsLine (lineOf ⟨#[]⟩ ⟨#[58, 32]⟩ k y) k y := ⟨(strip_C _).trans (by kernel_rfl), Nat.le_of_ble_eq_true (by kernel_rfl), by kernel_rfl⟩
theorem sl_01 (k y : Nat) : IsLine (lineOf ⟨#[]⟩ ⟨#[58, 46]⟩ k y) k y := ⟨(strip_C _).trans (by kernel_rfl), Nat.le_of_ble_eq_true (by kernel_rfl), by kernel_rfl⟩
theorem sl_02 (k y : Nat) : IsLine (lineOf ⟨#[]⟩ ⟨#[10]⟩ k y) k y := ⟨(strip_C _).trans (by kernel_rfl), Nat.le_of_ble_eq_true (by kernel_rfl), by kernel_rfl⟩
theorem sl_03 (k y : Nat) : IsLine (lineOf ⟨#[]⟩ ⟨#[10, 58]⟩ k y) k y := ⟨(strip_C _).trans (by kernel_rfl), Nat.le_of_ble_eq_true (by kernel_rfl), by kernel_rfl⟩
theorem sl_10 (k y : Nat) : IsLine (lineOf ⟨#[112, 46]⟩ ⟨#[58, 32]⟩ k y) k y := ⟨(strip_C _).trans (by kernel_rfl), Nat.le_of_ble_eq_true (by kernel_rfl), by kernel_rfl⟩
theorem sl_11 (k y : Nat) : IsLine (lineOf ⟨#[112, 46]⟩ ⟨#[58, 46]⟩ k y) k y := ⟨(strip_C _).trans (by kernel_rfl), Nat.le_of_ble_eq_true (by kernel_rfl), by kernel_rfl⟩
theorem sl_12 (k y : Nat) : IsLine (lineOf ⟨#[112, 46]⟩ ⟨#[10]⟩ k y) k y := ⟨(strip_C _).trans (by kernel_rfl), Nat.le_of_ble_eq_true (by kernel_rfl), by kernel_rfl⟩
theorem sl_13 (k y : Nat) : IsLine (lineOf ⟨#[112, 46]⟩ ⟨#[10, 58]⟩ k y) k y := ⟨(strip_C _).trans (by kernel_rfl), Nat.le_of_ble_eq_true (by kernel_rfl), by kernel_rfl⟩
theorem sl_20 (k y : Nat) : IsLine (lineOf ⟨#[113, 46, 114, 46]⟩ ⟨#[58, 32]⟩ k y) k y := ⟨(strip_C _).trans (by kernel_rfl), Nat.le_of_ble_eq_true (by kernel_rfl), by kernel_rfl⟩
theorem sl_21 (k y : Nat) : IsLine (lineOf ⟨#[113, 46, 114, 46]⟩ ⟨#[58, 46]⟩ k y) k y := ⟨(strip_C _).trans (by kernel_rfl), Nat.le_of_ble_eq_true (by kernel_rfl), by kernel_rfl⟩
theorem sl_22 (k y : Nat) : IsLine (lineOf ⟨#[113, 46, 114, 46]⟩ ⟨#[10]⟩ k y) k y := ⟨(strip_C _).trans (by kernel_rfl), Nat.le_of_ble_eq_true (by kernel_rfl), by kernel_rfl⟩
theorem sl_23 (k y : Nat) : IsLine (lineOf ⟨#[113, 46, 114, 46]⟩ ⟨#[10, 58]⟩ k y) k y := ⟨(strip_C _).trans (by kernel_rfl), Nat.le_of_ble_eq_true (by kernel_rfl), by kernel_rfl⟩
theorem sl_30 (k y : Nat) : IsLine (lineOf ⟨#[46]⟩ ⟨#[58, 32]⟩ k y) k y := ⟨(strip_C _).trans (by kernel_rfl), Nat.le_of_ble_eq_true (by kernel_rfl), by kernel_rfl⟩
theorem sl_31 (k y : Nat) : IsLine (lineOf ⟨#[46]⟩ ⟨#[58, 46]⟩ k y) k y := ⟨(strip_C _).trans (by kernel_rfl), Nat.le_of_ble_eq_true (by kernel_rfl), by kernel_rfl⟩
theorem sl_32 (k y : Nat) : IsLine (lineOf ⟨#[46]⟩ ⟨#[10]⟩ k y) k y := ⟨(strip_C _).trans (by kernel_rfl), Nat.le_of_ble_eq_true (by kernel_rfl), by kernel_rfl⟩
theorem sl_33 (k y : Nat) : IsLine (lineOf ⟨#[46]⟩ ⟨#[10, 58]⟩ k y) k y := ⟨(strip_C _).trans (by kernel_rfl), Nat.le_of_ble_eq_true (by kernel_rfl), by kernel_rfl⟩
theorem line_is {a b : Str} (ha : a ∈ aheads) (hb : b ∈ behinds) (k y : Nat) : IsLine (lineOf a b k y) k y := by
  unfold aheads at ha
  unfold behinds at hb
  simp only [List.mem_cons, List.not_mem_nil, or_false] at ha hb
  rcases ha with rfl | rfl | rfl | rfl <;> rcases hb with rfl | rfl | rfl | rfl
  · exact sl_00 k y
  · exact sl_01 k y
  · exact sl_02 k y
  · exact sl_03 k y
  · exact sl_10 k y
  · exact sl_11 k y
  · exact sl_12 k y
  · exact sl_13 k y
  · exact sl_20 k y
  · exact sl_21 k y
  · exact sl_22 k y
  · exact sl_23 k y
  · exact sl_30 k y
  · exact sl_31 k y
  · exact sl_32 k y
  · exact sl_33 k y
end SrMine
namespace SrMine
inductive Lines : List Str → List (Nat × Nat) → Prop where
  | nil : Lines [] []
  | cons {x : Str} {k y : Nat} {xs : List Str} {jl : List (Nat × Nat)} (h : IsLine x k y) (r : Lines xs jl) : Lines (x :: xs) ((k, y) :: jl)
theorem Lines.length : ∀ {xs jl}, Lines xs jl → xs.length = jl.length
  | _, _, .nil => rfl
  | _, _, .cons _ r => by simp [r.length]
theorem Lines.take : ∀ {xs jl} (r : Nat), Lines xs jl → Lines (xs.take r) (jl.take r)
  | _, _, 0, _ => by simp only [List.take_zero]; exact .nil
  | _, _, _ + 1, .nil => .nil
  | _, _, r + 1, .cons h t => .cons h (t.take r)
theorem Lines.drop : ∀ {xs jl} (r : Nat), Lines xs jl → Lines (xs.drop r) (jl.drop r)
  | _, _, 0, h => h
  | _, _, _ + 1, .nil => .nil
  | _, _, r + 1, .cons _ t => t.drop r
theorem Lines.append : ∀ {xs jl xs' jl'}, Lines xs jl → Lines xs' jl' → Lines (xs ++ xs') (jl ++ jl')
  | _, _, _, _, .nil, h => h
  | _, _, _, _, .cons h t, h' => .cons h (t.append h')
theorem Lines.get : ∀ {xs jl}, Lines xs jl → ∀ (i : Nat) x, xs[i]? = some x → ∃ k y, jl[i]? = some (k, y) ∧ IsLine x k y
  | _, _, .nil, i, x, h => by simp at h
  | _, _, .cons h t, 0, x, e => by simp at e; subst e; exact ⟨_, _, rfl, h⟩
  | _, _, .cons h t, i + 1, x, e => by simpa using t.get i x (by simpa using e)
theorem strs_take : ∀ {vs : List Value} {xs : List Str} (r : Nat), StrsAre vs xs → StrsAre (vs.take r) (xs.take r)
  | _, _, 0, _ => by simp only [List.take_zero]; exact .nil
  | _, _, _ + 1, .nil => .nil
  | _, _, r + 1, .cons y t h => .cons y t (strs_take r h)
theorem strs_drop : ∀ {vs : List Value} {xs : List Str} (r : Nat), StrsAre vs xs → StrsAre (vs.drop r) (xs.drop r)
  | _, _, 0, h => h
  | _, _, _ + 1, .nil => .nil
  | _, _, r + 1, .cons _ _ h => strs_drop r h
theorem strs_app : ∀ {vs : List Value} {xs : List Str} {vs' : List Value} {xs' : List Str}, StrsAre vs xs → StrsAre vs' xs' → StrsAre (vs ++ vs') (xs ++ xs')
  | _, _, _, _, .nil, h => h
  | _, _, _, _, .cons y t h, h' => .cons y t (strs_app h h')
theorem strs_ins {vs : List Value} {xs : List Str} {x : Str} {t : Tok} (r : Nat) (h : StrsAre vs xs) : StrsAre (vs.take r ++ .str x t :: vs.drop r) (xs.take r ++ x :: xs.drop r) :=
  strs_app (strs_take r h) (.cons x t (strs_drop r h))

/-- the journal behind n turns -/
structure JJ (p n : Nat) (xs : List Str) (jl : List (Nat × Nat)) : Prop where
  lines : Lines xs jl
  len : jl.length = n
  sort : jl.Pairwise (fun a b => a.1 ≤ b.1)
  filt : ∀ q, (jl.filter (fun a => decide (a.1 = q))).map (·.2) = (List.range n).filter (fun y => decide (y * y % p = q))
theorem jj_nil (p : Nat) : JJ p 0 [] [] := ⟨.nil, rfl, .nil, fun _ => rfl⟩
theorem JJ.jour {p n : Nat} {xs : List Str} {jl : List (Nat × Nat)} (h : JJ p n xs jl) (hn : n ≤ 100) : Jour xs (jl.map (·.1)) where
  key := fun i x e => by
    obtain ⟨k, y, a, b⟩ := h.lines.get i x e
    exact ⟨k, by simp [a], b.key⟩
  len := by rw [h.lines.length, List.length_map]
  short := fun x hx => by
    obtain ⟨i, hi⟩ := List.mem_iff_getElem?.mp hx
    obtain ⟨k, y, a, b⟩ := h.lines.get i x hi
    exact b.short
  small := by rw [h.lines.length, h.len]; exact hn
  sort := fun i j a b ha hb hij => by
    have hp : (jl.map (·.1)).Pairwise (· ≤ ·) := by rw [List.pairwise_map]; exact h.sort
    rcases Nat.lt_or_eq_of_le hij with hlt | rfl
    · obtain ⟨h1, e1⟩ := List.getElem?_eq_some_iff.mp ha
      obtain ⟨h2, e2⟩ := List.getElem?_eq_some_iff.mp hb
      rw [← e1, ← e2]
      exact List.pairwise_iff_getElem.mp hp i j h1 h2 hlt
    · rw [ha] at hb; cases hb; exact Nat.le_refl _
theorem mem_take_get {α : Type} {l : List α} {r : Nat} {a : α} (h : a ∈ l.take r) : ∃ i, i < r ∧ l[i]? = some a := by
  obtain ⟨i, hi⟩ := List.mem_iff_getElem?.mp h
  rw [List.getElem?_take] at hi
  split at hi
  · exact ⟨i, by assumption, hi⟩
  · cases hi
theorem mem_drop_get {α : Type} {l : List α} {r : Nat} {a : α} (h : a ∈ l.drop r) : ∃ i, r ≤ i ∧ l[i]? = some a := by
  obtain ⟨i, hi⟩ := List.mem_iff_getElem?.mp h
  rw [List.getElem?_drop] at hi
  exact ⟨r + i, Nat.le_add_right _ _, hi⟩
theorem JJ.ins {p n : Nat} {xs : List Str} {jl : List (Nat × Nat)} {x : Str} {r : Nat} (h : JJ p n xs jl) (hx : IsLine x (n * n % p) n)
    (h1 : ∀ (i k : Nat), (jl.map (·.1))[i]? = some k → i < r → k ≤ n * n % p) (h2 : ∀ (i k : Nat), (jl.map (·.1))[i]? = some k → r ≤ i → n * n % p < k) :
    JJ p (n + 1) (xs.take r ++ x :: xs.drop r) (jl.take r ++ (n * n % p, n) :: jl.drop r) := by
  have ht : ∀ a ∈ jl.take r, a.1 ≤ n * n % p := fun a ha => by
    obtain ⟨i, hi, e⟩ := mem_take_get ha
    exact h1 i a.1 (by simp [e]) hi
  have hd : ∀ a ∈ jl.drop r, n * n % p < a.1 := fun a ha => by
    obtain ⟨i, hi, e⟩ := mem_drop_get ha
    exact h2 i a.1 (by simp [e]) hi
  have hs := h.sort
  rw [← List.take_append_drop r jl, List.pairwise_append] at hs
  refine ⟨(h.lines.take r).append (.cons hx (h.lines.drop r)), ?_, ?_, fun q => ?_⟩
  · have := congrArg List.length (List.take_append_drop r jl)
    rw [List.length_append] at this
    rw [List.length_append, List.length_cons, ← h.len]
    omega
  · rw [List.pairwise_append]
    refine ⟨hs.1, List.pairwise_cons.mpr ⟨fun a ha => Nat.le_of_lt (hd a ha), hs.2.1⟩, fun a ha b hb => ?_⟩
    rcases List.mem_cons.mp hb with rfl | hb
    · exact ht a ha
    · exact hs.2.2 a ha b hb
  · have hf := h.filt q
    have e : jl.filter (fun a => decide (a.1 = q)) = (jl.take r).filter (fun a => decide (a.1 = q)) ++ (jl.drop r).filter (fun a => decide (a.1 = q)) := by
      rw [← List.filter_append, List.take_append_drop]
    rw [List.range_succ, List.filter_append, List.filter_cons, List.filter_append, ← hf, e]
    by_cases hq : n * n % p = q
    · have hnil : (jl.drop r).filter (fun a => decide (a.1 = q)) = [] := by
        rw [List.filter_eq_nil_iff]
        intro a ha hc
        have := hd a ha
        have := of_decide_eq_true hc
        omega
      rw [hnil]
      simp [hq]
    · simp [hq]
/-- the slice between the two bounds is what has the key -/
theorem JJ.slice {p n q lo hi : Nat} {xs : List Str} {jl : List (Nat × Nat)} (h : JJ p n xs jl)
    (h1 : ∀ (i k : Nat), (jl.map (·.1))[i]? = some k → i < lo → k < q) (h2 : ∀ (i k : Nat), (jl.map (·.1))[i]? = some k → lo ≤ i → q ≤ k)
    (h3 : ∀ (i k : Nat), (jl.map (·.1))[i]? = some k → i < hi → k ≤ q) (h4 : ∀ (i k : Nat), (jl.map (·.1))[i]? = some k → hi ≤ i → q < k) :
    (jl.drop lo).take (hi - lo) = jl.filter (fun a => decide (a.1 = q)) := by
  have e0 : jl.filter (fun a => decide (a.1 = q)) = (jl.take lo).filter (fun a => decide (a.1 = q)) ++ (((jl.drop lo).take (hi - lo)).filter (fun a => decide (a.1 = q)) ++ ((jl.drop lo).drop (hi - lo)).filter (fun a => decide (a.1 = q))) := by
    rw [← List.filter_append, ← List.filter_append, List.take_append_drop, List.take_append_drop]
  have a1 : (jl.take lo).filter (fun a => decide (a.1 = q)) = [] := by
    rw [List.filter_eq_nil_iff]
    intro a ha hc
    obtain ⟨i, hi, e⟩ := mem_take_get ha
    have := h1 i a.1 (by simp [e]) hi
    have := of_decide_eq_true hc
    omega
  have a3 : ((jl.drop lo).drop (hi - lo)).filter (fun a => decide (a.1 = q)) = [] := by
    rw [List.filter_eq_nil_iff]
    intro a ha hc
    rw [List.drop_drop] at ha
    obtain ⟨i, hi, e⟩ := mem_drop_get ha
    have := h4 i a.1 (by simp [e]) (by omega)
    have := of_decide_eq_true hc
    omega
  have a2 : ((jl.drop lo).take (hi - lo)).filter (fun a => decide (a.1 = q)) = (jl.drop lo).take (hi - lo) := by
    rw [List.filter_eq_self]
    intro a ha
    obtain ⟨i, hi', e⟩ := mem_take_get ha
    rw [List.getElem?_drop] at e
    have b1 := h2 (lo + i) a.1 (by simp [e]) (Nat.le_add_right _ _)
    have b2 := h3 (lo + i) a.1 (by simp [e]) (by omega)
    exact decide_eq_true (Nat.le_antisymm b2 b1)
  rw [e0, a1, a3, a2]
  simp
end SrMine
namespace SrMine
abbrev ledOf {h₀ h : Heap} {L : Addr} {news : Led} (_ : News h₀ L h news) : Led := news
abbrev lstOf {h : Heap} {a : Addr} {vs : Array Value} (_ : Heap.IsList h a vs) : Array Value := vs
theorem fr_kst {h₀ h : Heap} {L : Addr} {m : Str → Option Value} {ps : List (Str × Value)} (F : Fr h₀ L h m) (e : ∀ p ∈ ps, m p.1 = some p.2) : Fr h₀ L h (kstB m ps) := by
  have : kstB m ps = m := funext fun z => kstB_eq e fun _ => rfl
  rw [this]; exact F
theorem cutAt {M : Model} {A : Around} {T : Sem α} {Q : α → Shared → Prop} {E : Value → Shared → Prop} {s₀ : Shared} {h : Heap} {tk : Nat} (P : Heap → Prop) (hP : P h) (k : ∀ h tk, P h → wpAny M A T Q E { s₀ with heap := h, toks := tk }) : wpAny M A T Q E { s₀ with heap := h, toks := tk } := k h tk hP
/-- the discriminant -/
@[irreducible] noncomputable def disc (a b p : Int) : Int := (4 * a * a * a + 27 * b * b).fmod p
@[irreducible] noncomputable def mu (a b p : Int) : Nat := if disc a b p = 0 then (if disc a ((b + 1).fmod p) p = 0 then 2 else 1) else 0
theorem mu_fall_dec : ∀ p ∈ [7, 11, 13], ∀ a < p, ∀ b < p, disc (a : Nat) (b : Nat) (p : Nat) = 0 → mu (a : Nat) (((b : Nat) + 1 : Int).fmod (p : Nat)) (p : Nat) < mu (a : Nat) (b : Nat) (p : Nat) := by
  decide +kernel
theorem mu_fall {p a b : Int} (hp : p = 7 ∨ p = 11 ∨ p = 13) (ha0 : 0 ≤ a) (ha : a < p) (hb0 : 0 ≤ b) (hb : b < p) (h : disc a b p = 0) : mu a ((b + 1).fmod p) p < mu a b p := by
  obtain ⟨a, rfl⟩ := Int.eq_ofNat_of_zero_le ha0
  obtain ⟨b, rfl⟩ := Int.eq_ofNat_of_zero_le hb0
  rcases hp with rfl | rfl | rfl
  · exact mu_fall_dec 7 (by simp) a (by omega) b (by omega) h
  · exact mu_fall_dec 11 (by simp) a (by omega) b (by omega) h
  · exact mu_fall_dec 13 (by simp) a (by omega) b (by omega) h
abbrev frL {h₀ h : Heap} {L : Addr} {m : Str → Option Value} (_ : Fr h₀ L h m) : Addr := L
abbrev frG {h₀ h : Heap} {L : Addr} {m : Str → Option Value} (_ : Fr h₀ L h m) : Heap := h₀
abbrev frH {h₀ h : Heap} {L : Addr} {m : Str → Option Value} (_ : Fr h₀ L h m) : Heap := h
noncomputable def Cut0 (h₀ : Heap) (L scr : Addr) (wh p a b : Int) (h : Heap) : Prop :=
  ∃ (u : Str → Option Value) (ts tw tp ta tb : Tok) (oX oB oA oP : Obj), Fr h₀ L h (kstB u [(Str.ofString "script", .ref scr), (Str.ofString "whole", .int wh tw)]) ∧
    News h₀ L h [(L + 1 + 1 + 1 + 1, oX), (L + 1 + 1 + 1, oB), (L + 1 + 1, oA), (L + 1, oP)] ∧ oB.data = .cell (some (.int b tb)) ∧ oA.data = .cell (some (.int a ta)) ∧ oP.data = .cell (some (.int p tp)) ∧ (∃ v0, oX.data = .cell v0) ∧ ts = 0
theorem cut0_pack {h₀ h : Heap} {L scr : Addr} {m : Str → Option Value} {wh p a b : Int} {tw tp ta tb : Tok} {oX oB oA oP : Obj} {v0 : Option Value} (F : Fr h₀ L h m) (N : News h₀ L h [(L + 1 + 1 + 1 + 1, oX), (L + 1 + 1 + 1, oB), (L + 1 + 1, oA), (L + 1, oP)])
    (dB : oB.data = .cell (some (.int b tb))) (dA : oA.data = .cell (some (.int a ta))) (dP : oP.data = .cell (some (.int p tp))) (dX : oX.data = .cell v0) (e1 : m (Str.ofString "script") = some (.ref scr)) (e2 : m (Str.ofString "whole") = some (.int wh tw)) : Cut0 h₀ L scr wh p a b h :=
  ⟨m, 0, tw, tp, ta, tb, oX, oB, oA, oP, fr_kst F (List.forall_mem_cons.mpr ⟨e1, List.forall_mem_cons.mpr ⟨e2, fun _ h => nomatch h⟩⟩), N, dB, dA, dP, ⟨_, dX⟩, rfl⟩
theorem ite_int {r : Int} {P Q : Prop} (h1 : r = 0 → P) (h2 : r ≠ 0 → Q) : if (r == 0) = true then P else Q := by
  by_cases h : r = 0
  · rw [if_pos (by simpa using h)]; exact h1 h
  · rw [if_neg (by simpa using h)]; exact h2 h
theorem disc_eq {a b p : Int} : disc a b p = (4 * a * a * a + 27 * b * b).fmod p := by unfold disc; rfl
noncomputable def Cut1 (h₀ : Heap) (L scr : Addr) (wh p a b : Int) (h : Heap) : Prop := Cut0 h₀ L scr wh p a b h
structure WB where
  b : Int
  t : Tok
  o : Obj
noncomputable def AllInt (ws : List Value) : Prop := ∀ v ∈ ws, ∃ n t, v = .int n t
theorem AllInt.ints : ∀ {ws : List Value}, AllInt ws → ∃ ms, IntsAre ws ms
  | [], _ => ⟨[], .nil⟩
  | v :: r, h => by
    obtain ⟨n, t, rfl⟩ := h _ (.head _)
    obtain ⟨ms, hm⟩ := AllInt.ints (ws := r) fun v hv => h v (.tail _ hv)
    exact ⟨n :: ms, .cons n t hm⟩
theorem allInt_of : ∀ {vs : List Value} {ns : List Int}, IntsAre vs ns → AllInt vs
  | _, _, .nil => fun _ h => nomatch h
  | _, _, .cons n t r => fun v hv => by
    rcases List.mem_cons.mp hv with rfl | hv
    · exact ⟨_, _, rfl⟩
    · exact allInt_of r v hv
theorem pick_int {vs : List Value} {ns : List Int} (hi : IntsAre vs ns) (lo up st : Option Int) : ∃ ms, IntsAre (slicePick vs.toArray lo up st).toList ms := by
  refine AllInt.ints fun v hv => allInt_of hi v ?_
  unfold slicePick at hv
  simp only [List.mem_filterMap] at hv
  obtain ⟨i, _, h⟩ := hv
  have h' : vs[i]? = some v := by simpa using h
  exact List.mem_of_getElem? h'
section
variable {prog : Program} {w : World} {A : Around} {E : Value → Shared → Prop} {s : Shared} {h₀ : Heap} {L l : Addr} {m : Str → Option Value} {news : Led} {value slice : PySem.Expr} {vs : List Value} {ns : List Int} {vl vu vk : Value} {lo hi st : Option Int} {Q : Value → Shared → Prop}
theorem slice4_ints {ops : List Value} (F : Fr h₀ L s.heap m) (N : News h₀ L s.heap news) (hl : s.heap.IsList l vs.toArray) (pl : IsPart vl lo) (pu : IsPart vu hi) (pk : IsPart vk st) (h0 : st ≠ some 0) (hi' : IntsAre vs ns)
    (h : ∀ D ws ms h', Fr h₀ L h' m → News h₀ L h' ((D, listOf (List.toArray ws) 0) :: news) → (∀ p ∈ news, p.1 < D) → IntsAre ws ms → Q (.ref D) { s with heap := h' })
    (hs : subscripted slice false (.ref l) (.ref s.heap.objs.size) = operate ops (getItem (.ref l) (.ref s.heap.objs.size))) (ht : ∀ r, letTemporaryGo value (.ref l) r = pure ()) (hz : vs.toArray.size ≤ sizeLine) :
    wpAny (model prog w) A (subscriptTail value slice (.ref l) (.ref s.heap.objs.size)) Q E { s with heap := s.heap.push { cls := .type "slice", data := .fields #[vl, vu, vk] } } := by
  obtain ⟨ms, hm⟩ := pick_int hi' lo hi st
  exact kmk_slice3_lit F N hl pl pu pk h0 rfl (fun D h' F' N' l1 => h D _ ms h' F' N' l1 hm) hs ht hz
theorem item_T3 {T : Addr} {x y z : Int} {tx ty tz : Tok} {nn : Nat} {k : Int} {u : Tok} (N : News h₀ L s.heap news) (hm : (T, ({ cls := .type "tuple", data := .seq #[.int x tx, .int y ty, .int z tz] nn } : Obj)) ∈ news) (h0 : 0 ≤ k) (h1 : k < 3)
    (h : ∀ v t, (v = x ∨ v = y ∨ v = z) → Q (.int v t) s)
    (hs : subscripted slice false (.ref T) (.int k u) = operate [.ref T, .int k u] (getItem (.ref T) (.int k u)) := by with_unfolding_all rfl) :
    wpAny (model prog w) A (subscriptTail value slice (.ref T) (.int k u)) Q E s := by
  have ht : IsTup s.heap T [Value.int x tx, .int y ty, .int z tz].toArray := ⟨_, (N _ hm).1, rfl, _, rfl⟩
  have hk : k = 0 ∨ k = 1 ∨ k = 2 := by omega
  rcases hk with rfl | rfl | rfl
  · exact item_tupleT ht (by decide) (by decide) (j := 0) rfl rfl (h _ _ (.inl rfl)) hs
  · exact item_tupleT ht (by decide) (by decide) (j := 1) rfl rfl (h _ _ (.inr (.inl rfl))) hs
  · exact item_tupleT ht (by decide) (by decide) (j := 2) rfl rfl (h _ _ (.inr (.inr rfl))) hs
theorem mod_pos {a b : Int} {t u : Tok} (hb : 0 < b) (h : ∀ r, r = a.fmod b → 0 ≤ r → r < b → Q (.int r s.toks) { s with toks := s.toks + 1 }) : wpAny (model prog w) A (binaryOp .Mod (.int a t) (.int b u)) Q E s :=
  mod_int' (by omega) (h _ rfl (Int.fmod_nonneg_of_pos a hb) (Int.fmod_lt_of_pos a hb))
end
end SrMine
namespace SrMine
theorem kq_length (q : Nat) : (kq q).length = 2 := rfl
theorem word_kq {x : Str} {n : Int} (h : x.cps.toList = hexF 4 n.natAbs []) (h0 : 16 ≤ n) (h1 : n < 29) : x = kq (n - 16).toNat := by
  have e := hexF_two (n - 16).toNat (by omega)
  rw [show 16 + (n - 16).toNat = n.natAbs by omega] at e
  rw [e] at h
  exact PySem.Str.ext' (Array.toList_inj.mp h)
theorem os_ahead {v : Str} (h : v = Str.ofString "" ∨ v = Str.ofString "p." ∨ v = Str.ofString "q.r." ∨ v = Str.ofString ".") : v ∈ aheads := by
  rw [os_a0, os_a1, os_a2, os_dot] at h
  unfold aheads
  simpa using h
theorem os_behind {v : Str} (h : v = Str.ofString ": " ∨ v = Str.ofString ":." ∨ v = Str.ofString "\n" ∨ v = Str.ofString "\n:") : v ∈ behinds := by
  rw [os_b0, os_b1, os_nl, os_b3] at h
  unfold behinds
  simpa using h
section
variable {prog : Program} {w : World} {A : Around} {E : Value → Shared → Prop} {s : Shared} {h₀ : Heap} {L : Addr} {news : Led} {value slice : PySem.Expr} {Q : Value → Shared → Prop}
theorem item_T4 {T : Addr} {a b c d : Str} {ta tb tc td : Tok} {nn : Nat} {k : Int} {u : Tok} (N : News h₀ L s.heap news) (hm : (T, ({ cls := .type "tuple", data := .seq #[.str a ta, .str b tb, .str c tc, .str d td] nn } : Obj)) ∈ news) (h0 : 0 ≤ k) (h1 : k < 4)
    (hl : a.length ≤ 4 ∧ b.length ≤ 4 ∧ c.length ≤ 4 ∧ d.length ≤ 4)
    (h : ∀ v t, (v = a ∨ v = b ∨ v = c ∨ v = d) → v.length ≤ 4 → Q (.str v t) s)
    (hs : subscripted slice false (.ref T) (.int k u) = operate [.ref T, .int k u] (getItem (.ref T) (.int k u)) := by with_unfolding_all rfl) :
    wpAny (model prog w) A (subscriptTail value slice (.ref T) (.int k u)) Q E s := by
  have ht : IsTup s.heap T [Value.str a ta, .str b tb, .str c tc, .str d td].toArray := ⟨_, (N _ hm).1, rfl, _, rfl⟩
  have hk : k = 0 ∨ k = 1 ∨ k = 2 ∨ k = 3 := by omega
  rcases hk with rfl | rfl | rfl | rfl
  · exact item_tupleT ht (by decide) (by decide) (j := 0) rfl rfl (h _ _ (.inl rfl) hl.1) hs
  · exact item_tupleT ht (by decide) (by decide) (j := 1) rfl rfl (h _ _ (.inr (.inl rfl)) hl.2.1) hs
  · exact item_tupleT ht (by decide) (by decide) (j := 2) rfl rfl (h _ _ (.inr (.inr (.inl rfl))) hl.2.2.1) hs
  · exact item_tupleT ht (by decide) (by decide) (j := 3) rfl rfl (h _ _ (.inr (.inr (.inr rfl))) hl.2.2.2) hs
end
noncomputable def CutJ (h₀ : Heap) (L scr : Addr) (wh p a b : Int) (J : Addr) (vs : List Value) (nn : Nat) (h : Heap) : Prop :=
  ∃ (u : Str → Option Value) (tw tp ta tb : Tok) (oX oB oA oP : Obj), Fr h₀ L h (kstB u [(Str.ofString "journal", .ref J), (Str.ofString "script", .ref scr), (Str.ofString "whole", .int wh tw)]) ∧
    News h₀ L h [(J, ({ cls := .type "list", data := .seq vs.toArray nn } : Obj)), (L + 1 + 1 + 1 + 1, oX), (L + 1 + 1 + 1, oB), (L + 1 + 1, oA), (L + 1, oP)] ∧ oB.data = .cell (some (.int b tb)) ∧ oA.data = .cell (some (.int a ta)) ∧ oP.data = .cell (some (.int p tp)) ∧ (∃ v0, oX.data = .cell v0)
theorem cutJ_pack {h₀ h : Heap} {L scr J : Addr} {m : Str → Option Value} {wh p a b : Int} {vs : List Value} {nn : Nat} {tw tp ta tb : Tok} {oX oB oA oP : Obj} {v0 : Option Value} (F : Fr h₀ L h m) (N : News h₀ L h [(J, ({ cls := .type "list", data := .seq vs.toArray nn } : Obj)), (L + 1 + 1 + 1 + 1, oX), (L + 1 + 1 + 1, oB), (L + 1 + 1, oA), (L + 1, oP)])
    (dB : oB.data = .cell (some (.int b tb))) (dA : oA.data = .cell (some (.int a ta))) (dP : oP.data = .cell (some (.int p tp))) (dX : oX.data = .cell v0) (e0 : m (Str.ofString "journal") = some (.ref J)) (e1 : m (Str.ofString "script") = some (.ref scr)) (e2 : m (Str.ofString "whole") = some (.int wh tw)) : CutJ h₀ L scr wh p a b J vs nn h :=
  ⟨m, tw, tp, ta, tb, oX, oB, oA, oP, fr_kst F (List.forall_mem_cons.mpr ⟨e0, List.forall_mem_cons.mpr ⟨e1, List.forall_mem_cons.mpr ⟨e2, fun _ h => nomatch h⟩⟩⟩), N, dB, dA, dP, _, dX⟩
theorem appSwap {a b : Led} : ∀ p ∈ b ++ a, p ∈ a ++ b := fun _ h => (List.mem_append.mp h).elim (fun h => List.mem_append.mpr (.inr h)) fun h => List.mem_append.mpr (.inl h)
theorem sq_key {i n : Nat} {p : Int} (hn : (n : Int) = p) : (16 + ((i : Int) * i).fmod p - 16).toNat = i * i % n := by
  rw [← hn, Int.fmod_eq_emod_of_nonneg _ (Int.natCast_nonneg n), ← Int.natCast_mul, ← Int.natCast_emod]
  generalize i * i % n = k
  omega
theorem last_key {i : Nat} : (16 + (i : Int) - 16).toNat = i := by omega
structure JS where
  vs : List Value
  nn : Nat
end SrMine
namespace SrMine
noncomputable def GrowPostT (h₀ : Heap) (L : Addr) (J : (Str → Option Value) → Led → Prop) (own : Led) (s₁ : Shared) (f : Flow) (s₂ : Shared) : Prop :=
  match f with
  | .next => GrowEnd h₀ L J own s₁ s₂
  | _ => False
noncomputable def GJT {σ : Type} (L : σ → Led) (ps : σ → List (Str × Value)) (Facts : Nat → σ → Prop) (stored : List Str) (m₀ : Str → Option Value) (i : Nat) (m : Str → Option Value) (nx : Led) : Prop :=
  ∃ c : σ, nx = L c ∧ Facts i c ∧ (∀ p ∈ ps c, m p.1 = some p.2) ∧ ∀ z, (∀ p ∈ ps c, z ≠ p.1) → stored.contains z = false → m z = m₀ z
section
variable {prog : Program} {w : World} {A : Around} {E : Value → Shared → Prop} {s : Shared} {env : Env} {h₀ : Heap} {target : Expr} {body : List Stmt} {Q : Flow → Shared → Prop}
theorem growT_end {σ : Type} {L : Addr} {Ld : σ → Led} {ps : σ → List (Str × Value)} {Facts : Nat → σ → Prop} {stored : List Str} {m₀ m' : Str → Option Value} {i : Nat} {own news' : Led} {s₁ : Shared} {h' : Heap} {tk : Nat} (c : σ)
    (F : Fr h₀ L h' m') (N : News h₀ L h' news') (hf : Facts i c) (h1 : ∀ p ∈ ps c, m' p.1 = some p.2) (h2 : ∀ z, (∀ p ∈ ps c, z ≠ p.1) → stored.contains z = false → m' z = m₀ z)
    (hn : ∀ p ∈ Ld c, p ∈ news') (ho : ∀ p ∈ own, p ∈ news') (off : OwnOff own ((Ld c).map (·.1))) : GrowEnd h₀ L (GJT Ld ps Facts stored m₀ i) own s₁ { s₁ with heap := h', toks := tk } :=
  ⟨h', tk, m', news', _, rfl, F, N, hn, ho, off, c, rfl, hf, h1, h2⟩
theorem range_growT {σ : Type} {r : Addr} {b₀ : Int} {t₀ u₀ v₀ : Tok} {n : Nat} {m₀ : Str → Option Value} (Ld : σ → Led) (ps : σ → List (Str × Value)) (Facts : Nat → σ → Prop) (stored : List Str) (c₀ : σ)
    (hh : A.handled = none) (hgo : ∀ I v (s' : Shared) (Q' : Unit → Shared → Prop), Q' () s' → wpAny (model prog w) A (letOwnedTupleGo target (.ref I) v) Q' E s')
    (hr : IsRange s.heap r 0 b₀ 1 t₀ u₀ v₀) (hsmall : Builtin.Range.small 0 b₀ 1 = true) (hn : Builtin.Range.rangeSize 0 b₀ 1 = (n : Int)) (F : Fr h₀ env.locals s.heap m₀) (N : News h₀ env.locals s.heap (Ld c₀)) (hf : Facts 0 c₀) (hk : ∀ p ∈ ps c₀, m₀ p.1 = some p.2)
    (turn : ∀ (c : σ) (i : Nat) t (u : Str → Option Value) (s₁ : Shared) own, i < n → OwnOff own ((Ld c).map (·.1)) → Facts i c →
      Fr h₀ env.locals s₁.heap (kstB (fun z => if stored.contains z then u z else m₀ z) (ps c)) → News h₀ env.locals s₁.heap (own ++ Ld c) →
      wpAny (model prog w) A (assign target env (.int (i : Int) t)) (fun _ s₃ => wpAny (model prog w) A (execs body env) (GrowPostT h₀ env.locals (GJT Ld ps Facts stored m₀ (i + 1)) own s₁) E s₃) E s₁)
    (done : ∀ (c : σ) (u : Str → Option Value) h tk, Facts n c → Fr h₀ env.locals h (kstB (fun z => if stored.contains z then u z else m₀ z) (ps c)) → News h₀ env.locals h (Ld c) → Q .next { s with heap := h, toks := tk }) :
    wpAny (model prog w) A (pyIter (.ref r)) (fun it s₂ => LoopAtT prog w A h₀ env target body Q E it s₂) E s := by
  refine wpAny_pyIter_range hr hsmall ?_
  have W : Walks prog w A s.heap.objs.size [s.heap.objs.size] [s.heap.objs.size] n (fun i v => i < n ∧ ∃ t, v = .int (0 + i * 1) t)
      (fun i h => IsRangeIter h s.heap.objs.size (0 + (i : Nat) * 1) ((n : Int) - (i : Nat)) 1) := (Walks.range hh _ 0 1 n).bound
  have hLI : env.locals ≠ s.heap.objs.size := fun e => absurd F.ns.lt (by rw [e]; exact Nat.lt_irrefl _)
  have hI0 := next_is_new F
  refine ⟨s.heap.objs.size, [s.heap.objs.size], [s.heap.objs.size], n, _, _, m₀, Ld c₀, fun i m led => GJT Ld ps Facts stored m₀ i m led, rfl, W, ?_, ?_, ?_, ?_, F.push _, (fun p hp => ⟨Heap.get?_push_of_some _ (N p hp).1, (N p hp).2⟩), ?_, ⟨c₀, rfl, hf, hk, fun _ _ _ => rfl⟩, ?_, ?_⟩
  · intro hm; exact hLI (List.mem_singleton.mp hm)
  · intro b hb; rw [List.mem_singleton.mp hb]; exact hI0
  · intro p hp hb
    have e := List.mem_singleton.mp hb
    exact absurd (Heap.lt_size (N p hp).1) (by rw [e]; exact Nat.lt_irrefl _)
  · show IsRangeIter _ _ _ _ _; rw [hn]; simpa using Heap.get?_push_size _ rfl
  · intro i s' v Q' _ hq; exact hgo _ _ _ _ hq
  · rintro i v m₁ news₁ s₁ own hin ⟨_, t, rfl⟩ ⟨c, rfl, hf', h1, h2⟩ hoff hown _ hall hs1 F₁ N₁
    have e1 : 0 + (i : Int) * 1 = (i : Int) := by omega
    rw [e1]
    have hsep : OwnOff own ((Ld c).map (·.1)) := by
      intro p hp b hb e
      obtain ⟨q, hq, rfl⟩ := List.mem_map.mp hb
      exact hoff q hq (e ▸ hown p hp)
    have hmI := hall s.heap.objs.size (List.mem_singleton.mpr rfl) hI0 _ hs1
    refine wpAny_mono (turn c i t m₁ s₁ own hin hsep hf' (ksw_fr h1 h2 F₁) N₁) (fun _ s₃ p => wpAny_mono p (fun f s₂ q => ?_) fun _ _ e => e) fun _ _ e => e
    cases f with
    | next =>
      obtain ⟨h', tk, m', news', nx, e, F', N', hn', ho, ha, hm⟩ := q
      exact ⟨rfl, h', tk, m', nx, e, F', fun p hp => N' p ((List.mem_append.mp hp).elim (ho p) (hn' p)), fun p hp hq => ha _ hmI p.1 (List.mem_map.mpr ⟨p, hp, rfl⟩) (List.mem_singleton.mp hq).symm, hm⟩
    | ret v => exact q.elim
    | brk => exact q.elim
    | cont => exact q.elim
  · rintro h' tk m' news' F' N' _ ⟨c, rfl, hf', h1, h2⟩
    exact done c m' h' tk hf' (ksw_fr h1 h2 F') N'
end
end SrMine
namespace SrMine
noncomputable def CutG (h₀ : Heap) (L : Addr) (ps : List (Str × Value)) (led : Led) (h : Heap) : Prop := ∃ u : Str → Option Value, Fr h₀ L h (kstB u ps) ∧ News h₀ L h led
theorem cutG_pack {h₀ h : Heap} {L : Addr} {m : Str → Option Value} {ps : List (Str × Value)} {led : Led} (F : Fr h₀ L h m) (N : News h₀ L h led) (e : ∀ p ∈ ps, m p.1 = some p.2) : CutG h₀ L ps led h := ⟨m, fr_kst F e, N⟩
inductive PtsIn (led : Led) : List Value → List (Int × Int) → Prop where
  | nil : PtsIn led [] []
  | cons {v : Value} {P : Int × Int} {vs : List Value} {Ps : List (Int × Int)} (h : PtIn led v (some P)) (r : PtsIn led vs Ps) : PtsIn led (v :: vs) (P :: Ps)
theorem PtsIn.mono {led led' : Led} {vs : List Value} {Ps : List (Int × Int)} (h : PtsIn led vs Ps) (hs : ∀ p ∈ led, p ∈ led') : PtsIn led' vs Ps := by
  induction h with
  | nil => exact .nil
  | cons h _ ih => exact .cons (h.mono hs) ih
theorem PtsIn.app {led : Led} {vs vs' : List Value} {Ps Ps' : List (Int × Int)} (h : PtsIn led vs Ps) (k : PtsIn led vs' Ps') : PtsIn led (vs ++ vs') (Ps ++ Ps') := by
  induction h with
  | nil => exact k
  | cons h _ ih => exact .cons h ih
theorem PtsIn.length {led : Led} {vs : List Value} {Ps : List (Int × Int)} (h : PtsIn led vs Ps) : vs.length = Ps.length := by
  induction h with
  | nil => rfl
  | cons _ _ ih => simp [ih]
/-- the right side at x, as a natural number -/
noncomputable def rhs (a b p : Int) (x : Nat) : Nat := ((x * x * x + a * x + b : Int).fmod p).toNat
/-- the points with the given x -/
noncomputable def ptsAt (a b p : Int) (n x : Nat) : List (Int × Int) := ((List.range n).filter (fun (y : Nat) => decide (y * y % n = rhs a b p x))).map (fun (y : Nat) => ((x : Int), (y : Int)))
noncomputable def ptsTo (a b p : Int) (n i : Nat) : List (Int × Int) := (List.range i).flatMap (ptsAt a b p n)
theorem ptsTo_succ (a b p : Int) (n i : Nat) : ptsTo a b p n (i + 1) = ptsTo a b p n i ++ ptsAt a b p n i := by
  unfold ptsTo; rw [List.range_succ, List.flatMap_append]; simp
structure PS where
  oX : Obj
  pv : List Value
  pn : Nat
  tl : Led
end SrMine
namespace SrMine
section
variable {prog : Program} {w : World} {A : Around} {h₀ : Heap} {L : Addr} {m : Str → Option Value} {env : Env} {elt : Expr} {x : Str} {scope : Scope} {cl : List (Str × Addr)} {s : Shared} {S : List (Addr × Obj) → Prop} {P : Nat → Value → Prop} {Fin : List Value → List (Addr × Obj) → Prop}
/-- a comprehension whose elements may make objects: one turn under an invariant -/
theorem comp_grow {n : Nat} {news₀ : Led} (Inv : Nat → List Value → Led → Prop) (h0 : Inv 0 [] news₀)
    (turn : ∀ i v ys news I oI C oC D m₂ h tk (E' : Value → Shared → Prop), i < n → P i v → Inv i ys news → LCg.NsObj oC m₂ → m₂ x = some v → Fr h₀ L h m → News h₀ L h ((I, oI) :: (C, oC) :: (D, LCg.lst ys) :: news) → LCg.Off3 I C D news → ((@Ne Nat I C) ∧ (@Ne Nat I D) ∧ (@Ne Nat C D)) →
      wpAny (model prog w) A (eval elt (compEnvC scope cl C env)) (LCg.CompEnd h₀ L m { s with heap := h, toks := tk } I oI C oC D (LCg.lst ys) S (fun y news' => Inv (i + 1) (ys ++ [y]) news')) E' { s with heap := h, toks := tk })
    (fin : ∀ ys news, Inv n ys news → Fin ys news) : LCg.CompRest prog w A h₀ L m env elt x scope cl s S P Fin n 0 [] news₀ := by
  have key : ∀ (j i : Nat) (ys : List Value) (news : Led), i + j = n → Inv i ys news → LCg.CompRest prog w A h₀ L m env elt x scope cl s S P Fin j i ys news := by
    intro j
    induction j with
    | zero =>
      intro i ys news hi hI
      have e : i = n := by omega
      subst e
      exact LCg.CompRest.zero (fin ys news hI)
    | succ j ih =>
      intro i ys news hi hI
      refine LCg.CompRest.succ ?_
      intro v I oI C oC D m₂ h tk E' hv hC hx F N off ne
      refine wpAny_mono (turn i v ys news I oI C oC D m₂ h tk E' (by omega) hv hI hC hx F N off ne) (fun y s₂ hq => ?_) fun _ _ e => e
      obtain ⟨h', tk', nw, e, F', N', off', hS, hn⟩ := hq
      exact ⟨h', tk', nw, e, F', N', off', hS, ih (i + 1) _ nw (by omega) hn⟩
  exact key n 0 [] news₀ (by omega) h0
end
end SrMine
namespace SrMine
theorem pick_seg {vs : List Value} {lo hi : Nat} (h1 : lo ≤ vs.length) (h2 : hi ≤ vs.length) : (slicePick vs.toArray (some (lo : Int)) (some (hi : Int)) none).toList = (vs.drop lo).take (hi - lo) := by
  have e : sliceBounds (some (lo : Int)) (some (hi : Int)) none vs.toArray.size = (((lo : Nat) : Int), ((hi : Nat) : Int), 1) := by
    simp only [sliceBounds, Option.getD_none, show (1 : Int) > 0 by decide, if_true, if_neg (show ¬ ((lo : Int) < 0) by omega), if_neg (show ¬ ((hi : Int) < 0) by omega), List.size_toArray]
    congr 1
    · omega
    · congr 1
      omega
  rw [kmk_pick_nat _ e]
/-- the lines cut out of the journal are those of the points at x -/
theorem seg_lines {n lo hi q : Nat} {vs : List Value} {xs : List Str} {jl : List (Nat × Nat)} (hv : StrsAre vs xs) (hj : JJ n n xs jl)
    (hsl : (jl.drop lo).take (hi - lo) = jl.filter (fun a => decide (a.1 = q))) :
    ∃ ws ys, (vs.drop lo).take (hi - lo) = ws ∧ StrsAre ws ys ∧ Lines ys (jl.filter (fun a => decide (a.1 = q))) :=
  ⟨_, (xs.drop lo).take (hi - lo), rfl, strs_take _ (strs_drop _ hv), hsl ▸ (hj.lines.drop lo).take (hi - lo)⟩
theorem seg_len {n lo hi : Nat} {vs : List Value} {xs : List Str} {jl : List (Nat × Nat)} (hv : StrsAre vs xs) (hj : JJ n n xs jl) : ((vs.drop lo).take (hi - lo)).length ≤ n := by
  have a := hv.length
  have b := hj.lines.length
  have c := hj.len
  rw [List.length_take, List.length_drop]
  omega
theorem seg_pts {n x q : Nat} {a b p : Int} {xs : List Str} {jl : List (Nat × Nat)} (hj : JJ n n xs jl) (hq : q = rhs a b p x) :
    (jl.filter (fun a => decide (a.1 = q))).map (fun a => ((x : Int), (a.2 : Int))) = ptsAt a b p n x := by
  have h := congrArg (List.map (fun (y : Nat) => ((x : Int), (y : Int)))) (hj.filt q)
  rw [List.map_map] at h
  unfold ptsAt
  rw [← hq, ← h]
  rfl
theorem IsLine.item {x : Str} {k y : Nat} (h : IsLine x k y) : Txt.item x (-1) = ⟨#[y + 65]⟩ ∧ 1 ≤ x.length := by
  obtain ⟨cs, hcs⟩ := List.getLast?_eq_some_iff.mp h.last
  have e : x = (⟨#[]⟩ : Str) ++ ⟨(cs ++ [y + 65]).toArray⟩ := by
    apply PySem.Str.ext'
    apply Array.toList_inj.mp
    rw [hcs, PySem.Str.cps_append]
    simp
  refine ⟨by rw [e]; exact item_last_right _ _ _, ?_⟩
  have : x.length = x.cps.toList.length := by rw [Array.length_toList]; rfl
  rw [this, hcs]
  simp
theorem ptsAt_len (a b p : Int) (n x : Nat) : (ptsAt a b p n x).length ≤ n := by
  unfold ptsAt
  rw [List.length_map]
  have := List.length_filter_le (fun (y : Nat) => decide (y * y % n = rhs a b p x)) (List.range n)
  rw [List.length_range] at this
  exact this
theorem ptsTo_len (a b p : Int) (n : Nat) : ∀ i, (ptsTo a b p n i).length ≤ i * n
  | 0 => by simp [ptsTo]
  | i + 1 => by
    rw [ptsTo_succ, List.length_append, Nat.succ_mul]
    have := ptsTo_len a b p n i
    have := ptsAt_len a b p n i
    omega
section
variable {prog : Program} {w : World} {A : Around} {E : Value → Shared → Prop} {s : Shared} {h₀ : Heap} {L : Addr}
theorem len_L {l : Addr} {vs : List Value} {nn : Nat} {news : Led} {Q : Value → Shared → Prop} (N : News h₀ L s.heap news) (hm : (l, ({ cls := .type "list", data := .seq vs.toArray nn } : Obj)) ∈ news) (hsm : vs.length ≤ 10000)
    (h : ∀ t k, Q (.int vs.length t) { s with toks := k }) : wpAny (model prog w) A (call (.builtin "len") [.ref l]) Q E s := by
  refine len_list ⟨_, (N _ hm).1, rfl, _, rfl⟩ (by rw [List.size_toArray]; omega) ?_
  rw [List.size_toArray]
  exact h _ _
end
end SrMine
namespace SrMine
noncomputable def ptsAtJ (a b p : Int) (n x j : Nat) : List (Int × Int) := ((List.range j).filter (fun (y : Nat) => decide (y * y % n = rhs a b p x))).map (fun (y : Nat) => ((x : Int), (y : Int)))
theorem ptsAtJ_n (a b p : Int) (n x : Nat) : ptsAtJ a b p n x n = ptsAt a b p n x := rfl
theorem ptsAtJ_zero (a b p : Int) (n x : Nat) : ptsAtJ a b p n x 0 = [] := rfl
theorem ptsAtJ_len (a b p : Int) (n x j : Nat) : (ptsAtJ a b p n x j).length ≤ j := by
  unfold ptsAtJ
  rw [List.length_map]
  exact Nat.le_trans (List.length_filter_le _ _) (by simp)
theorem ptsAtJ_succ (a b p : Int) (n x j : Nat) : ptsAtJ a b p n x (j + 1) = ptsAtJ a b p n x j ++ (if j * j % n = rhs a b p x then [((x : Int), (j : Int))] else []) := by
  unfold ptsAtJ
  rw [List.range_succ, List.filter_append, List.map_append]
  congr 1
  by_cases h : j * j % n = rhs a b p x
  · simp [h]
  · simp [h]
theorem on_iff {p a b : Int} {n : Nat} (hn : (n : Int) = p) (hp : 0 < p) (i j : Nat) : Int.fmod ((j : Int) * j - i * i * i - a * i - b) p = 0 ↔ j * j % n = rhs a b p i := by
  unfold rhs
  rw [Int.fmod_eq_emod_of_nonneg _ (by omega), Int.fmod_eq_emod_of_nonneg _ (by omega)]
  have e : (j : Int) * j - i * i * i - a * i - b = (j : Int) * j - (i * i * i + a * i + b) := by omega
  rw [e, ← Int.emod_eq_emod_iff_emod_sub_eq_zero]
  have h1 : ((j : Int) * j) % p = ((j * j % n : Nat) : Int) := by rw [← hn]; norm_cast
  rw [h1]
  have h2 := Int.emod_nonneg ((i : Int) * i * i + a * i + b) (show p ≠ 0 by omega)
  generalize ((i : Int) * i * i + a * i + b) % p = z at h2
  generalize j * j % n = y
  omega
end SrMine
namespace SrMine
/-- one turn of the outer of two generators -/
theorem compTurn_o (elt t1 i1 t2 i2 : PySem.Expr) (ifs : List PySem.Expr) (scope : Scope) (pos : Pos) (it acc : Value) (env : Env) :
    compTurn (.ListComp elt [⟨t1, i1, [], 0⟩, ⟨t2, i2, ifs, 0⟩] scope pos) 0 it acc env = (do
      standAt i1.pos
      match ← pyNext it with
      | none => pure (.done .next)
      | some v =>
        letOwnedTupleGo t1 it v
        assign t1 env v
        let x ← eval i2 env
        standAt i2.pos
        let x ← foldedSetIterable i2 env x
        let _ ← runOwn (.compStart (.ListComp elt [⟨t1, i1, [], 0⟩, ⟨t2, i2, ifs, 0⟩] scope pos) 1 (← holding [x] (pyIter x)) acc env) env
        again (.compLoop (.ListComp elt [⟨t1, i1, [], 0⟩, ⟨t2, i2, ifs, 0⟩] scope pos) 0 it acc env)) := by rfl
/-- one turn of the inner -/
theorem compTurn_i (elt t1 i1 t2 i2 c : PySem.Expr) (scope : Scope) (pos : Pos) (it acc : Value) (env : Env) :
    compTurn (.ListComp elt [⟨t1, i1, [], 0⟩, ⟨t2, i2, [c], 0⟩] scope pos) 1 it acc env = (do
      standAt i2.pos
      match ← pyNext it with
      | none => pure (.done .next)
      | some v =>
        letOwnedTupleGo t2 it v
        assign t2 env v
        let mut ok := true
        for c in [c] do
          if ok then ok ← isTrue c env (eval c env)
        if ok then
          (do let _ ← call (.builtin "list.append") [acc, ← eval elt env])
        again (.compLoop (.ListComp elt [⟨t1, i1, [], 0⟩, ⟨t2, i2, [c], 0⟩] scope pos) 1 it acc env)) := by rfl
section
variable {prog : Program} {w : World} {A : Around} {E : Value → Shared → Prop} {R : Result → Shared → Prop} {s : Shared}
theorem codeAny_outer {elt t1 i1 t2 i2 : PySem.Expr} {ifs : List PySem.Expr} {scope : Scope} {pos : Pos} {it acc : Value} {env : Env} (I : Nat → Shared → Prop)
    (turn : ∀ n s, I n s → wpAny (model prog w) A (pyNext it) (fun r s₁ => match r with
      | none => R (.ok .next) s₁
      | some v => wpAny (model prog w) A (assign t1 env v) (fun _ s₂ => wpAny (model prog w) A (eval i2 env) (fun x s₃ => wpAny (model prog w) A (pyIter x) (fun it' s₄ =>
          codeAny (model prog w) (A.mark none) (.compStart (.ListComp elt [⟨t1, i1, [], 0⟩, ⟨t2, i2, ifs, 0⟩] scope pos) 1 it' acc env) (fun r s' => match r with
            | .ok _ => ∃ m, m < n ∧ I m s'
            | .error e => cameBackBy (model prog w) A env (notedBy (model prog w) A env fun e s' => R (.error e) s') e s') s₄)
          (notedBy (model prog w) A env fun e s' => R (.error e) s') s₃) (notedBy (model prog w) A env fun e s' => R (.error e) s') s₂) (notedBy (model prog w) A env fun e s' => R (.error e) s') s₁) (notedBy (model prog w) A env fun e s' => R (.error e) s') s)
    (n : Nat) (h : I n s) (ht : ∀ v, letOwnedTupleGo t1 it v = pure () := by intro _; rfl) (hs : ∀ x, foldedSetIterable i2 env x = pure x := by intro _; rfl) :
    codeAny (model prog w) A (.compLoop (.ListComp elt [⟨t1, i1, [], 0⟩, ⟨t2, i2, ifs, 0⟩] scope pos) 0 it acc env) R s := by
  refine codeAny_loop rfl I (fun n s hI => ?_) n h
  show wpAny _ A ((compTurn (.ListComp elt [⟨t1, i1, [], 0⟩, ⟨t2, i2, ifs, 0⟩] scope pos) 0 it acc env).onRaise (fun x => do noteFrame x env; theTreesLotGoes x)) _ _ s
  refine wpAny_noted ?_
  rw [compTurn_o]
  refine wpAny_bind (wpAny_standAt (wpAny_bind (wpAny_mono (turn n s hI) (fun r s₁ h₁ => ?_) fun _ _ h' => h')))
  cases r with
  | none => exact wpAny_pure h₁
  | some v =>
    refine wpAny_bind (wpAny_of_eq (ht v) ?_)
    refine wpAny_bind (wpAny_mono h₁ (fun _ s₂ h₂ => ?_) fun _ _ h' => h')
    refine wpAny_bind (wpAny_mono h₂ (fun x s₃ h₃ => ?_) fun _ _ h' => h')
    refine wpAny_bind (wpAny_standAt (wpAny_bind (wpAny_of_eq (hs x) ?_)))
    refine wpAny_bind (wpAny_holding (wpAny_mono h₃ (fun it' s₄ h₄ => ?_) fun _ _ h' => h'))
    refine wpAny_bind (wpAny_runOwn (codeAny_mono h₄ fun r s' hr => ?_))
    cases r with
    | ok f => exact wpAny_pure ⟨rfl, hr⟩
    | error e => exact hr
theorem codeAny_inner {elt t1 i1 t2 i2 c : PySem.Expr} {scope : Scope} {pos : Pos} {it acc : Value} {env : Env} (I : Nat → Shared → Prop)
    (turn : ∀ n s, I n s → wpAny (model prog w) A (pyNext it) (fun r s₁ => match r with
      | none => R (.ok .next) s₁
      | some v => wpAny (model prog w) A (assign t2 env v) (fun _ s₂ =>
          wpAny (model prog w) A (isTrue c env (eval c env)) (fun ok s₃ =>
            if ok = true then wpAny (model prog w) A (eval elt env) (fun x s₄ =>
              wpAny (model prog w) A (call (.builtin "list.append") [acc, x]) (fun _ s₅ => ∃ m, m < n ∧ I m s₅) (notedBy (model prog w) A env fun e s' => R (.error e) s') s₄) (notedBy (model prog w) A env fun e s' => R (.error e) s') s₃
            else ∃ m, m < n ∧ I m s₃) (notedBy (model prog w) A env fun e s' => R (.error e) s') s₂) (notedBy (model prog w) A env fun e s' => R (.error e) s') s₁) (notedBy (model prog w) A env fun e s' => R (.error e) s') s)
    (n : Nat) (h : I n s) (ht : ∀ v, letOwnedTupleGo t2 it v = pure () := by intro _; rfl) :
    codeAny (model prog w) A (.compLoop (.ListComp elt [⟨t1, i1, [], 0⟩, ⟨t2, i2, [c], 0⟩] scope pos) 1 it acc env) R s := by
  refine codeAny_loop rfl I (fun n s hI => ?_) n h
  show wpAny _ A ((compTurn (.ListComp elt [⟨t1, i1, [], 0⟩, ⟨t2, i2, [c], 0⟩] scope pos) 1 it acc env).onRaise (fun x => do noteFrame x env; theTreesLotGoes x)) _ _ s
  refine wpAny_noted ?_
  rw [compTurn_i]
  refine wpAny_bind (wpAny_standAt (wpAny_bind (wpAny_mono (turn n s hI) (fun r s₁ h₁ => ?_) fun _ _ h' => h')))
  cases r with
  | none => exact wpAny_pure h₁
  | some v =>
    refine wpAny_bind (wpAny_of_eq (ht v) ?_)
    refine wpAny_bind (wpAny_mono h₁ (fun _ s₂ h₂ => wpAny_bind (wpAny_mono (wpAny_tests_one h₂) (fun ok s₃ h₃ => ?_) fun _ _ h' => h')) fun _ _ h' => h')
    cases ok with
    | false => exact wpAny_pure ⟨rfl, h₃⟩
    | true =>
      exact wpAny_bind (wpAny_bind (wpAny_mono h₃ (fun x s₄ h₄ => wpAny_bind (wpAny_mono h₄ (fun _ s₅ h₅ => wpAny_pure (wpAny_pure ⟨rfl, h₅⟩)) fun _ _ h' => h')) fun _ _ h' => h'))
theorem codeAny_start_i {elt t1 i1 t2 i2 : PySem.Expr} {ifs : List PySem.Expr} {scope : Scope} {pos : Pos} {it acc : Value} {env : Env}
    (h0 : codeAny (model prog w) A (.compLoop (.ListComp elt [⟨t1, i1, [], 0⟩, ⟨t2, i2, ifs, 0⟩] scope pos) 1 it acc env) R s)
    (h : wpAny (model prog w) A (pyIter it) (fun it' s' => codeAny (model prog w) A (.compLoop (.ListComp elt [⟨t1, i1, [], 0⟩, ⟨t2, i2, ifs, 0⟩] scope pos) 1 it' acc env) R s')
      (notedBy (model prog w) A env fun x s' => R (.error x) s') s) :
    codeAny (model prog w) A (.compStart (.ListComp elt [⟨t1, i1, [], 0⟩, ⟨t2, i2, ifs, 0⟩] scope pos) 1 it acc env) R s := by
  refine codeAny_of_tree ?_
  show wpAny _ _ ((compStart (.ListComp elt [⟨t1, i1, [], 0⟩, ⟨t2, i2, ifs, 0⟩] scope pos) 1 it acc env).onRaise (fun x => do noteFrame x env; standAt theWindowsPlace)) _ _ s
  refine wpAny_notedAt ?_
  unfold compStart
  show wpAny _ _ (ask >>= _) _ _ s
  refine wpAny_bind (wpAny_askSetting (wpAny_ite ?_))
  split
  · first
      | exact wpAny_bind (wpAny_pure (wpAny_pure (And.intro rfl h0)))
      | exact wpAny_pure (And.intro rfl h0)
  · first
      | exact wpAny_bind (wpAny_rule (wpAny_bind (wpAny_standAt (wpAny_bind (wpAny_mono h (fun it' s' h' => wpAny_pure (And.intro rfl h')) fun _ _ x => x)))))
      | (refine wpAny_bind (wpAny_rule ?_); show wpAny _ _ (standAt i2.pos >>= _) _ _ s; exact wpAny_bind (wpAny_standAt (wpAny_bind (wpAny_mono h (fun it' s' h' => wpAny_pure (And.intro rfl h')) fun _ _ x => x))))
end
end SrMine
namespace SrMine
abbrev roObj (x left : Int) : Obj := { cls := .type "range_iterator", dict := none, data := .fields #[rawInt x, rawInt left, rawInt 1], slots := #[] }
/-- the end of a step inside a comprehension: own entries stay, the tail may grow -/
noncomputable def CE2 (h₀ : Heap) (L : Addr) (m : Str → Option Value) (s₁ : Shared) (own : Led) (rest : Value → Heap → Led → Prop) (y : Value) (s₂ : Shared) : Prop :=
  ∃ h' tk news', s₂ = { s₁ with heap := h', toks := tk } ∧ Fr h₀ L h' m ∧ News h₀ L h' (own ++ news') ∧ Off own news' ∧ rest y h' news'
/-- the new ledger where the object at one address is changed -/
theorem news_set {h₀ h h' : Heap} {L I : Addr} {l : Led} (N : News h₀ L h l) (hk : ∀ b o, b ≠ I → h.get? b = some o → h'.get? b = some o) (off : ∀ p ∈ l, p.1 ≠ I) : News h₀ L h' l :=
  fun p hp => ⟨hk _ _ (off p hp) (N p hp).1, (N p hp).2⟩
theorem fr_set {h₀ h h' : Heap} {L I : Addr} {m : Str → Option Value} (F : Fr h₀ L h m) (hk : ∀ b o, b ≠ I → h.get? b = some o → h'.get? b = some o) (hL : L ≠ I) (hI : h₀.get? I = none) : Fr h₀ L h' m :=
  ⟨F.ns.at' fun o e => hk L o hL e, fun b o e => hk b o (fun hm => by rw [hm, hI] at e; cases e) (F.keep b o e), F.above⟩
theorem news_cons {h₀ h : Heap} {L a : Addr} {o : Obj} {l : Led} (N : News h₀ L h l) (e : h.get? a = some o) (hL : a ≠ L) (h0 : h₀.get? a = none) : News h₀ L h ((a, o) :: l) := fun p hp => by
  rcases List.mem_cons.mp hp with rfl | hp
  · exact ⟨e, hL, h0⟩
  · exact N p hp
section
variable {prog : Program} {w : World} {A : Around} {E : Value → Shared → Prop} {s : Shared} {h₀ : Heap} {L : Addr} {m : Str → Option Value} {env : Env}
theorem range_next {I : Addr} {n i : Nat} {Q : Option Value → Shared → Prop} (hh : A.handled = none) (hi : i < n) (e : s.heap.get? I = some (roObj i ((n : Int) - i)))
    (hQ : ∀ t h' tk, h'.get? I = some (roObj ((i + 1 : Nat) : Int) ((n : Int) - ((i + 1 : Nat) : Int))) → (∀ b o, b ≠ I → s.heap.get? b = some o → h'.get? b = some o) → Q (some (.int (i : Int) t)) { s with heap := h', toks := tk }) :
    wpAny (model prog w) A (pyNext (.ref I)) Q E s := by
  have W := LCg.range_walks (prog := prog) (w := w) (A := A) (I := I) hh 0 n
  refine W.item i s Q E hi (by show IsRangeIter _ _ _ _ _; rw [show (0 : Int) + (i : Nat) * 1 = i by omega]; exact e) ?_
  rintro v h' tk ⟨t, rfl⟩ st hk
  rw [show (0 : Int) + (i : Int) = i by omega]
  refine hQ t h' tk ?_ (fun b o hb e => hk b o (by simpa using hb) e)
  have st' : IsRangeIter h' I (0 + ((i + 1 : Nat) : Int) * 1) ((n : Int) - ((i + 1 : Nat) : Int)) 1 := st
  rw [show (0 : Int) + ((i + 1 : Nat) : Int) * 1 = ((i + 1 : Nat) : Int) by omega] at st'
  exact st'
theorem range_stop {I : Addr} {n : Nat} {Q : Option Value → Shared → Prop} (hh : A.handled = none) (e : s.heap.get? I = some (roObj n ((n : Int) - n)))
    (hQ : ∀ h' tk, (∀ b o, b ≠ I → s.heap.get? b = some o → h'.get? b = some o) → Q none { s with heap := h', toks := tk }) :
    wpAny (model prog w) A (pyNext (.ref I)) Q E s := by
  have W := LCg.range_walks (prog := prog) (w := w) (A := A) (I := I) hh 0 n
  refine W.done s Q E (by show IsRangeIter _ _ _ _ _; rw [show (0 : Int) + (n : Nat) * 1 = n by omega]; exact e) ?_
  intro h' tk hk
  exact hQ h' tk (fun b o hb e => hk b o (by simpa using hb) e)

structure D3 (I C D : Addr) : Prop where
  ic : @Ne Nat I C
  id : @Ne Nat I D
  cd : @Ne Nat C D
structure D4 (I2 I C D : Addr) : Prop where
  jc : @Ne Nat I2 C
  jd : @Ne Nat I2 D
  ji : @Ne Nat I2 I

/-- what the user of the rule shows once the first range is there -/
structure Src2 (prog : Program) (w : World) (A : Around) (h₀ : Heap) (L : Addr) (m : Str → Option Value) (env : Env) (elt i2 c : Expr) (x y : Str) (scope : Scope) (cl : List (Str × Addr)) (n n2 : Nat)
    (Inv : Nat → Nat → List Value → Led → Prop) (Fin : List Value → Led → Prop) (s : Shared) : Prop where
  turn : ∀ i t I oI C oC D ys news m₂ h tk (E' : Value → Shared → Prop), i < n → Inv i 0 ys news → LCg.NsObj oC m₂ → m₂ x = some (.int (i : Int) t) → Fr h₀ L h m → News h₀ L h ((I, oI) :: (C, oC) :: (D, LCg.lst ys) :: news) → Off [(I, oI), (C, oC), (D, LCg.lst ys)] news → D3 I C D →
    wpAny (model prog w) A (eval i2 (compEnvC scope cl C env)) (CE2 h₀ L m { s with heap := h, toks := tk } [(I, oI), (C, oC), (D, LCg.lst ys)] (fun xv h' news' => ∃ r b t u v, xv = .ref r ∧ IsRange h' r 0 b 1 t u v ∧ Builtin.Range.small 0 b 1 = true ∧ Builtin.Range.rangeSize 0 b 1 = ((n2 : Nat) : Int) ∧ Inv i 0 ys news')) E' { s with heap := h, toks := tk }
  test : ∀ i j t t' I2 oI2 I oI C oC D ys news m₂ h tk (E' : Value → Shared → Prop), i < n → j < n2 → Inv i j ys news → LCg.NsObj oC m₂ → m₂ x = some (.int (i : Int) t) → m₂ y = some (.int (j : Int) t') → Fr h₀ L h m →
    News h₀ L h ((I2, oI2) :: (I, oI) :: (C, oC) :: (D, LCg.lst ys) :: news) → Off [(I2, oI2), (I, oI), (C, oC), (D, LCg.lst ys)] news → D3 I C D → D4 I2 I C D →
    wpAny (model prog w) A (isTrue c (compEnvC scope cl C env) (eval c (compEnvC scope cl C env))) (fun ok s' => if ok = true then
        wpAny (model prog w) A (eval elt (compEnvC scope cl C env)) (CE2 h₀ L m { s with heap := h, toks := tk } [(I2, oI2), (I, oI), (C, oC), (D, LCg.lst ys)] (fun yv _ news' => Inv i (j + 1) (ys ++ [yv]) news')) E' s'
        else CE2 h₀ L m { s with heap := h, toks := tk } [(I2, oI2), (I, oI), (C, oC), (D, LCg.lst ys)] (fun _ _ news' => Inv i (j + 1) ys news') Value.none s') E' { s with heap := h, toks := tk }
  fin : ∀ ys news, Inv n 0 ys news → Fin ys news

/-- the inner loop -/
theorem inner_2 {elt i1 i2 c : Expr} {x y : Str} {px py : Pos} {scope : Scope} {cl : List (Str × Addr)} {pos : Pos} {n n2 : Nat} {Inv : Nat → Nat → List Value → Led → Prop} {Fin : List Value → Led → Prop} {R : Result → Shared → Prop}
    (hh : A.handled = none) (hkind : scope.kind = .function) (hy : scope.names.lookup y = some .local) (hxy : x ≠ y)
    (hlen : ∀ i j ys news, Inv i j ys news → ys.length ≤ sizeLine)
    (S : Src2 prog w A h₀ L m env elt i2 c x y scope cl n n2 Inv Fin s) {i : Nat} (hi : i < n) {t : Tok} {I2 I C D : Addr} {oI oC : Obj} {h : Heap} {tk : Nat} {ys : List Value} {news : Led} {m₂ : Str → Option Value}
    (hC : LCg.NsObj oC m₂) (hx : m₂ x = some (.int (i : Int) t)) (F : Fr h₀ L h m) (N : News h₀ L h ((I2, roObj 0 n2) :: (I, oI) :: (C, oC) :: (D, LCg.lst ys) :: news))
    (off : Off [(I2, roObj 0 n2), (I, oI), (C, oC), (D, LCg.lst ys)] news) (d3 : D3 I C D) (d4 : D4 I2 I C D) (hI : Inv i 0 ys news)
    (done : ∀ h tk ys news m₂ oC, LCg.NsObj oC m₂ → m₂ x = some (.int (i : Int) t) → Fr h₀ L h m → News h₀ L h ((I, oI) :: (C, oC) :: (D, LCg.lst ys) :: news) → Off [(I, oI), (C, oC), (D, LCg.lst ys)] news → Inv i n2 ys news → R (.ok .next) { s with heap := h, toks := tk }) :
    codeAny (model prog w) A (.compLoop (.ListComp elt [⟨.Name x px, i1, [], 0⟩, ⟨.Name y py, i2, [c], 0⟩] scope pos) 1 (.ref I2) (.ref D) (compEnvC scope cl C env)) R { s with heap := h, toks := tk } := by
  refine codeAny_inner (fun k s' => ∃ h' tk' j ys m' oC' news', s' = { s with heap := h', toks := tk' } ∧ j ≤ n2 ∧ k = n2 + 1 - j ∧ LCg.NsObj oC' m' ∧ m' x = some (.int (i : Int) t) ∧ Fr h₀ L h' m ∧
      News h₀ L h' ((I2, roObj j ((n2 : Int) - j)) :: (I, oI) :: (C, oC') :: (D, LCg.lst ys) :: news') ∧ Off [(I2, oI), (I, oI), (C, oI), (D, oI)] news' ∧ Inv i j ys news') ?_ (n2 + 1)
    ⟨h, tk, 0, ys, m₂, oC, news, rfl, Nat.zero_le _, rfl, hC, hx, F, by simpa using N, ?_, hI⟩
  · rintro k s' ⟨h', tk', j, ys, m', oC', news', rfl, hj, rfl, hC', hx', F', N', off', hI'⟩
    have z2 := N' _ (.head _)
    have zI := N' _ (.tail _ (.head _))
    have zC := N' _ (.tail _ (.tail _ (.head _)))
    have zD := N' _ (.tail _ (.tail _ (.tail _ (.head _))))
    have Nn : News h₀ L h' news' := fun p hp => N' p (.tail _ (.tail _ (.tail _ (.tail _ hp))))
    have o2 : ∀ p ∈ news', p.1 ≠ I2 := fun p hp => Ne.symm (off' _ (.head _) p hp)
    have oI' : ∀ p ∈ news', p.1 ≠ I := fun p hp => Ne.symm (off' _ (.tail _ (.head _)) p hp)
    have oC2 : ∀ p ∈ news', p.1 ≠ C := fun p hp => Ne.symm (off' _ (.tail _ (.tail _ (.head _))) p hp)
    have oD : ∀ p ∈ news', p.1 ≠ D := fun p hp => Ne.symm (off' _ (.tail _ (.tail _ (.tail _ (.head _)))) p hp)
    by_cases hlt : j < n2
    · refine range_next hh hlt z2.1 fun t' h2 tk2 e2 hk2 => ?_
      have F2 := fr_set F' hk2 (Ne.symm z2.2.1) z2.2.2
      have hn2 : h2.Ns C m' := hC'.ns (hk2 _ _ (Ne.symm d4.jc) zC.1)
      refine wpAny_assign_Name (wpAny_storeName_local (lookup_relabel_local hy) hn2 (fun h3 hn3 hs3 => ?_) (by simp [compEnvC, relabel, hkind]))
      have hs3' : Heap.SameBut C h2 h3 := hs3
      have hk3 : ∀ b o, b ≠ C → h2.get? b = some o → h3.get? b = some o := fun b o hb e => (hs3'.2 b hb).trans e
      have F3 := fr_set F2 hk3 (Ne.symm zC.2.1) zC.2.2
      obtain ⟨oC3, heC, hoC3⟩ := LCg.ns_obj hn3
      have N3 : News h₀ L h3 ((I2, roObj ((j + 1 : Nat) : Int) ((n2 : Int) - ((j + 1 : Nat) : Int))) :: (I, oI) :: (C, oC3) :: (D, LCg.lst ys) :: news') := by
        refine news_cons (news_cons (news_cons (news_cons ?_ ?_ zD.2.1 zD.2.2) heC zC.2.1 zC.2.2) ?_ zI.2.1 zI.2.2) ?_ z2.2.1 z2.2.2
        · exact news_set (news_set Nn hk2 o2) hk3 oC2
        · exact hk3 _ _ (Ne.symm d3.cd) (hk2 _ _ (Ne.symm d4.jd) zD.1)
        · exact hk3 _ _ d3.ic (hk2 _ _ (Ne.symm d4.ji) zI.1)
        · exact hk3 _ _ d4.jc e2
      refine wpAny_mono (S.test i j t t' I2 _ I oI C oC3 D ys news' _ h3 _ _ hi hlt hI' hoC3 (by simp [hxy, hx']) (by simp) F3 N3 ?_ d3 d4) (fun ok s' q => ?_) fun _ _ e => e
      · intro q hq p hp
        simp only [List.mem_cons, List.not_mem_nil, or_false] at hq
        rcases hq with rfl | rfl | rfl | rfl
        · exact Ne.symm (o2 p hp)
        · exact Ne.symm (oI' p hp)
        · exact Ne.symm (oC2 p hp)
        · exact Ne.symm (oD p hp)
      · cases ok with
        | false =>
          simp only [Bool.false_eq_true, if_false] at q ⊢
          obtain ⟨h4, tk4, news4, rfl, F4, N4, off4, hI4⟩ := q
          refine ⟨n2 + 1 - (j + 1), by omega, h4, tk4, j + 1, ys, _, oC3, news4, rfl, hlt, rfl, hoC3, by simp [hxy, hx'], F4, N4, ?_, hI4⟩
          intro q hq p hp
          simp only [List.mem_cons, List.not_mem_nil, or_false] at hq
          rcases hq with rfl | rfl | rfl | rfl
          · exact off4 _ (.head _) p hp
          · exact off4 _ (.tail _ (.head _)) p hp
          · exact off4 _ (.tail _ (.tail _ (.head _))) p hp
          · exact off4 _ (.tail _ (.tail _ (.tail _ (.head _)))) p hp
        | true =>
          simp only [if_true] at q ⊢
          refine wpAny_mono q (fun yv s4 q4 => ?_) fun _ _ e => e
          obtain ⟨h4, tk4, news4, rfl, F4, N4, off4, hI4⟩ := q4
          have y2 := N4 _ (.head _)
          have yI := N4 _ (.tail _ (.head _))
          have yC := N4 _ (.tail _ (.tail _ (.head _)))
          have yD := N4 _ (.tail _ (.tail _ (.tail _ (.head _))))
          have N4n : News h₀ L h4 news4 := fun p hp => N4 p (.tail _ (.tail _ (.tail _ (.tail _ hp))))
          have hl := hlen _ _ _ _ hI'
          refine append_at (hsz := by rw [List.size_toArray]; exact hl) yD.1 fun h5 hs5 hD5 => ?_
          have hk5 : ∀ b o, b ≠ D → h4.get? b = some o → h5.get? b = some o := fun b o hb e => (hs5.2 b hb).trans e
          refine ⟨n2 + 1 - (j + 1), by omega, h5, tk4, j + 1, ys ++ [yv], _, oC3, news4, rfl, hlt, rfl, hoC3, by simp [hxy, hx'], fr_set F4 hk5 (Ne.symm yD.2.1) yD.2.2, ?_, ?_, hI4⟩
          · refine news_cons (news_cons (news_cons (news_cons ?_ (hD5.trans (congrArg some (LCg.lst_snoc ys yv))) zD.2.1 zD.2.2) ?_ zC.2.1 zC.2.2) ?_ zI.2.1 zI.2.2) ?_ z2.2.1 z2.2.2
            · exact news_set N4n hk5 fun p hp => Ne.symm (off4 _ (.tail _ (.tail _ (.tail _ (.head _)))) p hp)
            · exact hk5 _ _ d3.cd yC.1
            · exact hk5 _ _ d3.id yI.1
            · exact hk5 _ _ d4.jd y2.1
          · intro q hq p hp
            simp only [List.mem_cons, List.not_mem_nil, or_false] at hq
            rcases hq with rfl | rfl | rfl | rfl
            · exact off4 _ (.head _) p hp
            · exact off4 _ (.tail _ (.head _)) p hp
            · exact off4 _ (.tail _ (.tail _ (.head _))) p hp
            · exact off4 _ (.tail _ (.tail _ (.tail _ (.head _)))) p hp
    · obtain rfl : j = n2 := Nat.le_antisymm hj (Nat.not_lt.mp hlt)
      refine range_stop hh z2.1 fun h2 tk2 hk2 => ?_
      refine done h2 tk2 ys news' m' oC' hC' hx' (fr_set F' hk2 (Ne.symm z2.2.1) z2.2.2) ?_ ?_ hI'
      · refine news_cons (news_cons (news_cons ?_ ?_ zD.2.1 zD.2.2) ?_ zC.2.1 zC.2.2) ?_ zI.2.1 zI.2.2
        · exact news_set Nn hk2 o2
        · exact hk2 _ _ (Ne.symm d4.jd) zD.1
        · exact hk2 _ _ (Ne.symm d4.jc) zC.1
        · exact hk2 _ _ (Ne.symm d4.ji) zI.1
      · intro q hq p hp
        simp only [List.mem_cons, List.not_mem_nil, or_false] at hq
        rcases hq with rfl | rfl | rfl
        · exact Ne.symm (oI' p hp)
        · exact Ne.symm (oC2 p hp)
        · exact Ne.symm (oD p hp)
  · intro q hq p hp
    simp only [List.mem_cons, List.not_mem_nil, or_false] at hq
    rcases hq with rfl | rfl | rfl | rfl
    · exact off _ (.head _) p hp
    · exact off _ (.tail _ (.head _)) p hp
    · exact off _ (.tail _ (.tail _ (.head _))) p hp
    · exact off _ (.tail _ (.tail _ (.tail _ (.head _)))) p hp
end
end SrMine
namespace SrMine
section
variable {prog : Program} {w : World} {A : Around} {E : Value → Shared → Prop} {s : Shared} {h₀ : Heap} {L : Addr} {m : Str → Option Value} {env : Env}
theorem outer_2 {elt i1 i2 c : Expr} {x y : Str} {px py : Pos} {scope : Scope} {cl : List (Str × Addr)} {pos : Pos} {n n2 : Nat} {Inv : Nat → Nat → List Value → Led → Prop} {Fin : List Value → Led → Prop} {R : Result → Shared → Prop}
    (hh : A.handled = none) (hkind : scope.kind = .function) (hx : scope.names.lookup x = some .local) (hy : scope.names.lookup y = some .local) (hxy : x ≠ y)
    (hs : ∀ (e : Env) x, foldedSetIterable i2 e x = pure x)
    (hlen : ∀ i j ys news, Inv i j ys news → ys.length ≤ sizeLine) (hnext : ∀ i ys news, i < n → Inv i n2 ys news → Inv (i + 1) 0 ys news)
    (S : Src2 prog w A h₀ L m env elt i2 c x y scope cl n n2 Inv Fin s) {I C D : Addr} {oC : Obj} {h : Heap} {tk : Nat} {ys : List Value} {news : Led} {m₂ : Str → Option Value}
    (hC : LCg.NsObj oC m₂) (F : Fr h₀ L h m) (N : News h₀ L h ((I, roObj 0 n) :: (C, oC) :: (D, LCg.lst ys) :: news))
    (off : Off [(I, oC), (C, oC), (D, oC)] news) (d3 : D3 I C D) (hI : Inv 0 0 ys news)
    (done : ∀ h tk ys news m₂ oC, LCg.NsObj oC m₂ → Fr h₀ L h m → News h₀ L h ((C, oC) :: (D, LCg.lst ys) :: news) → Off [(C, oC), (D, LCg.lst ys)] news → Inv n 0 ys news → R (.ok .next) { s with heap := h, toks := tk }) :
    codeAny (model prog w) A (.compLoop (.ListComp elt [⟨.Name x px, i1, [], 0⟩, ⟨.Name y py, i2, [c], 0⟩] scope pos) 0 (.ref I) (.ref D) (compEnvC scope cl C env)) R { s with heap := h, toks := tk } := by
  refine codeAny_outer (fun k s' => ∃ h' tk' i ys m' oC' news', s' = { s with heap := h', toks := tk' } ∧ i ≤ n ∧ k = n + 1 - i ∧ LCg.NsObj oC' m' ∧ Fr h₀ L h' m ∧
      News h₀ L h' ((I, roObj i ((n : Int) - i)) :: (C, oC') :: (D, LCg.lst ys) :: news') ∧ Off [(I, oC), (C, oC), (D, oC)] news' ∧ Inv i 0 ys news') ?_ (n + 1)
    ⟨h, tk, 0, ys, m₂, oC, news, rfl, Nat.zero_le _, rfl, hC, F, by simpa using N, off, hI⟩ (fun _ => rfl) (fun x => hs _ x)
  rintro k s' ⟨h', tk', i, ys, m', oC', news', rfl, hi, rfl, hC', F', N', off', hI'⟩
  have zI := N' _ (.head _)
  have zC := N' _ (.tail _ (.head _))
  have zD := N' _ (.tail _ (.tail _ (.head _)))
  have Nn : News h₀ L h' news' := fun p hp => N' p (.tail _ (.tail _ (.tail _ hp)))
  have oI' : ∀ p ∈ news', p.1 ≠ I := fun p hp => Ne.symm (off' _ (.head _) p hp)
  have oC2 : ∀ p ∈ news', p.1 ≠ C := fun p hp => Ne.symm (off' _ (.tail _ (.head _)) p hp)
  have oD : ∀ p ∈ news', p.1 ≠ D := fun p hp => Ne.symm (off' _ (.tail _ (.tail _ (.head _))) p hp)
  by_cases hlt : i < n
  · refine range_next hh hlt zI.1 fun t h2 tk2 e2 hk2 => ?_
    have F2 := fr_set F' hk2 (Ne.symm zI.2.1) zI.2.2
    have hn2 : h2.Ns C m' := hC'.ns (hk2 _ _ (Ne.symm d3.ic) zC.1)
    refine wpAny_assign_Name (wpAny_storeName_local (lookup_relabel_local hx) hn2 (fun h3 hn3 hs3 => ?_) (by simp [compEnvC, relabel, hkind]))
    have hs3' : Heap.SameBut C h2 h3 := hs3
    have hk3 : ∀ b o, b ≠ C → h2.get? b = some o → h3.get? b = some o := fun b o hb e => (hs3'.2 b hb).trans e
    have F3 := fr_set F2 hk3 (Ne.symm zC.2.1) zC.2.2
    obtain ⟨oC3, heC, hoC3⟩ := LCg.ns_obj hn3
    have N3 : News h₀ L h3 ((I, roObj ((i + 1 : Nat) : Int) ((n : Int) - ((i + 1 : Nat) : Int))) :: (C, oC3) :: (D, LCg.lst ys) :: news') := by
      refine news_cons (news_cons (news_cons ?_ ?_ zD.2.1 zD.2.2) heC zC.2.1 zC.2.2) ?_ zI.2.1 zI.2.2
      · exact news_set (news_set Nn hk2 oI') hk3 oC2
      · exact hk3 _ _ (Ne.symm d3.cd) (hk2 _ _ (Ne.symm d3.id) zD.1)
      · exact hk3 _ _ d3.ic e2
    refine wpAny_mono (S.turn i t I _ C oC3 D ys news' _ h3 _ _ hlt hI' hoC3 (by simp) F3 N3 ?_ d3) (fun xv s4 q => ?_) fun _ _ e => e
    · intro q hq p hp
      simp only [List.mem_cons, List.not_mem_nil, or_false] at hq
      rcases hq with rfl | rfl | rfl
      · exact Ne.symm (oI' p hp)
      · exact Ne.symm (oC2 p hp)
      · exact Ne.symm (oD p hp)
    obtain ⟨h4, tk4, news4, rfl, F4, N4, off4, r, b, t4, u4, v4, rfl, hr, hsm, hn4, hI4⟩ := q
    refine wpAny_pyIter_range hr hsm ?_
    dsimp only
    have yI := N4 _ (.head _)
    have yC := N4 _ (.tail _ (.head _))
    have yD := N4 _ (.tail _ (.tail _ (.head _)))
    have fresh : ∀ a o, h4.get? a = some o → @Ne Nat h4.objs.size a := fun a o e q => Nat.lt_irrefl _ (q ▸ Heap.lt_size e : h4.objs.size < h4.objs.size)
    have d4 : D4 h4.objs.size I C D := ⟨fresh _ _ yC.1, fresh _ _ yD.1, fresh _ _ yI.1⟩
    have up : ∀ b o, h4.get? b = some o → (h4.push (roObj 0 n2)).get? b = some o := fun b o e => Heap.get?_push_of_some _ e
    have N5 : News h₀ L (h4.push (roObj 0 n2)) ((h4.objs.size, roObj 0 n2) :: (I, roObj ((i + 1 : Nat) : Int) ((n : Int) - ((i + 1 : Nat) : Int))) :: (C, oC3) :: (D, LCg.lst ys) :: news4) :=
      news_cons (N4.grown up) (Heap.get?_push_size _ rfl) (Ne.symm (fresh _ _ F4.ns.choose_spec.choose_spec.choose_spec.1).symm) (next_is_new F4)
    rw [hn4, Around.mark_none]
    have hit : IsRangeIter (h4.push (roObj 0 n2)) h4.objs.size 0 ((n2 : Nat) : Int) 1 := (N5 _ (.head _)).1
    have fin4 : ∀ RR : Result → Shared → Prop, (∀ h tk ys news m₂ oC, LCg.NsObj oC m₂ → m₂ x = some (.int (i : Int) t) → Fr h₀ L h m → News h₀ L h ((I, roObj ((i + 1 : Nat) : Int) ((n : Int) - ((i + 1 : Nat) : Int))) :: (C, oC) :: (D, LCg.lst ys) :: news) →
        Off [(I, roObj ((i + 1 : Nat) : Int) ((n : Int) - ((i + 1 : Nat) : Int))), (C, oC), (D, LCg.lst ys)] news → Inv i n2 ys news → RR (.ok .next) { s with heap := h, toks := tk }) →
        codeAny (model prog w) A (.compLoop (.ListComp elt [⟨.Name x px, i1, [], 0⟩, ⟨.Name y py, i2, [c], 0⟩] scope pos) 1 (.ref h4.objs.size) (.ref D) (compEnvC scope cl C env)) RR { s with heap := h4.push (roObj 0 n2), toks := tk4 } := fun RR hd =>
      inner_2 hh hkind hy hxy hlen S hlt (t := t) hoC3 (by simp) (F4.push _) N5 (fun q hq p hp => by
        rcases List.mem_cons.mp hq with rfl | hq
        · exact fresh _ _ (N4 p (.tail _ (.tail _ (.tail _ hp)))).1
        · simp only [List.mem_cons, List.not_mem_nil, or_false] at hq
          rcases hq with rfl | rfl | rfl
          · exact off4 _ (.head _) p hp
          · exact off4 _ (.tail _ (.head _)) p hp
          · exact off4 _ (.tail _ (.tail _ (.head _))) p hp) d3 d4 hI4 hd
    have last : ∀ h tk ys news m₂ oC', LCg.NsObj oC' m₂ → m₂ x = some (.int (i : Int) t) → Fr h₀ L h m → News h₀ L h ((I, roObj ((i + 1 : Nat) : Int) ((n : Int) - ((i + 1 : Nat) : Int))) :: (C, oC') :: (D, LCg.lst ys) :: news) →
        Off [(I, roObj ((i + 1 : Nat) : Int) ((n : Int) - ((i + 1 : Nat) : Int))), (C, oC'), (D, LCg.lst ys)] news → Inv i n2 ys news → ∃ m_1, m_1 < n + 1 - i ∧ ∃ h' tk' i ys m' oC' news', ({ s with heap := h, toks := tk } : Shared) = { s with heap := h', toks := tk' } ∧ i ≤ n ∧ m_1 = n + 1 - i ∧ LCg.NsObj oC' m' ∧ Fr h₀ L h' m ∧
      News h₀ L h' ((I, roObj i ((n : Int) - i)) :: (C, oC') :: (D, LCg.lst ys) :: news') ∧ Off [(I, oC), (C, oC), (D, oC)] news' ∧ Inv i 0 ys news' := by
      intro h tk ys news m₂ oC' a1 a2 a3 a4 a5 a6
      refine ⟨n + 1 - (i + 1), by omega, h, tk, i + 1, ys, m₂, oC', news, rfl, hlt, rfl, a1, a3, a4, ?_, hnext _ _ _ hlt a6⟩
      intro q hq p hp
      simp only [List.mem_cons, List.not_mem_nil, or_false] at hq
      rcases hq with rfl | rfl | rfl
      · exact a5 _ (.head _) p hp
      · exact a5 _ (.tail _ (.head _)) p hp
      · exact a5 _ (.tail _ (.tail _ (.head _))) p hp
    exact codeAny_start_i (fin4 _ last) (wpAny_pyIter_rangeiter hit (fin4 _ last))
  · obtain rfl : i = n := Nat.le_antisymm hi (Nat.not_lt.mp hlt)
    refine range_stop hh zI.1 fun h2 tk2 hk2 => ?_
    refine done h2 tk2 ys news' m' oC' hC' (fr_set F' hk2 (Ne.symm zI.2.1) zI.2.2) ?_ ?_ hI'
    · refine news_cons (news_cons ?_ ?_ zD.2.1 zD.2.2) ?_ zC.2.1 zC.2.2
      · exact news_set Nn hk2 oI'
      · exact hk2 _ _ (Ne.symm d3.id) zD.1
      · exact hk2 _ _ (Ne.symm d3.ic) zC.1
    · intro q hq p hp
      simp only [List.mem_cons, List.not_mem_nil, or_false] at hq
      rcases hq with rfl | rfl
      · exact Ne.symm (oC2 p hp)
      · exact Ne.symm (oD p hp)
end
end SrMine
namespace SrMine
section
variable {prog : Program} {w : World} {A : Around} {E : Value → Shared → Prop} {s : Shared} {h₀ : Heap} {L : Addr} {m : Str → Option Value} {env : Env}
noncomputable def Fin2 (h₀ : Heap) (L : Addr) (m : Str → Option Value) (s : Shared) (Q : Value → Shared → Prop) (ys : List Value) (news : Led) : Prop :=
  ∀ D h tk, Fr h₀ L h m → News h₀ L h ((D, LCg.lst ys) :: news) → Off [(D, LCg.lst ys)] news → Q (.ref D) { s with heap := h, toks := tk }
noncomputable def Src2At (prog : Program) (w : World) (A : Around) (h₀ : Heap) (L : Addr) (m : Str → Option Value) (env : Env) (elt i2 c : Expr) (x y : Str) (scope : Scope) (cl : List (Str × Addr)) (n n2 : Nat)
    (Inv : Nat → Nat → List Value → Led → Prop) (Q : Value → Shared → Prop) (xv : Value) (s₁ : Shared) : Prop :=
  ∃ r b t u v news, xv = .ref r ∧ Fr h₀ L s₁.heap m ∧ News h₀ L s₁.heap news ∧ IsRange s₁.heap r 0 b 1 t u v ∧ Builtin.Range.small 0 b 1 = true ∧ Builtin.Range.rangeSize 0 b 1 = ((n : Nat) : Int) ∧ Inv 0 0 [] news ∧
    Src2 prog w A h₀ L m env elt i2 c x y scope cl n n2 Inv (Fin2 h₀ L m s₁ Q) s₁
theorem ListComp_2 {elt i1 i2 c : Expr} {x y : Str} {px py : Pos} {scope : Scope} {cl : List (Str × Addr)} {pos : Pos} {n n2 : Nat} {Q : Value → Shared → Prop} (Inv : Nat → Nat → List Value → Led → Prop) (F₀ : Fr h₀ L s.heap m)
    (hh : A.handled = none) (hclos : closureFor scope env = pure cl) (hcell : ∀ y ∈ scope.names, y.2 ≠ .cell) (hkind : scope.kind = .function)
    (hnames : ∀ y ∈ scope.names, y.2 = .local → scope.names.lookup y.1 = some .local) (hx : scope.names.lookup x = some .local) (hy : scope.names.lookup y = some .local) (hxy : x ≠ y)
    (hs1 : ∀ x, foldedSetIterable i1 env x = pure x) (hs2 : ∀ (e : Env) x, foldedSetIterable i2 e x = pure x)
    (hlen : ∀ i j ys news, Inv i j ys news → ys.length ≤ sizeLine) (hnext : ∀ i ys news, i < n → Inv i n2 ys news → Inv (i + 1) 0 ys news)
    (h : wpAny (model prog w) A (eval i1 env) (Src2At prog w A h₀ L m env elt i2 c x y scope cl n n2 Inv Q) E s) :
    wpAny (model prog w) A (eval (.ListComp elt [⟨.Name x px, i1, [], 0⟩, ⟨.Name y py, i2, [c], 0⟩] scope pos) env) Q E s := by
  rw [eval_ListComp]
  refine wpAny_comprehension_free (use := none) rfl hs1 hclos hkind hnames (wpAny_mono h (fun xv s₁ h₁ => ?_) fun _ _ e => e)
  obtain ⟨r, b, t, u, v, news, rfl, F, N, hr, hsm, hn, hI, S⟩ := h₁
  refine wpAny_pyIter_range hr hsm ?_
  rw [hn]
  have F1 := F.push (roObj 0 n)
  have N1 : News h₀ L (s₁.heap.push (roObj 0 n)) ((s₁.heap.objs.size, roObj 0 n) :: news) :=
    news_cons (N.grown fun b o e => Heap.get?_push_of_some _ e) (Heap.get?_push_size _ rfl) (Nat.ne_of_gt F.ns.lt) (next_is_new F)
  have hN1 : ∀ p ∈ news, p.1 < s₁.heap.objs.size := fun p hp => Heap.lt_size (N p hp).1
  have hz1 : (s₁.heap.push (roObj 0 n)).objs.size = s₁.heap.objs.size + 1 := Heap.size_push ..
  have hL : L < s₁.heap.objs.size := F.ns.lt
  have f1 : h₀.get? s₁.heap.objs.size = none := next_is_new F
  have f2 : h₀.get? (s₁.heap.objs.size + 1) = none := hz1 ▸ next_is_new F1
  revert F1 N1 hz1
  generalize s₁.heap.push (roObj 0 n) = H1
  intro F1 N1 hz1
  refine wpAny_newObj_type (wpAny_newFunctionEnv hcell (by intro y hy; simp at hy) (fun h₁ hns₁ hsb₁ => ?_) hkind)
  dsimp only at hns₁ hsb₁ ⊢
  have F2 := F1.push (LCg.lst [])
  have N2 : News h₀ L (H1.push (LCg.lst [])) ((H1.objs.size, LCg.lst []) :: (s₁.heap.objs.size, roObj 0 n) :: news) :=
    news_cons (N1.grown fun b o e => Heap.get?_push_of_some _ e) (Heap.get?_push_size _ rfl) (by rw [hz1]; exact Nat.ne_of_gt (Nat.lt_succ_of_lt hL)) (next_is_new F1)
  have hz2 : (H1.push (LCg.lst [])).objs.size = s₁.heap.objs.size + 1 + 1 := by rw [Heap.size_push, hz1]
  have f3 : h₀.get? (s₁.heap.objs.size + 1 + 1) = none := hz2 ▸ next_is_new F2
  have hns₂ : h₁.Ns (H1.push (LCg.lst [])).objs.size (fun _ => none) := by
    refine hns₁.at' fun o e => e
  have hsb₂ : ∀ b o, b ≠ (H1.push (LCg.lst [])).objs.size → (H1.push (LCg.lst [])).get? b = some o → h₁.get? b = some o := fun b o hb e => (hsb₁.2 b hb).trans (Heap.get?_push_of_some _ e)
  revert F2 N2 hz2 hns₂ hsb₂
  clear hns₁ hsb₁
  rw [hz1]
  generalize hI0 : s₁.heap.objs.size = I0 at *
  intro F2 N2 hz2 hns₂ hsb₂
  rw [hz2] at hns₂ hsb₂
  obtain ⟨oC, heC, hoC⟩ := LCg.ns_obj hns₂
  have d3 : D3 I0 (I0 + 1 + 1) (I0 + 1) := ⟨Nat.ne_of_lt (Nat.lt_succ_of_lt (Nat.lt_succ_self _)), Nat.ne_of_lt (Nat.lt_succ_self _), Nat.ne_of_gt (Nat.lt_succ_self _)⟩
  have e2 : ∀ b o, b < I0 + 1 + 1 → (H1.push (LCg.lst [])).get? b = some o → h₁.get? b = some o := fun b o hb e => hsb₂ b o (Nat.ne_of_lt hb) e
  have F3 : Fr h₀ L h₁ m := fr_set F2 hsb₂ (Nat.ne_of_lt (Nat.lt_succ_of_lt (Nat.lt_succ_of_lt hL))) f3
  have zD := N2 _ (.head _)
  have zI := N2 _ (.tail _ (.head _))
  have N3 : News h₀ L h₁ ((I0, roObj 0 n) :: (I0 + 1 + 1, oC) :: (I0 + 1, LCg.lst []) :: news) :=
    news_cons (news_cons (news_cons (fun p hp => ⟨e2 _ _ (Nat.lt_succ_of_lt (Nat.lt_succ_of_lt (hN1 p hp))) (N2 p (.tail _ (.tail _ hp))).1, (N2 p (.tail _ (.tail _ hp))).2⟩) (e2 _ _ (Nat.lt_succ_self _) zD.1) zD.2.1 zD.2.2)
      heC (Nat.ne_of_gt (Nat.lt_succ_of_lt (Nat.lt_succ_of_lt hL))) f3) (e2 _ _ (Nat.lt_succ_of_lt (Nat.lt_succ_self _)) zI.1) zI.2.1 zI.2.2
  have off : Off [(I0, oC), (I0 + 1 + 1, oC), (I0 + 1, oC)] news := fun q hq p hp => by
    have := hN1 p hp
    simp only [List.mem_cons, List.not_mem_nil, or_false] at hq
    rcases hq with rfl | rfl | rfl
    · exact Nat.ne_of_gt this
    · exact Nat.ne_of_gt (Nat.lt_succ_of_lt (Nat.lt_succ_of_lt this))
    · exact Nat.ne_of_gt (Nat.lt_succ_of_lt this)
  have loop : ∀ RR : Result → Shared → Prop, (∀ h tk ys news m₂ oC, LCg.NsObj oC m₂ → Fr h₀ L h m → News h₀ L h ((I0 + 1 + 1, oC) :: (I0 + 1, LCg.lst ys) :: news) → Off [(I0 + 1 + 1, oC), (I0 + 1, LCg.lst ys)] news → Inv n 0 ys news → RR (.ok .next) { s₁ with heap := h, toks := tk }) →
      codeAny (model prog w) A (.compLoop (.ListComp elt [⟨.Name x px, i1, [], 0⟩, ⟨.Name y py, i2, [c], 0⟩] scope pos) 0 (.ref I0) (.ref (I0 + 1)) (compEnvC scope cl (I0 + 1 + 1) env)) RR { s₁ with heap := h₁, toks := s₁.toks + ([] : List (Str × Value)).length } := fun RR hd =>
    outer_2 hh hkind hx hy hxy hs2 hlen hnext S hoC F3 N3 off d3 hI hd
  have last : ∀ h tk ys news m₂ oC, LCg.NsObj oC m₂ → Fr h₀ L h m → News h₀ L h ((I0 + 1 + 1, oC) :: (I0 + 1, LCg.lst ys) :: news) → Off [(I0 + 1 + 1, oC), (I0 + 1, LCg.lst ys)] news → Inv n 0 ys news →
      compPost (model prog w) A E none Q (.ref (I0 + 1)) (I0 + 1 + 1) (.ok .next) { s₁ with heap := h, toks := tk } := by
    intro h tk ys news m₂ oC hC F N off hI
    have zC := N _ (.head _)
    have zD := N _ (.tail _ (.head _))
    refine ⟨m₂, hC.ns zC.1, fun h' hs' => ?_⟩
    have hk : ∀ b o, b ≠ I0 + 1 + 1 → h.get? b = some o → h'.get? b = some o := fun b o hb e => (hs'.2 b hb).trans e
    refine S.fin ys news hI (I0 + 1) h' tk (fr_set F hk (Ne.symm zC.2.1) f3) (news_cons (news_set (fun p hp => N p (.tail _ (.tail _ hp))) hk fun p hp => Ne.symm (off _ (.head _) p hp)) (hk _ _ (Ne.symm d3.cd) zD.1) zD.2.1 zD.2.2) fun q hq p hp => ?_
    rw [List.mem_singleton.mp hq]
    exact off _ (.tail _ (.head _)) p hp
  have ez : (H1.push { cls := Value.type "list", data := Data.seq #[] }).objs.size = I0 + 1 + 1 := hz2
  rw [ez]
  show codeAny (model prog w) A (.compStart (.ListComp elt [⟨.Name x px, i1, [], 0⟩, ⟨.Name y py, i2, [c], 0⟩] scope pos) 0 (.ref I0) (.ref (I0 + 1)) (compEnvC scope cl (I0 + 1 + 1) env)) _ _
  refine codeAny_compStart_list (loop _ last) ?_
  exact wpAny_pyIter_rangeiter (show IsRangeIter h₁ I0 0 ((n : Nat) : Int) 1 from (N3 _ (.head _)).1) (loop _ last)
end
end SrMine
namespace SrMine
noncomputable def ptDat : Pt → Dat
  | none => .tuple []
  | some (x, y) => .tuple [.int x, .int y]
theorem ptDat_inj {P Q : Pt} (h : ptDat P = ptDat Q) : P = Q := by
  match P, Q, h with
  | none, none, _ => rfl
  | none, some (_, _), h => simp [ptDat] at h
  | some (_, _), none, h => simp [ptDat] at h
  | some (x, y), some (x', y'), h => simp [ptDat] at h; simp [h]
theorem PtIn.dat {l : Led} {v : Value} {P : Pt} (h : PtIn l v P) : DatIn l v (ptDat P) := by
  cases h with
  | zero h => exact .tuple (vs := []) h .nil
  | «at» h => exact .tuple (vs := [_, _]) h (.cons (.int _ _) (.cons (.int _ _) .nil))
theorem PtsIn.dat {l : Led} {vs : List Value} {Ps : List (Int × Int)} (h : PtsIn l vs Ps) : DatAll l vs (Ps.map fun P => ptDat (some P)) := by
  induction h with
  | nil => exact .nil
  | cons h _ ih => exact .cons h.dat ih
theorem ptDat_ok (n : Nat) : ∀ P : Pt, kqdOk (n + 1) (ptDat P) = true
  | none => rfl
  | some (_, _) => by simp [ptDat, kqdOk]
section
variable {prog : Program} {w : World} {A : Around} {E : Value → Shared → Prop} {s : Shared} {h₀ : Heap} {L a b : Addr} {news n₁ n₂ : Led} {xs ys : List Value} {ka kb : Nat} {Ps : List (Int × Int)} {x y : Value} {P R : Pt} {Q : Value → Shared → Prop}
theorem dat_reads (N : News h₀ L s.heap news) (hx : PtIn n₁ x P) (sx : ∀ p ∈ n₁, p ∈ news) : ∃ as, Reads s.heap x (kqdP (ptDat P)) as := kqd_in N 2 (hx.mono sx).dat (ptDat_ok 1 P)
theorem dat_shaped (P : Pt) : SeqAt.shaped (kqdP (ptDat P)) = true := by
  have l := kqd_lay 2 (ptDat P) (ptDat_ok 1 P)
  unfold SeqAt.shaped; rw [l.1, Bool.true_and]; exact decide_eq_true (Nat.le_trans l.2 (by decide))
theorem dat_eqv (P R : Pt) : PyData.eqv (kqdP (ptDat P)) (kqdP (ptDat R)) = decide (P = R) := by
  have q := kqd_eqv 2 (ptDat P) (ptDat R) 2 (ptDat_ok 1 P) (ptDat_ok 1 R)
  by_cases h : P = R
  · rw [decide_eq_true h]; exact q.mpr (by rw [h])
  · rw [decide_eq_false h]; exact Bool.eq_false_iff.mpr fun z => h (ptDat_inj (q.mp z))
theorem ne_pt (N : News h₀ L s.heap news) (hx : PtIn n₁ x P) (sx : ∀ p ∈ n₁, p ∈ news) (hy : PtIn n₂ y R) (sy : ∀ p ∈ n₂, p ∈ news) (hu : A.units + 64 < cLine) (h : Q (.bool (!decide (P = R))) s) :
    wpAny (model prog w) A (compareOp .NotEq x y) Q E s := by
  obtain ⟨as, ra⟩ := dat_reads N hx sx
  obtain ⟨bs, rb⟩ := dat_reads N hy sy
  exact ne_dataH ra rb (dat_shaped P) (dat_shaped R) hu (by rw [dat_eqv]; exact h)
theorem eq_pt (N : News h₀ L s.heap news) (hx : PtIn n₁ x P) (sx : ∀ p ∈ n₁, p ∈ news) (hy : PtIn n₂ y R) (sy : ∀ p ∈ n₂, p ∈ news) (hu : A.units + 64 < cLine) (h : Q (.bool (decide (P = R))) s) :
    wpAny (model prog w) A (compareOp .Eq x y) Q E s := by
  obtain ⟨as, ra⟩ := dat_reads N hx sx
  obtain ⟨bs, rb⟩ := dat_reads N hy sy
  exact eq_dataH ra rb (dat_shaped P) (dat_shaped R) hu (by rw [dat_eqv]; exact h)
theorem pts_ok (Ps : List (Int × Int)) : ∀ d ∈ Ps.map (fun P => ptDat (some P)), kqdOk 8 d = true := fun d hd => by
  obtain ⟨P, _, rfl⟩ := List.mem_map.mp hd
  exact ptDat_ok 7 (some P)
theorem ne_pts (N : News h₀ L s.heap news) (ma : (a, ({ cls := .type "list", data := .seq xs.toArray ka } : Obj)) ∈ news) (hx : PtsIn n₁ xs Ps) (sx : ∀ p ∈ n₁, p ∈ news)
    (mb : (b, ({ cls := .type "list", data := .seq ys.toArray kb } : Obj)) ∈ news) (hy : PtsIn n₂ ys Ps) (sy : ∀ p ∈ n₂, p ∈ news) (hu : A.units + 64 < cLine) (h : Q (.bool false) s) :
    wpAny (model prog w) A (compareOp .NotEq (.ref a) (.ref b)) Q E s :=
  kqd_ne N ma rfl rfl hx.dat sx mb rfl rfl hy.dat sy (pts_ok Ps) (pts_ok Ps) hu (by simpa using h)
theorem notIn_pts (N : News h₀ L s.heap news) (ma : (a, ({ cls := .type "list", data := .seq xs.toArray ka } : Obj)) ∈ news) (hx : PtsIn n₁ xs Ps) (sx : ∀ p ∈ n₁, p ∈ news)
    {R : Int × Int} (hy : PtIn n₂ y (some R)) (sy : ∀ p ∈ n₂, p ∈ news) (hR : R ∈ Ps) (hu : A.units + 64 < cLine) (h : Q (.bool false) s) :
    wpAny (model prog w) A (compareOp .NotIn y (.ref a)) Q E s :=
  kqd_notIn N ma rfl rfl hx.dat sx hy.dat sy (pts_ok Ps) (ptDat_ok 7 _) hu (by
    have hm : ptDat (some R) ∈ Ps.map (fun P => ptDat (some P)) := List.mem_map.mpr ⟨R, hR, rfl⟩
    simpa [hm] using h)
end
end SrMine
namespace SrMine
theorem PtsIn.get {l : Led} {vs : List Value} {Ps : List (Int × Int)} (h : PtsIn l vs Ps) : ∀ {i : Nat} {v : Value}, vs[i]? = some v → ∃ P ∈ Ps, PtIn l v (some P) := by
  induction h with
  | nil => intro i v h; simp at h
  | cons h r ih =>
    intro i v hv
    cases i with
    | zero =>
      simp only [List.getElem?_cons_zero, Option.some.injEq] at hv
      subst hv
      exact ⟨_, .head _, h⟩
    | succ i =>
      simp only [List.getElem?_cons_succ] at hv
      obtain ⟨P, hP, hq⟩ := ih hv
      exact ⟨P, .tail _ hP, hq⟩
section
variable {prog : Program} {w : World} {A : Around} {E : Value → Shared → Prop} {s : Shared} {h₀ : Heap} {L l : Addr} {news n₁ : Led} {value slice : PySem.Expr} {vs : List Value} {nn : Nat} {k : Int} {u : Tok} {Q : Value → Shared → Prop}
theorem item_anyL (N : News h₀ L s.heap news) (hm : (l, ({ cls := .type "list", data := .seq vs.toArray nn } : Obj)) ∈ news) (h0 : 0 ≤ k) (h1 : k < (vs.length : Int)) (hsm : vs.length ≤ 10000) (h : ∀ v, vs[k.toNat]? = some v → Q v s)
    (hs : subscripted slice false (.ref l) (.int k u) = operate [.ref l, .int k u] (getItem (.ref l) (.int k u)) := by with_unfolding_all rfl) :
    wpAny (model prog w) A (subscriptTail value slice (.ref l) (.int k u)) Q E s := by
  have hl : s.heap.IsList l vs.toArray := ⟨_, (N _ hm).1, rfl, _, rfl⟩
  have hlt : k.toNat < vs.length := by omega
  exact tail_any hl.typeIs slot_list_getitem.lookup (wpAny_getItem_list hl h0 (by omega) (x := vs[k.toNat]) (by simp [hlt]) (h _ (List.getElem?_eq_getElem hlt))) hs
theorem item_pts {Ps : List (Int × Int)} (N : News h₀ L s.heap news) (hm : (l, ({ cls := .type "list", data := .seq vs.toArray nn } : Obj)) ∈ news) (hp : PtsIn n₁ vs Ps) (h0 : 0 ≤ k) (h1 : k < (vs.length : Int)) (hsm : vs.length ≤ 10000)
    (h : ∀ v P, PtIn n₁ v (some P) → P ∈ Ps → Q v s)
    (hs : subscripted slice false (.ref l) (.int k u) = operate [.ref l, .int k u] (getItem (.ref l) (.int k u)) := by with_unfolding_all rfl) :
    wpAny (model prog w) A (subscriptTail value slice (.ref l) (.int k u)) Q E s :=
  item_anyL N hm h0 h1 hsm (fun v hv => by obtain ⟨P, hP, hq⟩ := hp.get hv; exact h v P hq hP) hs
end
end SrMine
namespace SrMine
noncomputable def slopeN (a p x1 y1 x2 y2 : Nat) : Nat := bif Nat.beq x1 x2 then (3 * x1 * x1 + a) * (2 * y1) ^ (p - 2) % p else (y2 + p - y1) * (x2 + p - x1) ^ (p - 2) % p
noncomputable def endN (p x1 y1 x3 s : Nat) : Nat := 1 + x3 * p + (s * (x1 + p - x3) + p - y1) % p
noncomputable def thirdN (p x1 y1 x2 s : Nat) : Nat := endN p x1 y1 ((s * s + 2 * p - x1 - x2) % p) s
noncomputable def addX (a p x1 y1 x2 y2 : Nat) : Nat := bif (Nat.beq x1 x2 && Nat.beq ((y1 + y2) % p) 0) then 0 else thirdN p x1 y1 x2 (slopeN a p x1 y1 x2 y2)
/-- the sum of two points by their numbers -/
noncomputable def addN (a p c d : Nat) : Nat := bif Nat.beq c 0 then d else bif Nat.beq d 0 then c else addX a p ((c - 1) / p) ((c - 1) % p) ((d - 1) / p) ((d - 1) % p)
/-- a point's number: 0 at infinity, else 1 + x p + y -/
noncomputable def enc (p : Nat) : Pt → Nat
  | none => 0
  | some (x, y) => 1 + x.toNat * p + y.toNat
theorem pow_emod (x p : Int) : ∀ k : Nat, x ^ k % p = (x % p) ^ k % p
  | 0 => by rw [Int.pow_zero, Int.pow_zero]
  | k + 1 => by
    rw [Int.pow_succ, Int.pow_succ, Int.mul_emod, pow_emod x p k, Int.mul_emod ((x % p) ^ k) (x % p), Int.emod_emod]
theorem pow_shift (x p : Int) (k : Nat) : (x + p) ^ k % p = x ^ k % p := by
  rw [pow_emod (x + p), pow_emod x, Int.add_emod_right]
theorem slope_eq {a p x1 y1 x2 y2 : Nat} (hp : 2 ≤ p) (h1 : x1 < p) (hy1 : y1 < p) : (slopeN a p x1 y1 x2 y2 : Int) =
    (if (x1 : Int) = x2 then (3 * (x1 : Int) * x1 + a) * (2 * y1) ^ ((p : Int) - 2).toNat else ((y2 : Int) - y1) * ((x2 : Int) - x1) ^ ((p : Int) - 2).toNat).fmod p := by
  have e : ((p : Int) - 2).toNat = p - 2 := by omega
  rw [e, Int.fmod_eq_emod_of_nonneg _ (by omega)]
  unfold slopeN
  by_cases h : x1 = x2
  · subst h
    rw [if_pos rfl, show Nat.beq x1 x1 = true from Nat.beq_refl x1]
    simp only [cond_true]
    norm_cast
  · rw [if_neg (by omega), show Nat.beq x1 x2 = false from by
      cases hb : Nat.beq x1 x2 with
      | false => rfl
      | true => exact absurd (Nat.eq_of_beq_eq_true hb) h]
    simp only [cond_false]
    have e1 : ((y2 + p - y1 : Nat) : Int) = ((y2 : Int) - y1) + p := by omega
    have e2 : ((x2 + p - x1 : Nat) : Int) = ((x2 : Int) - x1) + p := by omega
    rw [Int.natCast_emod, Int.natCast_mul, Int.natCast_pow, e1, e2]
    rw [Int.mul_emod, pow_shift, Int.add_emod_right, ← Int.mul_emod]
/-- the sum of the numbers is the number of the sum -/
theorem addN_enc {a p : Nat} (hp : 2 ≤ p) {P Q : Pt} (hP : Good p P) (hQ : Good p Q) : addN a p (enc p P) (enc p Q) = enc p (ecSum a p P Q) := by
  match P, Q, hP, hQ with
  | none, Q, _, _ => rfl
  | some (x1, y1), none, _, _ =>
    have h0 : Nat.beq (enc p (some (x1, y1))) 0 = false := by
      cases hb : Nat.beq (enc p (some (x1, y1))) 0 with
      | false => rfl
      | true => have := Nat.eq_of_beq_eq_true hb; simp only [enc] at this; omega
    unfold addN
    rw [h0]
    rfl
  | some (x1, y1), some (x2, y2), ⟨a1, a2, a3, a4⟩, ⟨b1, b2, b3, b4⟩ =>
    obtain ⟨x1, rfl⟩ := Int.eq_ofNat_of_zero_le a1
    obtain ⟨y1, rfl⟩ := Int.eq_ofNat_of_zero_le a3
    obtain ⟨x2, rfl⟩ := Int.eq_ofNat_of_zero_le b1
    obtain ⟨y2, rfl⟩ := Int.eq_ofNat_of_zero_le b3
    have hx1 : x1 < p := by omega
    have hy1 : y1 < p := by omega
    have hx2 : x2 < p := by omega
    have hy2 : y2 < p := by omega
    have key : ∀ x y : Nat, y < p → (1 + x * p + y - 1) / p = x ∧ (1 + x * p + y - 1) % p = y ∧ Nat.beq (1 + x * p + y) 0 = false := by
      intro x y hy
      have e : 1 + x * p + y - 1 = y + p * x := by rw [Nat.mul_comm p x]; omega
      refine ⟨by rw [e, Nat.add_mul_div_left _ _ (by omega), Nat.div_eq_of_lt hy, Nat.zero_add], by rw [e, Nat.add_mul_mod_self_left, Nat.mod_eq_of_lt hy], ?_⟩
      cases hb : Nat.beq (1 + x * p + y) 0 with
      | false => rfl
      | true => have := Nat.eq_of_beq_eq_true hb; omega
    obtain ⟨k1, k2, k3⟩ := key x1 y1 hy1
    obtain ⟨l1, l2, l3⟩ := key x2 y2 hy2
    show addN a p (1 + x1 * p + y1) (1 + x2 * p + y2) = _
    unfold addN
    rw [k3, l3, k1, k2, l1, l2]
    simp only [cond_false]
    unfold addX
    by_cases hc : x1 = x2 ∧ (y1 + y2) % p = 0
    · obtain ⟨rfl, h2⟩ := hc
      have hz : ((y1 : Int) + y2).fmod p = 0 := by
        rw [Int.fmod_eq_emod_of_nonneg _ (by omega)]
        have : ((y1 + y2 : Nat) : Int) % (p : Int) = 0 := by rw [← Int.natCast_emod, h2]; rfl
        rw [Int.natCast_add] at this
        exact this
      rw [ec_zero rfl hz, h2, show Nat.beq x1 x1 = true from Nat.beq_refl x1]
      rfl
    · have hcb : (Nat.beq x1 x2 && Nat.beq ((y1 + y2) % p) 0) = false := by
        cases hb : (Nat.beq x1 x2 && Nat.beq ((y1 + y2) % p) 0) with
        | false => rfl
        | true =>
          rw [Bool.and_eq_true] at hb
          exact absurd ⟨Nat.eq_of_beq_eq_true hb.1, Nat.eq_of_beq_eq_true hb.2⟩ hc
      rw [hcb]
      simp only [cond_false]
      have hc2 : ¬ ((x1 : Int) = x2 ∧ ((y1 : Int) + y2).fmod p = 0) := by
        rintro ⟨h1, h2⟩
        refine hc ⟨by omega, ?_⟩
        rw [Int.fmod_eq_emod_of_nonneg _ (by omega)] at h2
        have e : (((y1 + y2) % p : Nat) : Int) = 0 := by rw [Int.natCast_emod, Int.natCast_add]; exact h2
        omega
      have hs := slope_eq (a := a) (x2 := x2) (y2 := y2) hp hx1 hy1
      unfold ecSum
      dsimp only
      rw [if_neg hc2]
      generalize slopeN a p x1 y1 x2 y2 = s at hs
      have hs2 : (if (x1 : Int) = x2 then ((3 * (x1 : Int) * x1 + a) * (2 * y1) ^ ((p : Int) - 2).toNat).fmod p else (((y2 : Int) - y1) * ((x2 : Int) - x1) ^ ((p : Int) - 2).toNat).fmod p) = s := by
        rw [hs]; split <;> rfl
      rw [hs2]
      have hX : ((s : Int) * s - x1 - x2).fmod p = (((s * s + 2 * p - x1 - x2) % p : Nat) : Int) := by
        rw [Int.fmod_eq_emod_of_nonneg _ (by omega), Int.natCast_emod]
        have e : ((s * s + 2 * p - x1 - x2 : Nat) : Int) = ((s : Int) * s - x1 - x2) + p * 2 := by
          have e0 : ((s * s : Nat) : Int) = (s : Int) * s := Int.natCast_mul s s
          generalize s * s = q at e0 ⊢
          omega
        rw [e, Int.add_mul_emod_self_left]
      rw [hX]
      unfold thirdN
      have hx3 : (s * s + 2 * p - x1 - x2) % p < p := Nat.mod_lt _ (by omega)
      generalize (s * s + 2 * p - x1 - x2) % p = x3 at hx3
      have hY : ((s : Int) * (x1 - x3) - y1).fmod p = (((s * (x1 + p - x3) + p - y1) % p : Nat) : Int) := by
        rw [Int.fmod_eq_emod_of_nonneg _ (by omega), Int.natCast_emod]
        have e1 : ((x1 + p - x3 : Nat) : Int) = (x1 : Int) - x3 + p := by omega
        have e0 : ((s * (x1 + p - x3) : Nat) : Int) = (s : Int) * (x1 - x3) + p * s := by
          rw [Int.natCast_mul, e1, Int.mul_add, Int.mul_comm (s : Int) p]
        have e : ((s * (x1 + p - x3) + p - y1 : Nat) : Int) = ((s : Int) * (x1 - x3) - y1) + p * (s + 1) := by
          rw [Int.mul_add, Int.mul_one]
          generalize s * (x1 + p - x3) = q at e0 ⊢
          omega
        rw [e, Int.add_mul_emod_self_left]
      rw [hY]
      rfl
end SrMine
namespace SrMine
noncomputable def dec (p : Nat) (c : Nat) : Pt := if c = 0 then none else some ((((c - 1) / p : Nat) : Int), (((c - 1) % p : Nat) : Int))
/-- own loops by the recursor: they run fast in the kernel -/
noncomputable def hasK (t : List (Nat × Nat × Nat)) (k u v : Nat) : Bool := @List.rec (Nat × Nat × Nat) (fun _ => Bool) false (fun g _ ih => @cond Bool (Nat.beq g.1 k) (Nat.beq g.2.1 u && Nat.beq g.2.2 v) ih) t
noncomputable def allK (P : Nat × Nat × Nat → Bool) (t : List (Nat × Nat × Nat)) : Bool := @List.rec (Nat × Nat × Nat) (fun _ => Bool) true (fun g _ ih => @cond Bool (P g) ih false) t
noncomputable def offK (n : Nat) (e : Nat × Nat × Nat) (t : List (Nat × Nat × Nat)) : Bool := allK (fun f => !(Nat.beq (e.2.1 * n + e.2.2) (f.2.1 * n + f.2.2))) t
noncomputable def ndK (n : Nat) (t : List (Nat × Nat × Nat)) : Bool := @List.rec (Nat × Nat × Nat) (fun _ => Bool) true (fun e r ih => @cond Bool (offK n e r) ih false) t
/-- one curve's table: its keys are the points in order, its values lie in Z/m x Z/n, no two alike, and are added as the points are; how many they are -/
noncomputable def chk (p : Nat) (r : Nat × Nat × Nat × Nat × List (Nat × Nat × Nat)) : Bool :=
  let a := r.1; let b := r.2.1; let m := r.2.2.1; let n := r.2.2.2.1; let t := r.2.2.2.2
  decide (t.map (·.1) = 0 :: (ptsTo a b p p p).map (fun P => enc p (some P))) && decide (t.length = m * n) && allK (fun e => Nat.blt e.2.1 m && Nat.blt e.2.2 n) t
    && ndK n t && allK (fun e => allK (fun f => hasK t (addN a p e.1 f.1) ((e.2.1 + f.2.1) % m) ((e.2.2 + f.2.2) % n)) t) t
    && (Nat.blt 1 (m * n) && Nat.ble ((m * n - (p + 1)) * (m * n - (p + 1))) (4 * p) && Nat.ble ((p + 1 - m * n) * (p + 1 - m * n)) (4 * p))
set_option maxRecDepth 100000
noncomputable def tab7_0 : List (Nat × Nat × Nat × Nat × List (Nat × Nat × Nat)) := [(0, 1, 2, 6, [(0, 0, 0), (2, 0, 2), (7, 0, 4), (11, 0, 1), (12, 0, 5), (18, 1, 1), (19, 1, 5), (22, 0, 3), (32, 1, 4), (33, 1, 2), (36, 1, 0), (43, 1, 3)]),
  (0, 2, 3, 3, [(0, 0, 0), (4, 0, 1), (5, 0, 2), (23, 1, 0), (28, 2, 0), (37, 1, 2), (42, 2, 1), (44, 1, 1), (49, 2, 2)]),
  (0, 3, 1, 13, [(0, 0, 0), (10, 0, 1), (13, 0, 12), (17, 0, 3), (20, 0, 10), (25, 0, 5), (26, 0, 8), (31, 0, 9), (34, 0, 4), (39, 0, 6), (40, 0, 7), (46, 0, 2), (47, 0, 11)]),
  (0, 4, 1, 3, [(0, 0, 0), (3, 0, 1), (6, 0, 2)]),
  (0, 5, 1, 7, [(0, 0, 0), (24, 0, 1), (27, 0, 6), (38, 0, 2), (41, 0, 5), (45, 0, 4), (48, 0, 3)]),
  (0, 6, 2, 2, [(0, 0, 0), (8, 0, 1), (15, 1, 0), (29, 1, 1)])]
theorem tabOk7_0 : tab7_0.all (chk 7) = true := by decide +kernel
noncomputable def tab7_1 : List (Nat × Nat × Nat × Nat × List (Nat × Nat × Nat)) := [(1, 0, 1, 8, [(0, 0, 0), (1, 0, 4), (11, 0, 6), (12, 0, 2), (25, 0, 1), (26, 0, 7), (38, 0, 5), (41, 0, 3)]),
  (1, 1, 1, 5, [(0, 0, 0), (2, 0, 1), (7, 0, 4), (17, 0, 3), (20, 0, 2)]),
  (1, 3, 1, 6, [(0, 0, 0), (30, 0, 1), (35, 0, 5), (36, 0, 3), (44, 0, 4), (49, 0, 2)]),
  (1, 4, 1, 10, [(0, 0, 0), (3, 0, 1), (6, 0, 9), (15, 0, 5), (32, 0, 8), (33, 0, 2), (37, 0, 7), (42, 0, 3), (46, 0, 4), (47, 0, 6)]),
  (1, 6, 1, 11, [(0, 0, 0), (9, 0, 1), (14, 0, 10), (18, 0, 9), (19, 0, 2), (23, 0, 5), (28, 0, 6), (31, 0, 7), (34, 0, 4), (45, 0, 8), (48, 0, 3)])]
theorem tabOk7_1 : tab7_1.all (chk 7) = true := by decide +kernel
noncomputable def tab7_2 : List (Nat × Nat × Nat × Nat × List (Nat × Nat × Nat)) := [(2, 0, 1, 8, [(0, 0, 0), (1, 0, 4), (32, 0, 6), (33, 0, 2), (39, 0, 1), (40, 0, 7), (45, 0, 5), (48, 0, 3)]),
  (2, 1, 1, 5, [(0, 0, 0), (2, 0, 1), (7, 0, 4), (10, 0, 3), (13, 0, 2)]),
  (2, 3, 1, 6, [(0, 0, 0), (16, 0, 1), (21, 0, 5), (23, 0, 4), (28, 0, 2), (43, 0, 3)]),
  (2, 4, 1, 10, [(0, 0, 0), (3, 0, 1), (6, 0, 9), (8, 0, 5), (18, 0, 8), (19, 0, 2), (25, 0, 4), (26, 0, 6), (44, 0, 7), (49, 0, 3)]),
  (2, 6, 1, 11, [(0, 0, 0), (11, 0, 1), (12, 0, 10), (17, 0, 2), (20, 0, 9), (24, 0, 7), (27, 0, 4), (30, 0, 5), (35, 0, 6), (37, 0, 3), (42, 0, 8)])]
theorem tabOk7_2 : tab7_2.all (chk 7) = true := by decide +kernel
noncomputable def tab7_3 : List (Nat × Nat × Nat × Nat × List (Nat × Nat × Nat)) := [(3, 0, 2, 4, [(0, 0, 0), (1, 1, 0), (10, 0, 1), (13, 0, 3), (15, 0, 2), (23, 1, 1), (28, 1, 3), (36, 1, 2)]),
  (3, 1, 1, 12, [(0, 0, 0), (2, 0, 9), (7, 0, 3), (16, 0, 1), (21, 0, 11), (25, 0, 7), (26, 0, 5), (29, 0, 6), (37, 0, 2), (42, 0, 10), (45, 0, 4), (48, 0, 8)]),
  (3, 2, 1, 9, [(0, 0, 0), (4, 0, 1), (5, 0, 8), (18, 0, 2), (19, 0, 7), (30, 0, 5), (35, 0, 4), (39, 0, 6), (40, 0, 3)]),
  (3, 3, 1, 6, [(0, 0, 0), (8, 0, 3), (24, 0, 2), (27, 0, 4), (32, 0, 1), (33, 0, 5)]),
  (3, 4, 1, 10, [(0, 0, 0), (3, 0, 2), (6, 0, 8), (9, 0, 6), (14, 0, 4), (17, 0, 1), (20, 0, 9), (38, 0, 7), (41, 0, 3), (43, 0, 5)]),
  (3, 5, 1, 7, [(0, 0, 0), (11, 0, 1), (12, 0, 6), (31, 0, 4), (34, 0, 3), (44, 0, 5), (49, 0, 2)]),
  (3, 6, 1, 4, [(0, 0, 0), (22, 0, 2), (46, 0, 1), (47, 0, 3)])]
theorem tabOk7_3 : tab7_3.all (chk 7) = true := by decide +kernel
noncomputable def tab7_4 : List (Nat × Nat × Nat × Nat × List (Nat × Nat × Nat)) := [(4, 0, 1, 8, [(0, 0, 0), (1, 0, 4), (18, 0, 6), (19, 0, 2), (24, 0, 1), (27, 0, 7), (46, 0, 5), (47, 0, 3)]),
  (4, 1, 1, 5, [(0, 0, 0), (2, 0, 1), (7, 0, 4), (31, 0, 3), (34, 0, 2)]),
  (4, 3, 1, 6, [(0, 0, 0), (9, 0, 1), (14, 0, 5), (22, 0, 3), (37, 0, 4), (42, 0, 2)]),
  (4, 4, 1, 10, [(0, 0, 0), (3, 0, 1), (6, 0, 9), (11, 0, 8), (12, 0, 2), (23, 0, 7), (28, 0, 3), (29, 0, 5), (39, 0, 4), (40, 0, 6)]),
  (4, 6, 1, 11, [(0, 0, 0), (10, 0, 1), (13, 0, 10), (16, 0, 8), (21, 0, 3), (32, 0, 6), (33, 0, 5), (38, 0, 9), (41, 0, 2), (44, 0, 7), (49, 0, 4)])]
theorem tabOk7_4 : tab7_4.all (chk 7) = true := by decide +kernel
noncomputable def tab7_5 : List (Nat × Nat × Nat × Nat × List (Nat × Nat × Nat)) := [(5, 0, 2, 4, [(0, 0, 0), (1, 1, 0), (17, 0, 1), (20, 0, 3), (22, 1, 2), (29, 0, 2), (44, 1, 1), (49, 1, 3)]),
  (5, 1, 1, 12, [(0, 0, 0), (2, 0, 9), (7, 0, 3), (8, 0, 6), (23, 0, 2), (28, 0, 10), (30, 0, 1), (35, 0, 11), (38, 0, 4), (41, 0, 8), (46, 0, 7), (47, 0, 5)]),
  (5, 2, 1, 9, [(0, 0, 0), (4, 0, 1), (5, 0, 8), (9, 0, 5), (14, 0, 4), (25, 0, 6), (26, 0, 3), (32, 0, 2), (33, 0, 7)]),
  (5, 3, 1, 6, [(0, 0, 0), (11, 0, 1), (12, 0, 5), (15, 0, 3), (45, 0, 2), (48, 0, 4)]),
  (5, 4, 1, 10, [(0, 0, 0), (3, 0, 6), (6, 0, 4), (16, 0, 8), (21, 0, 2), (24, 0, 1), (27, 0, 9), (31, 0, 3), (34, 0, 7), (36, 0, 5)]),
  (5, 5, 1, 7, [(0, 0, 0), (10, 0, 1), (13, 0, 6), (18, 0, 2), (19, 0, 5), (37, 0, 3), (42, 0, 4)]),
  (5, 6, 1, 4, [(0, 0, 0), (39, 0, 1), (40, 0, 3), (43, 0, 2)])]
theorem tabOk7_5 : tab7_5.all (chk 7) = true := by decide +kernel
noncomputable def tab7_6 : List (Nat × Nat × Nat × Nat × List (Nat × Nat × Nat)) := [(6, 0, 2, 4, [(0, 0, 0), (1, 1, 0), (8, 0, 2), (31, 0, 1), (34, 0, 3), (37, 1, 1), (42, 1, 3), (43, 1, 2)]),
  (6, 1, 1, 12, [(0, 0, 0), (2, 0, 9), (7, 0, 3), (9, 0, 1), (14, 0, 11), (15, 0, 6), (24, 0, 4), (27, 0, 8), (39, 0, 7), (40, 0, 5), (44, 0, 2), (49, 0, 10)]),
  (6, 2, 1, 9, [(0, 0, 0), (4, 0, 1), (5, 0, 8), (11, 0, 2), (12, 0, 7), (16, 0, 5), (21, 0, 4), (46, 0, 6), (47, 0, 3)]),
  (6, 3, 1, 6, [(0, 0, 0), (18, 0, 1), (19, 0, 5), (29, 0, 3), (38, 0, 2), (41, 0, 4)]),
  (6, 4, 1, 10, [(0, 0, 0), (3, 0, 2), (6, 0, 8), (10, 0, 1), (13, 0, 9), (22, 0, 5), (30, 0, 6), (35, 0, 4), (45, 0, 7), (48, 0, 3)]),
  (6, 5, 1, 7, [(0, 0, 0), (17, 0, 1), (20, 0, 6), (23, 0, 3), (28, 0, 4), (32, 0, 2), (33, 0, 5)]),
  (6, 6, 1, 4, [(0, 0, 0), (25, 0, 1), (26, 0, 3), (36, 0, 2)])]
theorem tabOk7_6 : tab7_6.all (chk 7) = true := by decide +kernel
end SrMine
namespace SrMine
set_option maxRecDepth 100000
noncomputable def tab11_0 : List (Nat × Nat × Nat × Nat × List (Nat × Nat × Nat)) := [(0, 1, 1, 12, [(0, 0, 0), (2, 0, 8), (11, 0, 4), (26, 0, 10), (31, 0, 2), (60, 0, 9), (63, 0, 3), (83, 0, 1), (84, 0, 11), (102, 0, 7), (109, 0, 5), (111, 0, 6)]),
  (0, 2, 1, 12, [(0, 0, 0), (17, 0, 1), (18, 0, 11), (45, 0, 6), (70, 0, 3), (75, 0, 9), (80, 0, 2), (87, 0, 10), (104, 0, 8), (107, 0, 4), (112, 0, 5), (121, 0, 7)]),
  (0, 3, 1, 12, [(0, 0, 0), (6, 0, 4), (7, 0, 8), (14, 0, 3), (21, 0, 9), (23, 0, 6), (46, 0, 1), (55, 0, 11), (82, 0, 2), (85, 0, 10), (92, 0, 5), (97, 0, 7)]),
  (0, 4, 1, 12, [(0, 0, 0), (3, 0, 8), (10, 0, 4), (16, 0, 1), (19, 0, 11), (24, 0, 5), (33, 0, 7), (37, 0, 9), (42, 0, 3), (67, 0, 6), (116, 0, 2), (117, 0, 10)]),
  (0, 5, 1, 12, [(0, 0, 0), (5, 0, 4), (8, 0, 8), (50, 0, 9), (51, 0, 3), (59, 0, 1), (64, 0, 11), (68, 0, 2), (77, 0, 10), (89, 0, 6), (113, 0, 7), (120, 0, 5)]),
  (0, 6, 1, 12, [(0, 0, 0), (28, 0, 1), (29, 0, 11), (34, 0, 6), (47, 0, 8), (54, 0, 4), (90, 0, 2), (99, 0, 10), (103, 0, 5), (108, 0, 7), (115, 0, 3), (118, 0, 9)]),
  (0, 7, 1, 12, [(0, 0, 0), (25, 0, 9), (32, 0, 3), (35, 0, 8), (44, 0, 4), (49, 0, 1), (52, 0, 11), (56, 0, 6), (72, 0, 10), (73, 0, 2), (81, 0, 5), (86, 0, 7)]),
  (0, 8, 1, 12, [(0, 0, 0), (15, 0, 8), (20, 0, 4), (27, 0, 10), (30, 0, 2), (57, 0, 1), (66, 0, 11), (69, 0, 7), (76, 0, 5), (94, 0, 3), (95, 0, 9), (100, 0, 6)]),
  (0, 9, 1, 12, [(0, 0, 0), (4, 0, 4), (9, 0, 8), (39, 0, 1), (40, 0, 11), (71, 0, 5), (74, 0, 7), (78, 0, 6), (91, 0, 10), (98, 0, 2), (101, 0, 9), (110, 0, 3)]),
  (0, 10, 1, 12, [(0, 0, 0), (12, 0, 6), (36, 0, 1), (43, 0, 11), (61, 0, 4), (62, 0, 8), (79, 0, 9), (88, 0, 3), (93, 0, 7), (96, 0, 5), (114, 0, 2), (119, 0, 10)])]
theorem tabOk11_0 : tab11_0.all (chk 11) = true := by decide +kernel
noncomputable def tab11_1 : List (Nat × Nat × Nat × Nat × List (Nat × Nat × Nat)) := [(1, 0, 1, 12, [(0, 0, 0), (1, 0, 6), (59, 0, 8), (64, 0, 4), (81, 0, 1), (86, 0, 11), (94, 0, 5), (95, 0, 7), (101, 0, 10), (110, 0, 2), (114, 0, 3), (119, 0, 9)]),
  (1, 1, 1, 14, [(0, 0, 0), (2, 0, 8), (11, 0, 6), (17, 0, 1), (18, 0, 13), (23, 0, 7), (37, 0, 2), (42, 0, 12), (50, 0, 9), (51, 0, 5), (72, 0, 4), (73, 0, 10), (91, 0, 3), (98, 0, 11)]),
  (1, 2, 2, 8, [(0, 0, 0), (14, 1, 6), (21, 1, 2), (24, 0, 1), (33, 0, 7), (47, 0, 5), (54, 0, 3), (56, 1, 0), (69, 1, 5), (76, 1, 3), (78, 1, 4), (93, 0, 2), (96, 0, 6), (105, 1, 1), (106, 1, 7), (111, 0, 4)]),
  (1, 3, 1, 18, [(0, 0, 0), (6, 0, 15), (7, 0, 3), (16, 0, 6), (19, 0, 12), (34, 0, 9), (49, 0, 2), (52, 0, 16), (57, 0, 1), (66, 0, 17), (71, 0, 10), (74, 0, 8), (79, 0, 4), (88, 0, 14), (102, 0, 7), (109, 0, 11), (112, 0, 13), (121, 0, 5)]),
  (1, 4, 1, 9, [(0, 0, 0), (3, 0, 1), (10, 0, 8), (28, 0, 5), (29, 0, 4), (35, 0, 3), (44, 0, 6), (104, 0, 2), (107, 0, 7)]),
  (1, 5, 1, 11, [(0, 0, 0), (5, 0, 1), (8, 0, 10), (25, 0, 7), (32, 0, 4), (61, 0, 2), (62, 0, 9), (83, 0, 6), (84, 0, 5), (116, 0, 3), (117, 0, 8)]),
  (1, 6, 1, 13, [(0, 0, 0), (27, 0, 1), (30, 0, 12), (39, 0, 5), (40, 0, 8), (58, 0, 11), (65, 0, 2), (80, 0, 6), (87, 0, 7), (92, 0, 10), (97, 0, 3), (113, 0, 9), (120, 0, 4)]),
  (1, 7, 1, 15, [(0, 0, 0), (15, 0, 12), (20, 0, 3), (36, 0, 1), (43, 0, 14), (48, 0, 10), (53, 0, 5), (60, 0, 4), (63, 0, 11), (70, 0, 8), (75, 0, 7), (82, 0, 9), (85, 0, 6), (115, 0, 2), (118, 0, 13)]),
  (1, 8, 1, 6, [(0, 0, 0), (38, 0, 1), (41, 0, 5), (89, 0, 3), (103, 0, 4), (108, 0, 2)]),
  (1, 9, 2, 4, [(0, 0, 0), (4, 0, 1), (9, 0, 3), (12, 1, 0), (45, 0, 2), (67, 1, 2), (90, 1, 3), (99, 1, 1)]),
  (1, 10, 1, 10, [(0, 0, 0), (13, 0, 2), (22, 0, 8), (26, 0, 6), (31, 0, 4), (46, 0, 1), (55, 0, 9), (68, 0, 7), (77, 0, 3), (100, 0, 5)])]
theorem tabOk11_1 : tab11_1.all (chk 11) = true := by decide +kernel
noncomputable def tab11_2 : List (Nat × Nat × Nat × Nat × List (Nat × Nat × Nat)) := [(2, 0, 2, 6, [(0, 0, 0), (1, 0, 3), (17, 0, 4), (18, 0, 2), (24, 0, 1), (33, 0, 5), (34, 1, 0), (61, 1, 4), (62, 1, 2), (82, 1, 1), (85, 1, 5), (89, 1, 3)]),
  (2, 1, 1, 16, [(0, 0, 0), (2, 0, 1), (11, 0, 15), (14, 0, 14), (21, 0, 2), (35, 0, 12), (44, 0, 4), (58, 0, 9), (65, 0, 7), (70, 0, 5), (75, 0, 11), (90, 0, 3), (99, 0, 13), (100, 0, 8), (114, 0, 6), (119, 0, 10)]),
  (2, 2, 1, 9, [(0, 0, 0), (16, 0, 1), (19, 0, 8), (28, 0, 2), (29, 0, 7), (60, 0, 4), (63, 0, 5), (101, 0, 6), (110, 0, 3)]),
  (2, 4, 1, 17, [(0, 0, 0), (3, 0, 1), (10, 0, 16), (27, 0, 7), (30, 0, 10), (36, 0, 2), (43, 0, 15), (68, 0, 4), (77, 0, 13), (81, 0, 6), (86, 0, 11), (91, 0, 14), (98, 0, 3), (105, 0, 5), (106, 0, 12), (112, 0, 9), (121, 0, 8)]),
  (2, 5, 1, 10, [(0, 0, 0), (5, 0, 1), (8, 0, 9), (38, 0, 3), (41, 0, 7), (45, 0, 5), (93, 0, 6), (96, 0, 4), (102, 0, 2), (109, 0, 8)]),
  (2, 6, 1, 14, [(0, 0, 0), (15, 0, 12), (20, 0, 2), (46, 0, 1), (55, 0, 13), (59, 0, 8), (64, 0, 6), (72, 0, 5), (73, 0, 9), (78, 0, 7), (104, 0, 11), (107, 0, 3), (116, 0, 4), (117, 0, 10)]),
  (2, 7, 1, 7, [(0, 0, 0), (69, 0, 1), (76, 0, 6), (79, 0, 4), (88, 0, 3), (113, 0, 5), (120, 0, 2)]),
  (2, 9, 1, 15, [(0, 0, 0), (4, 0, 1), (9, 0, 14), (13, 0, 4), (22, 0, 11), (37, 0, 5), (42, 0, 10), (47, 0, 12), (54, 0, 3), (57, 0, 13), (66, 0, 2), (83, 0, 7), (84, 0, 8), (92, 0, 9), (97, 0, 6)]),
  (2, 10, 1, 8, [(0, 0, 0), (23, 0, 4), (49, 0, 1), (52, 0, 7), (80, 0, 2), (87, 0, 6), (103, 0, 3), (108, 0, 5)])]
theorem tabOk11_2 : tab11_2.all (chk 11) = true := by decide +kernel
noncomputable def tab11_3 : List (Nat × Nat × Nat × Nat × List (Nat × Nat × Nat)) := [(3, 0, 1, 12, [(0, 0, 0), (1, 0, 6), (14, 0, 2), (21, 0, 10), (28, 0, 1), (29, 0, 11), (39, 0, 8), (40, 0, 4), (72, 0, 3), (73, 0, 9), (79, 0, 5), (88, 0, 7)]),
  (3, 1, 1, 18, [(0, 0, 0), (2, 0, 3), (11, 0, 15), (16, 0, 1), (19, 0, 17), (25, 0, 16), (32, 0, 2), (36, 0, 13), (43, 0, 5), (45, 0, 9), (59, 0, 12), (64, 0, 6), (69, 0, 7), (76, 0, 11), (92, 0, 14), (97, 0, 4), (103, 0, 10), (108, 0, 8)]),
  (3, 2, 1, 13, [(0, 0, 0), (27, 0, 1), (30, 0, 12), (38, 0, 4), (41, 0, 9), (46, 0, 10), (55, 0, 3), (71, 0, 8), (74, 0, 5), (83, 0, 7), (84, 0, 6), (114, 0, 2), (119, 0, 11)]),
  (3, 3, 2, 4, [(0, 0, 0), (6, 0, 1), (7, 0, 3), (56, 1, 0), (80, 1, 1), (87, 1, 3), (89, 1, 2), (100, 0, 2)]),
  (3, 4, 1, 14, [(0, 0, 0), (3, 0, 6), (10, 0, 8), (50, 0, 2), (51, 0, 12), (57, 0, 1), (66, 0, 13), (82, 0, 11), (85, 0, 3), (90, 0, 4), (99, 0, 10), (101, 0, 9), (110, 0, 5), (111, 0, 7)]),
  (3, 5, 1, 9, [(0, 0, 0), (5, 0, 1), (8, 0, 8), (15, 0, 7), (20, 0, 2), (47, 0, 3), (54, 0, 6), (112, 0, 4), (121, 0, 5)]),
  (3, 6, 1, 15, [(0, 0, 0), (26, 0, 6), (31, 0, 9), (37, 0, 1), (42, 0, 14), (49, 0, 11), (52, 0, 4), (61, 0, 3), (62, 0, 12), (70, 0, 8), (75, 0, 7), (94, 0, 2), (95, 0, 13), (105, 0, 10), (106, 0, 5)]),
  (3, 7, 1, 10, [(0, 0, 0), (12, 0, 5), (58, 0, 6), (65, 0, 4), (91, 0, 1), (98, 0, 9), (102, 0, 3), (109, 0, 7), (116, 0, 2), (117, 0, 8)]),
  (3, 8, 2, 8, [(0, 0, 0), (13, 0, 1), (22, 0, 7), (23, 1, 0), (34, 1, 4), (60, 1, 6), (63, 1, 2), (67, 0, 4), (81, 0, 2), (86, 0, 6), (93, 0, 3), (96, 0, 5), (104, 1, 7), (107, 1, 1), (113, 1, 3), (120, 1, 5)]),
  (3, 9, 1, 11, [(0, 0, 0), (4, 0, 1), (9, 0, 10), (24, 0, 6), (33, 0, 5), (35, 0, 2), (44, 0, 9), (68, 0, 3), (77, 0, 8), (115, 0, 4), (118, 0, 7)]),
  (3, 10, 1, 6, [(0, 0, 0), (17, 0, 4), (18, 0, 2), (48, 0, 1), (53, 0, 5), (78, 0, 3)])]
theorem tabOk11_3 : tab11_3.all (chk 11) = true := by decide +kernel
noncomputable def tab11_4 : List (Nat × Nat × Nat × Nat × List (Nat × Nat × Nat)) := [(4, 0, 1, 12, [(0, 0, 0), (1, 0, 6), (16, 0, 4), (19, 0, 8), (27, 0, 3), (30, 0, 9), (50, 0, 2), (51, 0, 10), (70, 0, 1), (75, 0, 11), (93, 0, 5), (96, 0, 7)]),
  (4, 1, 1, 9, [(0, 0, 0), (2, 0, 1), (11, 0, 8), (47, 0, 2), (54, 0, 7), (61, 0, 6), (62, 0, 3), (81, 0, 4), (86, 0, 5)]),
  (4, 2, 1, 6, [(0, 0, 0), (49, 0, 2), (52, 0, 4), (58, 0, 1), (65, 0, 5), (67, 0, 3)]),
  (4, 3, 1, 14, [(0, 0, 0), (6, 0, 4), (7, 0, 10), (37, 0, 1), (42, 0, 13), (60, 0, 8), (63, 0, 6), (68, 0, 9), (77, 0, 5), (78, 0, 7), (103, 0, 11), (108, 0, 3), (114, 0, 2), (119, 0, 12)]),
  (4, 4, 1, 11, [(0, 0, 0), (3, 0, 1), (10, 0, 10), (15, 0, 9), (20, 0, 2), (26, 0, 8), (31, 0, 3), (79, 0, 7), (88, 0, 4), (92, 0, 5), (97, 0, 6)]),
  (4, 5, 2, 4, [(0, 0, 0), (5, 0, 1), (8, 0, 3), (34, 0, 2), (72, 1, 3), (73, 1, 1), (100, 1, 0), (111, 1, 2)]),
  (4, 6, 2, 8, [(0, 0, 0), (12, 1, 0), (23, 0, 4), (35, 0, 1), (44, 0, 7), (48, 1, 3), (53, 1, 5), (69, 0, 2), (76, 0, 6), (83, 0, 3), (84, 0, 5), (89, 1, 4), (101, 1, 6), (110, 1, 2), (112, 1, 1), (121, 1, 7)]),
  (4, 7, 1, 13, [(0, 0, 0), (13, 0, 1), (22, 0, 12), (24, 0, 2), (33, 0, 11), (59, 0, 9), (64, 0, 4), (71, 0, 5), (74, 0, 8), (80, 0, 6), (87, 0, 7), (90, 0, 10), (99, 0, 3)]),
  (4, 8, 1, 10, [(0, 0, 0), (39, 0, 1), (40, 0, 9), (45, 0, 5), (82, 0, 6), (85, 0, 4), (105, 0, 2), (106, 0, 8), (116, 0, 7), (117, 0, 3)]),
  (4, 9, 1, 18, [(0, 0, 0), (4, 0, 15), (9, 0, 3), (17, 0, 1), (18, 0, 17), (28, 0, 13), (29, 0, 5), (36, 0, 16), (43, 0, 2), (46, 0, 11), (55, 0, 7), (56, 0, 9), (94, 0, 4), (95, 0, 14), (102, 0, 12), (109, 0, 6), (113, 0, 8), (120, 0, 10)]),
  (4, 10, 1, 15, [(0, 0, 0), (14, 0, 1), (21, 0, 14), (25, 0, 8), (32, 0, 7), (38, 0, 5), (41, 0, 10), (57, 0, 4), (66, 0, 11), (91, 0, 6), (98, 0, 9), (104, 0, 12), (107, 0, 3), (115, 0, 13), (118, 0, 2)])]
theorem tabOk11_4 : tab11_4.all (chk 11) = true := by decide +kernel
noncomputable def tab11_5 : List (Nat × Nat × Nat × Nat × List (Nat × Nat × Nat)) := [(5, 0, 1, 12, [(0, 0, 0), (1, 0, 6), (37, 0, 2), (42, 0, 10), (69, 0, 1), (76, 0, 11), (80, 0, 3), (87, 0, 9), (102, 0, 8), (109, 0, 4), (115, 0, 7), (118, 0, 5)]),
  (5, 1, 1, 11, [(0, 0, 0), (2, 0, 1), (11, 0, 10), (71, 0, 6), (74, 0, 5), (82, 0, 3), (85, 0, 8), (94, 0, 4), (95, 0, 7), (104, 0, 2), (107, 0, 9)]),
  (5, 2, 1, 10, [(0, 0, 0), (26, 0, 1), (31, 0, 9), (34, 0, 5), (48, 0, 6), (53, 0, 4), (59, 0, 3), (64, 0, 7), (91, 0, 2), (98, 0, 8)]),
  (5, 3, 1, 9, [(0, 0, 0), (6, 0, 1), (7, 0, 8), (15, 0, 6), (20, 0, 3), (35, 0, 7), (44, 0, 2), (93, 0, 4), (96, 0, 5)]),
  (5, 4, 2, 4, [(0, 0, 0), (3, 0, 1), (10, 0, 3), (23, 1, 0), (45, 1, 2), (56, 0, 2), (114, 1, 3), (119, 1, 1)]),
  (5, 5, 1, 18, [(0, 0, 0), (5, 0, 3), (8, 0, 15), (12, 0, 9), (24, 0, 14), (33, 0, 4), (39, 0, 1), (40, 0, 17), (46, 0, 12), (55, 0, 6), (57, 0, 10), (66, 0, 8), (70, 0, 2), (75, 0, 16), (81, 0, 11), (86, 0, 7), (103, 0, 5), (108, 0, 13)]),
  (5, 6, 1, 6, [(0, 0, 0), (13, 0, 1), (22, 0, 5), (36, 0, 2), (43, 0, 4), (111, 0, 3)]),
  (5, 7, 2, 8, [(0, 0, 0), (28, 0, 1), (29, 0, 7), (38, 0, 3), (41, 0, 5), (50, 1, 2), (51, 1, 6), (61, 1, 5), (62, 1, 3), (67, 1, 0), (78, 0, 4), (92, 1, 7), (97, 1, 1), (100, 1, 4), (112, 0, 6), (121, 0, 2)]),
  (5, 8, 1, 15, [(0, 0, 0), (17, 0, 1), (18, 0, 14), (25, 0, 8), (32, 0, 7), (47, 0, 12), (54, 0, 3), (58, 0, 10), (65, 0, 5), (68, 0, 6), (77, 0, 9), (79, 0, 13), (88, 0, 2), (101, 0, 11), (110, 0, 4)]),
  (5, 9, 1, 14, [(0, 0, 0), (4, 0, 8), (9, 0, 6), (14, 0, 12), (21, 0, 2), (27, 0, 4), (30, 0, 10), (49, 0, 1), (52, 0, 13), (60, 0, 9), (63, 0, 5), (89, 0, 7), (116, 0, 11), (117, 0, 3)]),
  (5, 10, 1, 13, [(0, 0, 0), (16, 0, 1), (19, 0, 12), (72, 0, 4), (73, 0, 9), (83, 0, 6), (84, 0, 7), (90, 0, 8), (99, 0, 5), (105, 0, 3), (106, 0, 10), (113, 0, 11), (120, 0, 2)])]
theorem tabOk11_5 : tab11_5.all (chk 11) = true := by decide +kernel
noncomputable def tab11_6 : List (Nat × Nat × Nat × Nat × List (Nat × Nat × Nat)) := [(6, 0, 2, 6, [(0, 0, 0), (1, 1, 0), (26, 0, 1), (31, 0, 5), (35, 1, 1), (44, 1, 5), (45, 1, 3), (57, 0, 4), (66, 0, 2), (78, 0, 3), (113, 1, 2), (120, 1, 4)]),
  (6, 2, 1, 14, [(0, 0, 0), (15, 0, 1), (20, 0, 13), (23, 0, 7), (39, 0, 2), (40, 0, 12), (61, 0, 10), (62, 0, 4), (68, 0, 8), (77, 0, 6), (90, 0, 3), (99, 0, 11), (102, 0, 5), (109, 0, 9)]),
  (6, 3, 1, 15, [(0, 0, 0), (6, 0, 1), (7, 0, 14), (24, 0, 7), (33, 0, 8), (36, 0, 2), (43, 0, 13), (50, 0, 5), (51, 0, 10), (58, 0, 11), (65, 0, 4), (83, 0, 9), (84, 0, 6), (104, 0, 3), (107, 0, 12)]),
  (6, 4, 1, 16, [(0, 0, 0), (3, 0, 1), (10, 0, 15), (12, 0, 8), (38, 0, 9), (41, 0, 7), (47, 0, 12), (54, 0, 4), (60, 0, 14), (63, 0, 2), (72, 0, 10), (73, 0, 6), (80, 0, 3), (87, 0, 13), (94, 0, 11), (95, 0, 5)]),
  (6, 5, 1, 17, [(0, 0, 0), (5, 0, 1), (8, 0, 16), (13, 0, 12), (22, 0, 5), (28, 0, 11), (29, 0, 6), (49, 0, 2), (52, 0, 15), (69, 0, 9), (76, 0, 8), (82, 0, 14), (85, 0, 3), (91, 0, 4), (98, 0, 13), (114, 0, 10), (119, 0, 7)]),
  (6, 6, 1, 7, [(0, 0, 0), (25, 0, 1), (32, 0, 6), (71, 0, 3), (74, 0, 4), (93, 0, 2), (96, 0, 5)]),
  (6, 7, 1, 8, [(0, 0, 0), (17, 0, 1), (18, 0, 7), (27, 0, 2), (30, 0, 6), (103, 0, 3), (108, 0, 5), (111, 0, 4)]),
  (6, 8, 1, 9, [(0, 0, 0), (14, 0, 3), (21, 0, 6), (37, 0, 1), (42, 0, 8), (59, 0, 7), (64, 0, 2), (112, 0, 5), (121, 0, 4)]),
  (6, 9, 1, 10, [(0, 0, 0), (4, 0, 1), (9, 0, 9), (16, 0, 8), (19, 0, 2), (48, 0, 3), (53, 0, 7), (81, 0, 6), (86, 0, 4), (100, 0, 5)])]
theorem tabOk11_6 : tab11_6.all (chk 11) = true := by decide +kernel
noncomputable def tab11_7 : List (Nat × Nat × Nat × Nat × List (Nat × Nat × Nat)) := [(7, 0, 2, 6, [(0, 0, 0), (1, 1, 0), (23, 1, 3), (36, 0, 4), (43, 0, 2), (47, 0, 1), (54, 0, 5), (71, 1, 2), (74, 1, 4), (100, 0, 3), (116, 1, 5), (117, 1, 1)]),
  (7, 1, 1, 15, [(0, 0, 0), (2, 0, 1), (11, 0, 14), (15, 0, 3), (20, 0, 12), (24, 0, 9), (33, 0, 6), (38, 0, 4), (41, 0, 11), (49, 0, 13), (52, 0, 2), (101, 0, 5), (110, 0, 10), (113, 0, 8), (120, 0, 7)]),
  (7, 2, 1, 7, [(0, 0, 0), (81, 0, 1), (86, 0, 6), (92, 0, 5), (97, 0, 2), (115, 0, 3), (118, 0, 4)]),
  (7, 3, 1, 10, [(0, 0, 0), (6, 0, 1), (7, 0, 9), (12, 0, 5), (28, 0, 6), (29, 0, 4), (59, 0, 8), (64, 0, 2), (105, 0, 3), (106, 0, 7)]),
  (7, 5, 1, 16, [(0, 0, 0), (5, 0, 1), (8, 0, 15), (27, 0, 3), (30, 0, 13), (37, 0, 2), (42, 0, 14), (48, 0, 7), (53, 0, 9), (56, 0, 8), (79, 0, 5), (88, 0, 11), (90, 0, 6), (99, 0, 10), (104, 0, 12), (107, 0, 4)]),
  (7, 6, 1, 8, [(0, 0, 0), (17, 0, 1), (18, 0, 7), (57, 0, 3), (66, 0, 5), (67, 0, 4), (114, 0, 6), (119, 0, 2)]),
  (7, 8, 1, 14, [(0, 0, 0), (16, 0, 1), (19, 0, 13), (35, 0, 12), (44, 0, 2), (46, 0, 8), (55, 0, 6), (61, 0, 11), (62, 0, 3), (80, 0, 9), (87, 0, 5), (91, 0, 10), (98, 0, 4), (111, 0, 7)]),
  (7, 9, 1, 17, [(0, 0, 0), (4, 0, 1), (9, 0, 16), (26, 0, 14), (31, 0, 3), (58, 0, 5), (65, 0, 12), (72, 0, 10), (73, 0, 7), (82, 0, 13), (85, 0, 4), (93, 0, 8), (96, 0, 9), (103, 0, 2), (108, 0, 15), (112, 0, 11), (121, 0, 6)]),
  (7, 10, 1, 9, [(0, 0, 0), (39, 0, 1), (40, 0, 8), (50, 0, 4), (51, 0, 5), (60, 0, 6), (63, 0, 3), (69, 0, 7), (76, 0, 2)])]
theorem tabOk11_7 : tab11_7.all (chk 11) = true := by decide +kernel
noncomputable def tab11_8 : List (Nat × Nat × Nat × Nat × List (Nat × Nat × Nat)) := [(8, 0, 2, 6, [(0, 0, 0), (1, 1, 0), (15, 0, 1), (20, 0, 5), (56, 0, 3), (67, 1, 3), (83, 1, 4), (84, 1, 2), (91, 1, 5), (98, 1, 1), (103, 0, 4), (108, 0, 2)]),
  (8, 1, 1, 17, [(0, 0, 0), (2, 0, 1), (11, 0, 16), (28, 0, 8), (29, 0, 9), (48, 0, 12), (53, 0, 5), (57, 0, 2), (66, 0, 15), (68, 0, 14), (77, 0, 3), (80, 0, 7), (87, 0, 10), (93, 0, 11), (96, 0, 6), (116, 0, 13), (117, 0, 4)]),
  (8, 3, 1, 16, [(0, 0, 0), (6, 0, 1), (7, 0, 15), (13, 0, 7), (22, 0, 9), (27, 0, 6), (30, 0, 10), (45, 0, 8), (61, 0, 12), (62, 0, 4), (72, 0, 3), (73, 0, 13), (101, 0, 2), (110, 0, 14), (115, 0, 5), (118, 0, 11)]),
  (8, 4, 1, 10, [(0, 0, 0), (3, 0, 1), (10, 0, 9), (34, 0, 5), (46, 0, 2), (55, 0, 8), (58, 0, 3), (65, 0, 7), (69, 0, 6), (76, 0, 4)]),
  (8, 5, 1, 15, [(0, 0, 0), (5, 0, 1), (8, 0, 14), (17, 0, 13), (18, 0, 2), (35, 0, 3), (44, 0, 12), (60, 0, 5), (63, 0, 10), (71, 0, 9), (74, 0, 6), (92, 0, 7), (97, 0, 8), (105, 0, 4), (106, 0, 11)]),
  (8, 6, 1, 9, [(0, 0, 0), (14, 0, 1), (21, 0, 8), (50, 0, 3), (51, 0, 6), (81, 0, 4), (86, 0, 5), (102, 0, 7), (109, 0, 2)]),
  (8, 7, 1, 14, [(0, 0, 0), (16, 0, 8), (19, 0, 6), (26, 0, 4), (31, 0, 10), (39, 0, 1), (40, 0, 13), (47, 0, 3), (54, 0, 11), (89, 0, 7), (104, 0, 12), (107, 0, 2), (114, 0, 5), (119, 0, 9)]),
  (8, 8, 1, 8, [(0, 0, 0), (36, 0, 1), (43, 0, 7), (49, 0, 5), (52, 0, 3), (78, 0, 4), (90, 0, 2), (99, 0, 6)]),
  (8, 10, 1, 7, [(0, 0, 0), (24, 0, 1), (33, 0, 6), (94, 0, 2), (95, 0, 5), (112, 0, 3), (121, 0, 4)])]
theorem tabOk11_8 : tab11_8.all (chk 11) = true := by decide +kernel
noncomputable def tab11_9 : List (Nat × Nat × Nat × Nat × List (Nat × Nat × Nat)) := [(9, 0, 1, 12, [(0, 0, 0), (1, 0, 6), (25, 0, 1), (32, 0, 11), (46, 0, 8), (55, 0, 4), (60, 0, 10), (63, 0, 2), (90, 0, 9), (99, 0, 3), (112, 0, 7), (121, 0, 5)]),
  (9, 1, 2, 4, [(0, 0, 0), (2, 0, 1), (11, 0, 3), (12, 0, 2), (27, 1, 3), (30, 1, 1), (34, 1, 0), (78, 1, 2)]),
  (9, 2, 1, 15, [(0, 0, 0), (13, 0, 10), (22, 0, 5), (35, 0, 3), (44, 0, 12), (50, 0, 1), (51, 0, 14), (79, 0, 2), (88, 0, 13), (94, 0, 8), (95, 0, 7), (103, 0, 11), (108, 0, 4), (116, 0, 6), (117, 0, 9)]),
  (9, 3, 1, 11, [(0, 0, 0), (6, 0, 1), (7, 0, 10), (47, 0, 9), (54, 0, 2), (70, 0, 4), (75, 0, 7), (91, 0, 8), (98, 0, 3), (113, 0, 5), (120, 0, 6)]),
  (9, 4, 1, 18, [(0, 0, 0), (3, 0, 3), (10, 0, 15), (17, 0, 2), (18, 0, 16), (39, 0, 6), (40, 0, 12), (49, 0, 1), (52, 0, 17), (59, 0, 11), (64, 0, 7), (83, 0, 10), (84, 0, 8), (93, 0, 13), (96, 0, 5), (100, 0, 9), (115, 0, 4), (118, 0, 14)]),
  (9, 5, 1, 14, [(0, 0, 0), (5, 0, 10), (8, 0, 4), (14, 0, 1), (21, 0, 13), (26, 0, 5), (31, 0, 9), (36, 0, 11), (43, 0, 3), (67, 0, 7), (80, 0, 2), (87, 0, 12), (101, 0, 6), (110, 0, 8)]),
  (9, 6, 1, 10, [(0, 0, 0), (16, 0, 1), (19, 0, 9), (38, 0, 2), (41, 0, 8), (56, 0, 5), (68, 0, 6), (77, 0, 4), (82, 0, 7), (85, 0, 3)]),
  (9, 7, 1, 6, [(0, 0, 0), (23, 0, 3), (57, 0, 4), (66, 0, 2), (105, 0, 1), (106, 0, 5)]),
  (9, 8, 1, 13, [(0, 0, 0), (24, 0, 1), (33, 0, 12), (48, 0, 8), (53, 0, 5), (72, 0, 4), (73, 0, 9), (92, 0, 3), (97, 0, 10), (102, 0, 6), (109, 0, 7), (114, 0, 2), (119, 0, 11)]),
  (9, 9, 1, 9, [(0, 0, 0), (4, 0, 1), (9, 0, 8), (61, 0, 7), (62, 0, 2), (69, 0, 5), (76, 0, 4), (104, 0, 6), (107, 0, 3)]),
  (9, 10, 2, 8, [(0, 0, 0), (15, 0, 1), (20, 0, 7), (28, 0, 6), (29, 0, 2), (37, 1, 6), (42, 1, 2), (45, 1, 0), (58, 1, 5), (65, 1, 3), (71, 0, 3), (74, 0, 5), (81, 1, 1), (86, 1, 7), (89, 0, 4), (111, 1, 4)])]
theorem tabOk11_9 : tab11_9.all (chk 11) = true := by decide +kernel
noncomputable def tab11_10 : List (Nat × Nat × Nat × Nat × List (Nat × Nat × Nat)) := [(10, 0, 2, 6, [(0, 0, 0), (1, 1, 0), (12, 1, 3), (49, 0, 4), (52, 0, 2), (68, 0, 1), (77, 0, 5), (92, 1, 4), (97, 1, 2), (104, 1, 1), (107, 1, 5), (111, 0, 3)]),
  (10, 1, 1, 10, [(0, 0, 0), (2, 0, 1), (11, 0, 9), (13, 0, 3), (22, 0, 7), (39, 0, 8), (40, 0, 2), (56, 0, 5), (112, 0, 6), (121, 0, 4)]),
  (10, 2, 1, 8, [(0, 0, 0), (36, 0, 1), (43, 0, 7), (57, 0, 5), (66, 0, 3), (72, 0, 6), (73, 0, 2), (89, 0, 4)]),
  (10, 3, 1, 17, [(0, 0, 0), (6, 0, 1), (7, 0, 16), (17, 0, 2), (18, 0, 15), (26, 0, 13), (31, 0, 4), (38, 0, 12), (41, 0, 5), (69, 0, 6), (76, 0, 11), (81, 0, 8), (86, 0, 9), (90, 0, 10), (99, 0, 7), (116, 0, 14), (117, 0, 3)]),
  (10, 4, 1, 15, [(0, 0, 0), (3, 0, 1), (10, 0, 14), (14, 0, 5), (21, 0, 10), (48, 0, 11), (53, 0, 4), (61, 0, 12), (62, 0, 3), (71, 0, 8), (74, 0, 7), (103, 0, 2), (108, 0, 13), (113, 0, 9), (120, 0, 6)]),
  (10, 7, 1, 9, [(0, 0, 0), (37, 0, 6), (42, 0, 3), (46, 0, 1), (55, 0, 8), (93, 0, 2), (96, 0, 7), (101, 0, 4), (110, 0, 5)]),
  (10, 8, 1, 7, [(0, 0, 0), (28, 0, 1), (29, 0, 6), (70, 0, 3), (75, 0, 4), (83, 0, 5), (84, 0, 2)]),
  (10, 9, 1, 16, [(0, 0, 0), (4, 0, 1), (9, 0, 15), (15, 0, 12), (20, 0, 4), (25, 0, 11), (32, 0, 5), (34, 0, 8), (50, 0, 2), (51, 0, 14), (80, 0, 10), (87, 0, 6), (105, 0, 7), (106, 0, 9), (114, 0, 3), (119, 0, 13)]),
  (10, 10, 1, 14, [(0, 0, 0), (27, 0, 1), (30, 0, 13), (35, 0, 5), (44, 0, 9), (47, 0, 6), (54, 0, 8), (59, 0, 3), (64, 0, 11), (67, 0, 7), (82, 0, 12), (85, 0, 2), (102, 0, 4), (109, 0, 10)])]
theorem tabOk11_10 : tab11_10.all (chk 11) = true := by decide +kernel
end SrMine
namespace SrMine
set_option maxRecDepth 100000
noncomputable def tab13_0 : List (Nat × Nat × Nat × Nat × List (Nat × Nat × Nat)) := [(0, 1, 2, 6, [(0, 0, 0), (2, 0, 2), (13, 0, 4), (30, 0, 1), (37, 0, 5), (53, 1, 0), (69, 1, 4), (76, 1, 2), (82, 1, 1), (89, 1, 5), (131, 1, 3), (157, 0, 3)]),
  (0, 2, 1, 19, [(0, 0, 0), (18, 0, 1), (23, 0, 18), (33, 0, 17), (34, 0, 2), (44, 0, 11), (49, 0, 8), (54, 0, 6), (65, 0, 13), (72, 0, 5), (73, 0, 14), (85, 0, 16), (86, 0, 3), (122, 0, 7), (127, 0, 12), (132, 0, 4), (143, 0, 15), (158, 0, 9), (169, 0, 10)]),
  (0, 3, 3, 3, [(0, 0, 0), (5, 0, 1), (10, 0, 2), (16, 1, 0), (25, 2, 0), (42, 1, 1), (51, 2, 2), (120, 1, 2), (129, 2, 1)]),
  (0, 4, 1, 21, [(0, 0, 0), (3, 0, 7), (12, 0, 14), (32, 0, 1), (35, 0, 20), (57, 0, 10), (62, 0, 11), (71, 0, 16), (74, 0, 5), (84, 0, 4), (87, 0, 17), (95, 0, 6), (102, 0, 15), (108, 0, 3), (115, 0, 18), (135, 0, 13), (140, 0, 8), (147, 0, 12), (154, 0, 9), (161, 0, 19), (166, 0, 2)]),
  (0, 5, 4, 4, [(0, 0, 0), (27, 2, 0), (55, 0, 1), (64, 0, 3), (66, 2, 2), (79, 0, 2), (98, 1, 0), (99, 3, 0), (111, 2, 3), (112, 2, 1), (133, 1, 2), (142, 3, 2), (150, 1, 1), (151, 3, 3), (159, 3, 1), (168, 1, 3)]),
  (0, 6, 1, 7, [(0, 0, 0), (28, 0, 1), (39, 0, 6), (67, 0, 4), (78, 0, 3), (80, 0, 2), (91, 0, 5)]),
  (0, 7, 1, 7, [(0, 0, 0), (97, 0, 1), (100, 0, 6), (110, 0, 2), (113, 0, 5), (149, 0, 4), (152, 0, 3)]),
  (0, 8, 4, 4, [(0, 0, 0), (17, 0, 1), (24, 0, 3), (31, 2, 3), (36, 2, 1), (43, 1, 0), (50, 3, 0), (70, 1, 3), (75, 3, 1), (83, 1, 2), (88, 3, 2), (92, 2, 2), (105, 0, 2), (121, 3, 3), (128, 1, 1), (144, 2, 0)]),
  (0, 9, 1, 21, [(0, 0, 0), (4, 0, 7), (11, 0, 14), (20, 0, 1), (21, 0, 20), (29, 0, 6), (38, 0, 15), (46, 0, 4), (47, 0, 17), (68, 0, 12), (77, 0, 9), (81, 0, 3), (90, 0, 18), (93, 0, 19), (104, 0, 2), (106, 0, 13), (117, 0, 8), (124, 0, 16), (125, 0, 5), (145, 0, 10), (156, 0, 11)]),
  (0, 10, 3, 3, [(0, 0, 0), (7, 0, 1), (8, 0, 2), (56, 1, 0), (63, 2, 0), (134, 1, 2), (141, 2, 1), (160, 1, 1), (167, 2, 2)]),
  (0, 11, 1, 19, [(0, 0, 0), (19, 0, 1), (22, 0, 18), (45, 0, 11), (48, 0, 8), (59, 0, 14), (60, 0, 5), (96, 0, 6), (101, 0, 13), (109, 0, 9), (114, 0, 10), (123, 0, 7), (126, 0, 12), (137, 0, 3), (138, 0, 16), (148, 0, 4), (153, 0, 15), (163, 0, 2), (164, 0, 17)]),
  (0, 12, 2, 6, [(0, 0, 0), (6, 0, 2), (9, 0, 4), (14, 1, 0), (40, 0, 3), (94, 0, 1), (103, 0, 5), (107, 1, 1), (116, 1, 5), (118, 1, 3), (146, 1, 4), (155, 1, 2)])]
theorem tabOk13_0 : tab13_0.all (chk 13) = true := by decide +kernel
noncomputable def tab13_1 : List (Nat × Nat × Nat × Nat × List (Nat × Nat × Nat)) := [(1, 0, 2, 10, [(0, 0, 0), (1, 1, 0), (33, 0, 1), (34, 0, 9), (42, 1, 2), (51, 1, 8), (57, 0, 4), (62, 0, 6), (66, 1, 5), (80, 0, 7), (91, 0, 3), (97, 1, 1), (100, 1, 9), (105, 0, 5), (124, 0, 8), (125, 0, 2), (134, 1, 4), (141, 1, 6), (148, 1, 3), (153, 1, 7)]),
  (1, 1, 1, 18, [(0, 0, 0), (2, 0, 15), (13, 0, 3), (18, 0, 1), (23, 0, 17), (55, 0, 8), (64, 0, 10), (67, 0, 5), (78, 0, 13), (92, 0, 9), (106, 0, 16), (117, 0, 2), (137, 0, 6), (138, 0, 12), (146, 0, 14), (155, 0, 4), (162, 0, 11), (165, 0, 7)]),
  (1, 2, 1, 12, [(0, 0, 0), (16, 0, 9), (25, 0, 3), (32, 0, 2), (35, 0, 10), (83, 0, 1), (88, 0, 11), (93, 0, 7), (104, 0, 5), (123, 0, 8), (126, 0, 4), (157, 0, 6)]),
  (1, 4, 1, 14, [(0, 0, 0), (3, 0, 8), (12, 0, 6), (28, 0, 1), (39, 0, 13), (68, 0, 11), (77, 0, 3), (96, 0, 4), (101, 0, 10), (107, 0, 9), (116, 0, 5), (119, 0, 12), (130, 0, 2), (131, 0, 7)]),
  (1, 5, 1, 9, [(0, 0, 0), (43, 0, 1), (50, 0, 8), (94, 0, 5), (103, 0, 4), (132, 0, 7), (143, 0, 2), (161, 0, 3), (166, 0, 6)]),
  (1, 6, 1, 13, [(0, 0, 0), (31, 0, 1), (36, 0, 12), (46, 0, 8), (47, 0, 5), (56, 0, 6), (63, 0, 7), (122, 0, 11), (127, 0, 2), (147, 0, 10), (154, 0, 3), (159, 0, 9), (168, 0, 4)]),
  (1, 7, 1, 13, [(0, 0, 0), (17, 0, 1), (24, 0, 12), (29, 0, 9), (38, 0, 4), (59, 0, 7), (60, 0, 6), (120, 0, 8), (129, 0, 5), (135, 0, 2), (140, 0, 11), (150, 0, 3), (151, 0, 10)]),
  (1, 8, 1, 9, [(0, 0, 0), (20, 0, 6), (21, 0, 3), (45, 0, 1), (48, 0, 8), (82, 0, 7), (89, 0, 2), (133, 0, 4), (142, 0, 5)]),
  (1, 9, 1, 14, [(0, 0, 0), (4, 0, 4), (11, 0, 10), (40, 0, 7), (58, 0, 8), (61, 0, 6), (69, 0, 1), (76, 0, 13), (85, 0, 2), (86, 0, 12), (108, 0, 9), (115, 0, 5), (149, 0, 3), (152, 0, 11)]),
  (1, 11, 1, 12, [(0, 0, 0), (14, 0, 6), (54, 0, 4), (65, 0, 8), (84, 0, 1), (87, 0, 11), (98, 0, 5), (99, 0, 7), (145, 0, 10), (156, 0, 2), (160, 0, 9), (167, 0, 3)]),
  (1, 12, 1, 18, [(0, 0, 0), (6, 0, 15), (9, 0, 3), (15, 0, 1), (26, 0, 17), (30, 0, 16), (37, 0, 2), (44, 0, 6), (49, 0, 12), (71, 0, 10), (74, 0, 8), (79, 0, 9), (110, 0, 11), (113, 0, 7), (121, 0, 4), (128, 0, 14), (163, 0, 5), (164, 0, 13)])]
theorem tabOk13_1 : tab13_1.all (chk 13) = true := by decide +kernel
noncomputable def tab13_2 : List (Nat × Nat × Nat × Nat × List (Nat × Nat × Nat)) := [(2, 0, 1, 10, [(0, 0, 0), (1, 0, 5), (18, 0, 6), (23, 0, 4), (32, 0, 1), (35, 0, 9), (145, 0, 3), (156, 0, 7), (163, 0, 8), (164, 0, 2)]),
  (2, 1, 1, 8, [(0, 0, 0), (2, 0, 1), (13, 0, 7), (16, 0, 6), (25, 0, 2), (27, 0, 4), (108, 0, 5), (115, 0, 3)]),
  (2, 2, 1, 15, [(0, 0, 0), (28, 0, 9), (39, 0, 6), (43, 0, 1), (50, 0, 14), (56, 0, 2), (63, 0, 13), (82, 0, 12), (89, 0, 3), (111, 0, 11), (112, 0, 4), (148, 0, 7), (153, 0, 8), (162, 0, 10), (165, 0, 5)]),
  (2, 3, 1, 18, [(0, 0, 0), (5, 0, 10), (10, 0, 8), (46, 0, 6), (47, 0, 12), (59, 0, 1), (60, 0, 17), (85, 0, 11), (86, 0, 7), (95, 0, 5), (102, 0, 13), (121, 0, 16), (128, 0, 2), (134, 0, 15), (141, 0, 3), (146, 0, 14), (155, 0, 4), (157, 0, 9)]),
  (2, 4, 1, 17, [(0, 0, 0), (3, 0, 1), (12, 0, 16), (31, 0, 13), (36, 0, 4), (69, 0, 11), (76, 0, 6), (98, 0, 5), (99, 0, 12), (110, 0, 9), (113, 0, 8), (124, 0, 10), (125, 0, 7), (137, 0, 2), (138, 0, 15), (158, 0, 3), (169, 0, 14)]),
  (2, 5, 1, 12, [(0, 0, 0), (29, 0, 1), (38, 0, 11), (45, 0, 3), (48, 0, 9), (58, 0, 4), (61, 0, 8), (72, 0, 10), (73, 0, 2), (84, 0, 5), (87, 0, 7), (105, 0, 6)]),
  (2, 6, 2, 8, [(0, 0, 0), (17, 0, 1), (24, 0, 7), (40, 0, 4), (53, 1, 0), (79, 1, 4), (97, 0, 2), (100, 0, 6), (106, 0, 5), (117, 0, 3), (123, 1, 1), (126, 1, 7), (136, 1, 5), (139, 1, 3), (161, 1, 2), (166, 1, 6)]),
  (2, 7, 2, 8, [(0, 0, 0), (20, 1, 6), (21, 1, 2), (41, 0, 1), (52, 0, 7), (54, 0, 5), (65, 0, 3), (71, 1, 3), (74, 1, 5), (80, 0, 2), (91, 0, 6), (92, 1, 0), (118, 1, 4), (131, 0, 4), (159, 1, 7), (168, 1, 1)]),
  (2, 8, 1, 12, [(0, 0, 0), (66, 0, 6), (93, 0, 1), (104, 0, 11), (109, 0, 10), (114, 0, 2), (119, 0, 8), (130, 0, 4), (132, 0, 3), (143, 0, 9), (147, 0, 5), (154, 0, 7)]),
  (2, 9, 1, 17, [(0, 0, 0), (4, 0, 1), (11, 0, 16), (19, 0, 14), (22, 0, 3), (44, 0, 15), (49, 0, 2), (57, 0, 7), (62, 0, 10), (67, 0, 9), (78, 0, 8), (83, 0, 12), (88, 0, 5), (107, 0, 6), (116, 0, 11), (150, 0, 13), (151, 0, 4)]),
  (2, 10, 1, 18, [(0, 0, 0), (7, 0, 16), (8, 0, 2), (14, 0, 9), (30, 0, 8), (37, 0, 10), (42, 0, 3), (51, 0, 15), (55, 0, 14), (64, 0, 4), (81, 0, 1), (90, 0, 17), (96, 0, 13), (101, 0, 5), (122, 0, 11), (127, 0, 7), (135, 0, 12), (140, 0, 6)]),
  (2, 11, 1, 15, [(0, 0, 0), (15, 0, 10), (26, 0, 5), (33, 0, 1), (34, 0, 14), (70, 0, 7), (75, 0, 8), (94, 0, 9), (103, 0, 6), (120, 0, 4), (129, 0, 11), (133, 0, 2), (142, 0, 13), (149, 0, 3), (152, 0, 12)]),
  (2, 12, 1, 8, [(0, 0, 0), (6, 0, 1), (9, 0, 7), (68, 0, 5), (77, 0, 3), (144, 0, 4), (160, 0, 2), (167, 0, 6)])]
theorem tabOk13_2 : tab13_2.all (chk 13) = true := by decide +kernel
noncomputable def tab13_3 : List (Nat × Nat × Nat × Nat × List (Nat × Nat × Nat)) := [(3, 0, 2, 10, [(0, 0, 0), (1, 0, 5), (16, 0, 1), (25, 0, 9), (28, 1, 1), (39, 1, 9), (46, 0, 4), (47, 0, 6), (72, 1, 3), (73, 1, 7), (79, 1, 0), (92, 1, 5), (109, 1, 4), (114, 1, 6), (135, 0, 2), (140, 0, 8), (149, 1, 8), (152, 1, 2), (160, 0, 7), (167, 0, 3)]),
  (3, 1, 1, 18, [(0, 0, 0), (2, 0, 3), (13, 0, 15), (58, 0, 1), (61, 0, 17), (80, 0, 7), (91, 0, 11), (93, 0, 8), (104, 0, 10), (107, 0, 16), (116, 0, 2), (122, 0, 5), (127, 0, 13), (133, 0, 4), (142, 0, 14), (144, 0, 9), (163, 0, 12), (164, 0, 6)]),
  (3, 2, 1, 12, [(0, 0, 0), (31, 0, 1), (36, 0, 11), (45, 0, 8), (48, 0, 4), (53, 0, 6), (71, 0, 2), (74, 0, 10), (120, 0, 9), (129, 0, 3), (145, 0, 7), (156, 0, 5)]),
  (3, 4, 1, 14, [(0, 0, 0), (3, 0, 8), (12, 0, 6), (41, 0, 12), (52, 0, 2), (67, 0, 1), (78, 0, 13), (81, 0, 11), (90, 0, 3), (94, 0, 9), (103, 0, 5), (148, 0, 4), (153, 0, 10), (157, 0, 7)]),
  (3, 5, 1, 9, [(0, 0, 0), (17, 0, 1), (24, 0, 8), (57, 0, 3), (62, 0, 6), (146, 0, 5), (155, 0, 4), (158, 0, 7), (169, 0, 2)]),
  (3, 6, 1, 13, [(0, 0, 0), (20, 0, 1), (21, 0, 12), (44, 0, 3), (49, 0, 10), (55, 0, 6), (64, 0, 7), (70, 0, 5), (75, 0, 8), (108, 0, 11), (115, 0, 2), (134, 0, 4), (141, 0, 9)]),
  (3, 7, 1, 13, [(0, 0, 0), (42, 0, 1), (51, 0, 12), (68, 0, 6), (77, 0, 7), (111, 0, 2), (112, 0, 11), (121, 0, 5), (128, 0, 8), (137, 0, 9), (138, 0, 4), (161, 0, 10), (166, 0, 3)]),
  (3, 8, 1, 9, [(0, 0, 0), (19, 0, 1), (22, 0, 8), (30, 0, 7), (37, 0, 2), (124, 0, 6), (125, 0, 3), (159, 0, 4), (168, 0, 5)]),
  (3, 9, 1, 14, [(0, 0, 0), (4, 0, 4), (11, 0, 10), (14, 0, 7), (33, 0, 2), (34, 0, 12), (82, 0, 1), (89, 0, 13), (95, 0, 9), (102, 0, 5), (110, 0, 3), (113, 0, 11), (136, 0, 8), (139, 0, 6)]),
  (3, 11, 1, 12, [(0, 0, 0), (32, 0, 1), (35, 0, 11), (56, 0, 9), (63, 0, 3), (106, 0, 10), (117, 0, 2), (118, 0, 6), (132, 0, 4), (143, 0, 8), (150, 0, 5), (151, 0, 7)]),
  (3, 12, 1, 18, [(0, 0, 0), (6, 0, 3), (9, 0, 15), (18, 0, 12), (23, 0, 6), (27, 0, 9), (43, 0, 8), (50, 0, 10), (59, 0, 1), (60, 0, 17), (69, 0, 14), (76, 0, 4), (84, 0, 2), (87, 0, 16), (97, 0, 13), (100, 0, 5), (119, 0, 11), (130, 0, 7)])]
theorem tabOk13_3 : tab13_3.all (chk 13) = true := by decide +kernel
noncomputable def tab13_4 : List (Nat × Nat × Nat × Nat × List (Nat × Nat × Nat)) := [(4, 0, 2, 4, [(0, 0, 0), (1, 0, 2), (31, 0, 1), (36, 0, 3), (40, 1, 0), (131, 1, 2), (150, 1, 1), (151, 1, 3)]),
  (4, 1, 1, 19, [(0, 0, 0), (2, 0, 1), (13, 0, 18), (29, 0, 8), (38, 0, 11), (41, 0, 6), (52, 0, 13), (57, 0, 2), (62, 0, 17), (70, 0, 15), (75, 0, 4), (110, 0, 10), (113, 0, 9), (123, 0, 14), (126, 0, 5), (132, 0, 12), (143, 0, 7), (160, 0, 3), (167, 0, 16)]),
  (4, 3, 1, 16, [(0, 0, 0), (5, 0, 1), (10, 0, 15), (44, 0, 13), (49, 0, 3), (82, 0, 7), (89, 0, 9), (98, 0, 4), (99, 0, 12), (106, 0, 10), (117, 0, 6), (119, 0, 11), (130, 0, 5), (135, 0, 2), (140, 0, 14), (144, 0, 8)]),
  (4, 4, 1, 15, [(0, 0, 0), (3, 0, 1), (12, 0, 14), (17, 0, 13), (24, 0, 2), (42, 0, 9), (51, 0, 6), (85, 0, 7), (86, 0, 8), (133, 0, 5), (142, 0, 10), (145, 0, 3), (156, 0, 12), (162, 0, 4), (165, 0, 11)]),
  (4, 5, 1, 10, [(0, 0, 0), (20, 0, 1), (21, 0, 9), (97, 0, 3), (100, 0, 7), (109, 0, 2), (114, 0, 8), (122, 0, 4), (127, 0, 6), (157, 0, 5)]),
  (4, 6, 1, 14, [(0, 0, 0), (30, 0, 1), (37, 0, 13), (84, 0, 12), (87, 0, 2), (92, 0, 7), (107, 0, 6), (116, 0, 8), (120, 0, 11), (129, 0, 3), (148, 0, 10), (153, 0, 4), (158, 0, 9), (169, 0, 5)]),
  (4, 7, 1, 14, [(0, 0, 0), (19, 0, 1), (22, 0, 13), (33, 0, 2), (34, 0, 12), (56, 0, 5), (63, 0, 9), (69, 0, 4), (76, 0, 10), (79, 0, 7), (93, 0, 8), (104, 0, 6), (146, 0, 11), (155, 0, 3)]),
  (4, 8, 1, 10, [(0, 0, 0), (14, 0, 5), (59, 0, 8), (60, 0, 2), (72, 0, 4), (73, 0, 6), (80, 0, 1), (91, 0, 9), (161, 0, 3), (166, 0, 7)]),
  (4, 9, 1, 15, [(0, 0, 0), (4, 0, 1), (11, 0, 14), (15, 0, 4), (26, 0, 11), (32, 0, 12), (35, 0, 3), (43, 0, 5), (50, 0, 10), (96, 0, 8), (101, 0, 7), (134, 0, 9), (141, 0, 6), (159, 0, 2), (168, 0, 13)]),
  (4, 10, 1, 16, [(0, 0, 0), (7, 0, 1), (8, 0, 15), (27, 0, 8), (46, 0, 2), (47, 0, 14), (58, 0, 5), (61, 0, 11), (71, 0, 6), (74, 0, 10), (83, 0, 12), (88, 0, 4), (94, 0, 9), (103, 0, 7), (137, 0, 13), (138, 0, 3)]),
  (4, 12, 1, 19, [(0, 0, 0), (6, 0, 1), (9, 0, 18), (16, 0, 3), (25, 0, 16), (45, 0, 12), (48, 0, 7), (54, 0, 5), (65, 0, 14), (67, 0, 9), (78, 0, 10), (111, 0, 4), (112, 0, 15), (124, 0, 17), (125, 0, 2), (136, 0, 6), (139, 0, 13), (147, 0, 11), (154, 0, 8)])]
theorem tabOk13_4 : tab13_4.all (chk 13) = true := by decide +kernel
noncomputable def tab13_5 : List (Nat × Nat × Nat × Nat × List (Nat × Nat × Nat)) := [(5, 0, 1, 10, [(0, 0, 0), (1, 0, 5), (44, 0, 6), (49, 0, 4), (84, 0, 1), (87, 0, 9), (93, 0, 3), (104, 0, 7), (137, 0, 8), (138, 0, 2)]),
  (5, 1, 1, 8, [(0, 0, 0), (2, 0, 1), (13, 0, 7), (42, 0, 6), (51, 0, 2), (79, 0, 4), (147, 0, 5), (154, 0, 3)]),
  (5, 2, 1, 15, [(0, 0, 0), (69, 0, 6), (76, 0, 9), (80, 0, 12), (91, 0, 3), (96, 0, 1), (101, 0, 14), (121, 0, 13), (128, 0, 2), (136, 0, 10), (139, 0, 5), (150, 0, 8), (151, 0, 7), (160, 0, 11), (167, 0, 4)]),
  (5, 3, 1, 18, [(0, 0, 0), (5, 0, 14), (10, 0, 4), (17, 0, 8), (24, 0, 10), (56, 0, 3), (63, 0, 15), (72, 0, 1), (73, 0, 17), (94, 0, 16), (103, 0, 2), (108, 0, 7), (115, 0, 11), (124, 0, 12), (125, 0, 6), (131, 0, 9), (163, 0, 5), (164, 0, 13)]),
  (5, 4, 1, 17, [(0, 0, 0), (3, 0, 1), (12, 0, 16), (20, 0, 10), (21, 0, 7), (30, 0, 11), (37, 0, 6), (59, 0, 2), (60, 0, 15), (83, 0, 13), (88, 0, 4), (111, 0, 5), (112, 0, 12), (132, 0, 3), (143, 0, 14), (149, 0, 9), (152, 0, 8)]),
  (5, 5, 1, 12, [(0, 0, 0), (33, 0, 2), (34, 0, 10), (71, 0, 1), (74, 0, 11), (81, 0, 5), (90, 0, 7), (123, 0, 3), (126, 0, 9), (144, 0, 6), (162, 0, 8), (165, 0, 4)]),
  (5, 6, 2, 8, [(0, 0, 0), (19, 0, 1), (22, 0, 7), (43, 1, 5), (50, 1, 3), (58, 0, 5), (61, 0, 3), (66, 1, 0), (110, 0, 2), (113, 0, 6), (118, 0, 4), (135, 1, 6), (140, 1, 2), (145, 1, 1), (156, 1, 7), (157, 1, 4)]),
  (5, 7, 2, 8, [(0, 0, 0), (14, 1, 0), (32, 0, 1), (35, 0, 7), (46, 1, 6), (47, 1, 2), (53, 0, 4), (67, 0, 6), (78, 0, 2), (105, 1, 4), (119, 1, 7), (130, 1, 1), (133, 0, 5), (142, 0, 3), (158, 1, 3), (169, 1, 5)]),
  (5, 8, 1, 12, [(0, 0, 0), (15, 0, 4), (26, 0, 8), (27, 0, 6), (54, 0, 3), (65, 0, 9), (95, 0, 1), (102, 0, 11), (106, 0, 5), (117, 0, 7), (148, 0, 2), (153, 0, 10)]),
  (5, 9, 1, 17, [(0, 0, 0), (4, 0, 1), (11, 0, 16), (28, 0, 9), (39, 0, 8), (45, 0, 14), (48, 0, 3), (70, 0, 12), (75, 0, 5), (98, 0, 13), (99, 0, 4), (122, 0, 15), (127, 0, 2), (146, 0, 6), (155, 0, 11), (161, 0, 7), (166, 0, 10)]),
  (5, 10, 1, 18, [(0, 0, 0), (7, 0, 8), (8, 0, 10), (18, 0, 1), (23, 0, 17), (40, 0, 9), (57, 0, 6), (62, 0, 12), (68, 0, 5), (77, 0, 13), (82, 0, 4), (89, 0, 14), (109, 0, 11), (114, 0, 7), (120, 0, 15), (129, 0, 3), (159, 0, 16), (168, 0, 2)]),
  (5, 11, 1, 15, [(0, 0, 0), (16, 0, 1), (25, 0, 14), (31, 0, 13), (36, 0, 2), (41, 0, 10), (52, 0, 5), (55, 0, 8), (64, 0, 7), (85, 0, 4), (86, 0, 11), (97, 0, 12), (100, 0, 3), (107, 0, 6), (116, 0, 9)]),
  (5, 12, 1, 8, [(0, 0, 0), (6, 0, 1), (9, 0, 7), (29, 0, 5), (38, 0, 3), (92, 0, 4), (134, 0, 2), (141, 0, 6)])]
theorem tabOk13_5 : tab13_5.all (chk 13) = true := by decide +kernel
noncomputable def tab13_6 : List (Nat × Nat × Nat × Nat × List (Nat × Nat × Nat)) := [(6, 0, 1, 10, [(0, 0, 0), (1, 0, 5), (59, 0, 8), (60, 0, 2), (71, 0, 1), (74, 0, 9), (106, 0, 3), (117, 0, 7), (122, 0, 6), (127, 0, 4)]),
  (6, 1, 1, 8, [(0, 0, 0), (2, 0, 1), (13, 0, 7), (66, 0, 4), (95, 0, 5), (102, 0, 3), (120, 0, 6), (129, 0, 2)]),
  (6, 2, 1, 15, [(0, 0, 0), (17, 0, 1), (24, 0, 14), (30, 0, 12), (37, 0, 3), (58, 0, 10), (61, 0, 5), (67, 0, 9), (78, 0, 6), (98, 0, 11), (99, 0, 4), (109, 0, 7), (114, 0, 8), (134, 0, 2), (141, 0, 13)]),
  (6, 3, 1, 18, [(0, 0, 0), (5, 0, 14), (10, 0, 4), (20, 0, 12), (21, 0, 6), (33, 0, 1), (34, 0, 17), (43, 0, 8), (50, 0, 10), (53, 0, 9), (107, 0, 16), (116, 0, 2), (137, 0, 5), (138, 0, 13), (147, 0, 7), (154, 0, 11), (160, 0, 3), (167, 0, 15)]),
  (6, 4, 1, 17, [(0, 0, 0), (3, 0, 1), (12, 0, 16), (46, 0, 10), (47, 0, 7), (54, 0, 3), (65, 0, 14), (70, 0, 13), (75, 0, 4), (82, 0, 11), (89, 0, 6), (97, 0, 9), (100, 0, 8), (150, 0, 5), (151, 0, 12), (163, 0, 2), (164, 0, 15)]),
  (6, 5, 1, 12, [(0, 0, 0), (19, 0, 3), (22, 0, 9), (32, 0, 1), (35, 0, 11), (68, 0, 5), (77, 0, 7), (85, 0, 2), (86, 0, 10), (92, 0, 6), (136, 0, 8), (139, 0, 4)]),
  (6, 6, 2, 8, [(0, 0, 0), (14, 0, 4), (27, 1, 0), (45, 0, 1), (48, 0, 7), (57, 1, 6), (62, 1, 2), (93, 1, 1), (104, 1, 7), (121, 1, 5), (128, 1, 3), (131, 1, 4), (149, 0, 2), (152, 0, 6), (162, 0, 5), (165, 0, 3)]),
  (6, 7, 2, 8, [(0, 0, 0), (15, 0, 1), (26, 0, 7), (28, 0, 2), (39, 0, 6), (40, 1, 0), (55, 1, 3), (64, 1, 5), (84, 1, 7), (87, 1, 1), (124, 1, 2), (125, 1, 6), (132, 0, 5), (143, 0, 3), (144, 1, 4), (157, 0, 4)]),
  (6, 8, 1, 12, [(0, 0, 0), (41, 0, 4), (52, 0, 8), (79, 0, 6), (96, 0, 2), (101, 0, 10), (108, 0, 1), (115, 0, 11), (145, 0, 5), (156, 0, 7), (158, 0, 3), (169, 0, 9)]),
  (6, 9, 1, 17, [(0, 0, 0), (4, 0, 1), (11, 0, 16), (18, 0, 15), (23, 0, 2), (31, 0, 12), (36, 0, 5), (80, 0, 9), (91, 0, 8), (94, 0, 6), (103, 0, 11), (111, 0, 13), (112, 0, 4), (123, 0, 14), (126, 0, 3), (135, 0, 7), (140, 0, 10)]),
  (6, 10, 1, 18, [(0, 0, 0), (7, 0, 16), (8, 0, 2), (16, 0, 3), (25, 0, 15), (29, 0, 1), (38, 0, 17), (44, 0, 11), (49, 0, 7), (69, 0, 8), (76, 0, 10), (118, 0, 9), (133, 0, 14), (142, 0, 4), (148, 0, 13), (153, 0, 5), (161, 0, 12), (166, 0, 6)]),
  (6, 11, 1, 15, [(0, 0, 0), (42, 0, 1), (51, 0, 14), (72, 0, 4), (73, 0, 11), (83, 0, 13), (88, 0, 2), (110, 0, 12), (113, 0, 3), (119, 0, 10), (130, 0, 5), (146, 0, 6), (155, 0, 9), (159, 0, 8), (168, 0, 7)]),
  (6, 12, 1, 8, [(0, 0, 0), (6, 0, 1), (9, 0, 7), (56, 0, 2), (63, 0, 6), (81, 0, 5), (90, 0, 3), (105, 0, 4)])]
theorem tabOk13_6 : tab13_6.all (chk 13) = true := by decide +kernel
noncomputable def tab13_7 : List (Nat × Nat × Nat × Nat × List (Nat × Nat × Nat)) := [(7, 0, 3, 6, [(0, 0, 0), (1, 0, 3), (30, 0, 1), (37, 0, 5), (43, 1, 0), (50, 2, 0), (54, 2, 4), (65, 1, 2), (68, 2, 1), (77, 1, 5), (108, 2, 5), (115, 1, 1), (123, 1, 4), (126, 2, 2), (133, 0, 2), (142, 0, 4), (146, 1, 3), (155, 2, 3)]),
  (7, 1, 1, 16, [(0, 0, 0), (2, 0, 12), (13, 0, 4), (17, 0, 1), (24, 0, 15), (33, 0, 5), (34, 0, 11), (46, 0, 13), (47, 0, 3), (84, 0, 10), (87, 0, 6), (96, 0, 7), (101, 0, 9), (111, 0, 14), (112, 0, 2), (118, 0, 8)]),
  (7, 2, 1, 10, [(0, 0, 0), (20, 0, 1), (21, 0, 9), (57, 0, 7), (62, 0, 3), (79, 0, 5), (94, 0, 2), (103, 0, 8), (119, 0, 6), (130, 0, 4)]),
  (7, 3, 1, 13, [(0, 0, 0), (5, 0, 1), (10, 0, 12), (32, 0, 7), (35, 0, 6), (45, 0, 11), (48, 0, 2), (55, 0, 9), (64, 0, 4), (80, 0, 3), (91, 0, 10), (110, 0, 8), (113, 0, 5)]),
  (7, 4, 2, 6, [(0, 0, 0), (3, 0, 1), (12, 0, 5), (19, 1, 2), (22, 1, 4), (27, 0, 3), (40, 1, 0), (105, 1, 3), (122, 1, 1), (127, 1, 5), (160, 0, 2), (167, 0, 4)]),
  (7, 5, 1, 20, [(0, 0, 0), (14, 0, 10), (28, 0, 4), (39, 0, 16), (41, 0, 1), (52, 0, 19), (69, 0, 8), (76, 0, 12), (83, 0, 11), (88, 0, 9), (106, 0, 15), (117, 0, 5), (120, 0, 7), (129, 0, 13), (134, 0, 18), (141, 0, 2), (147, 0, 14), (154, 0, 6), (163, 0, 3), (164, 0, 17)]),
  (7, 6, 1, 11, [(0, 0, 0), (15, 0, 1), (26, 0, 10), (72, 0, 4), (73, 0, 7), (81, 0, 3), (90, 0, 8), (137, 0, 2), (138, 0, 9), (150, 0, 5), (151, 0, 6)]),
  (7, 7, 1, 11, [(0, 0, 0), (31, 0, 1), (36, 0, 10), (44, 0, 7), (49, 0, 4), (95, 0, 6), (102, 0, 5), (109, 0, 3), (114, 0, 8), (162, 0, 9), (165, 0, 2)]),
  (7, 8, 1, 20, [(0, 0, 0), (18, 0, 1), (23, 0, 19), (29, 0, 18), (38, 0, 2), (42, 0, 6), (51, 0, 14), (56, 0, 11), (63, 0, 9), (71, 0, 5), (74, 0, 15), (98, 0, 3), (99, 0, 17), (107, 0, 16), (116, 0, 4), (136, 0, 7), (139, 0, 13), (149, 0, 8), (152, 0, 12), (157, 0, 10)]),
  (7, 9, 2, 6, [(0, 0, 0), (4, 0, 1), (11, 0, 5), (16, 0, 4), (25, 0, 2), (59, 1, 4), (60, 1, 2), (66, 1, 0), (131, 1, 3), (144, 0, 3), (158, 1, 5), (169, 1, 1)]),
  (7, 10, 1, 13, [(0, 0, 0), (7, 0, 1), (8, 0, 12), (67, 0, 8), (78, 0, 5), (97, 0, 10), (100, 0, 3), (121, 0, 9), (128, 0, 4), (132, 0, 11), (143, 0, 2), (145, 0, 7), (156, 0, 6)]),
  (7, 11, 1, 10, [(0, 0, 0), (58, 0, 2), (61, 0, 8), (82, 0, 6), (89, 0, 4), (92, 0, 5), (124, 0, 1), (125, 0, 9), (161, 0, 7), (166, 0, 3)]),
  (7, 12, 1, 16, [(0, 0, 0), (6, 0, 12), (9, 0, 4), (53, 0, 8), (70, 0, 14), (75, 0, 2), (85, 0, 1), (86, 0, 15), (93, 0, 6), (104, 0, 10), (135, 0, 5), (140, 0, 11), (148, 0, 13), (153, 0, 3), (159, 0, 9), (168, 0, 7)])]
theorem tabOk13_7 : tab13_7.all (chk 13) = true := by decide +kernel
noncomputable def tab13_8 : List (Nat × Nat × Nat × Nat × List (Nat × Nat × Nat)) := [(8, 0, 3, 6, [(0, 0, 0), (1, 0, 3), (17, 1, 0), (24, 2, 0), (45, 1, 4), (48, 2, 2), (69, 0, 1), (76, 0, 5), (81, 2, 1), (90, 1, 5), (95, 2, 5), (102, 1, 1), (107, 1, 3), (116, 2, 3), (132, 2, 4), (143, 1, 2), (159, 0, 2), (168, 0, 4)]),
  (8, 1, 1, 16, [(0, 0, 0), (2, 0, 12), (13, 0, 4), (20, 0, 1), (21, 0, 15), (32, 0, 2), (35, 0, 14), (40, 0, 8), (72, 0, 9), (73, 0, 7), (98, 0, 6), (99, 0, 10), (121, 0, 5), (128, 0, 11), (148, 0, 3), (153, 0, 13)]),
  (8, 2, 1, 10, [(0, 0, 0), (27, 0, 5), (41, 0, 6), (52, 0, 4), (124, 0, 1), (125, 0, 9), (135, 0, 7), (140, 0, 3), (146, 0, 2), (155, 0, 8)]),
  (8, 3, 1, 13, [(0, 0, 0), (5, 0, 1), (10, 0, 12), (19, 0, 11), (22, 0, 2), (28, 0, 3), (39, 0, 10), (71, 0, 7), (74, 0, 6), (97, 0, 8), (100, 0, 5), (133, 0, 9), (142, 0, 4)]),
  (8, 4, 2, 6, [(0, 0, 0), (3, 0, 1), (12, 0, 5), (14, 1, 0), (44, 1, 1), (49, 1, 5), (56, 0, 2), (63, 0, 4), (66, 0, 3), (92, 1, 3), (123, 1, 2), (126, 1, 4)]),
  (8, 5, 1, 20, [(0, 0, 0), (15, 0, 1), (26, 0, 19), (31, 0, 11), (36, 0, 9), (42, 0, 7), (51, 0, 13), (59, 0, 3), (60, 0, 17), (67, 0, 4), (78, 0, 16), (82, 0, 8), (89, 0, 12), (93, 0, 15), (104, 0, 5), (108, 0, 14), (115, 0, 6), (118, 0, 10), (160, 0, 18), (167, 0, 2)]),
  (8, 6, 1, 11, [(0, 0, 0), (29, 0, 1), (38, 0, 10), (85, 0, 5), (86, 0, 6), (111, 0, 9), (112, 0, 2), (119, 0, 4), (130, 0, 7), (163, 0, 8), (164, 0, 3)]),
  (8, 7, 1, 11, [(0, 0, 0), (18, 0, 1), (23, 0, 10), (58, 0, 6), (61, 0, 5), (70, 0, 8), (75, 0, 3), (96, 0, 2), (101, 0, 9), (147, 0, 4), (154, 0, 7)]),
  (8, 8, 1, 20, [(0, 0, 0), (16, 0, 6), (25, 0, 14), (53, 0, 10), (68, 0, 18), (77, 0, 2), (84, 0, 5), (87, 0, 15), (94, 0, 16), (103, 0, 4), (110, 0, 8), (113, 0, 12), (122, 0, 1), (127, 0, 19), (134, 0, 11), (141, 0, 9), (150, 0, 3), (151, 0, 17), (162, 0, 7), (165, 0, 13)]),
  (8, 9, 2, 6, [(0, 0, 0), (4, 0, 1), (11, 0, 5), (54, 1, 5), (65, 1, 1), (79, 1, 0), (105, 0, 3), (120, 0, 4), (129, 0, 2), (137, 1, 4), (138, 1, 2), (157, 1, 3)]),
  (8, 10, 1, 13, [(0, 0, 0), (7, 0, 1), (8, 0, 12), (43, 0, 9), (50, 0, 4), (80, 0, 8), (91, 0, 5), (106, 0, 7), (117, 0, 6), (149, 0, 10), (152, 0, 3), (158, 0, 11), (169, 0, 2)]),
  (8, 11, 1, 10, [(0, 0, 0), (30, 0, 6), (37, 0, 4), (46, 0, 1), (47, 0, 9), (57, 0, 7), (62, 0, 3), (136, 0, 2), (139, 0, 8), (144, 0, 5)]),
  (8, 12, 1, 16, [(0, 0, 0), (6, 0, 12), (9, 0, 4), (33, 0, 1), (34, 0, 15), (55, 0, 9), (64, 0, 7), (83, 0, 14), (88, 0, 2), (109, 0, 13), (114, 0, 3), (131, 0, 8), (145, 0, 6), (156, 0, 10), (161, 0, 5), (166, 0, 11)])]
theorem tabOk13_8 : tab13_8.all (chk 13) = true := by decide +kernel
noncomputable def tab13_9 : List (Nat × Nat × Nat × Nat × List (Nat × Nat × Nat)) := [(9, 0, 2, 10, [(0, 0, 0), (1, 0, 5), (20, 0, 2), (21, 0, 8), (27, 1, 0), (56, 0, 1), (63, 0, 9), (67, 1, 3), (78, 1, 7), (85, 1, 9), (86, 1, 1), (96, 1, 2), (101, 1, 8), (110, 1, 4), (113, 1, 6), (120, 0, 3), (129, 0, 7), (144, 1, 5), (161, 0, 6), (166, 0, 4)]),
  (9, 1, 1, 18, [(0, 0, 0), (2, 0, 3), (13, 0, 15), (28, 0, 1), (39, 0, 17), (44, 0, 11), (49, 0, 7), (59, 0, 12), (60, 0, 6), (94, 0, 10), (103, 0, 8), (105, 0, 9), (136, 0, 13), (139, 0, 5), (145, 0, 14), (156, 0, 4), (159, 0, 16), (168, 0, 2)]),
  (9, 2, 1, 12, [(0, 0, 0), (19, 0, 8), (22, 0, 4), (42, 0, 9), (51, 0, 3), (70, 0, 1), (75, 0, 11), (84, 0, 2), (87, 0, 10), (106, 0, 7), (117, 0, 5), (131, 0, 6)]),
  (9, 4, 1, 14, [(0, 0, 0), (3, 0, 2), (12, 0, 12), (15, 0, 10), (26, 0, 4), (29, 0, 1), (38, 0, 13), (53, 0, 7), (80, 0, 9), (91, 0, 5), (109, 0, 8), (114, 0, 6), (146, 0, 11), (155, 0, 3)]),
  (9, 5, 1, 9, [(0, 0, 0), (54, 0, 1), (65, 0, 8), (107, 0, 2), (116, 0, 7), (121, 0, 4), (128, 0, 5), (135, 0, 3), (140, 0, 6)]),
  (9, 6, 1, 13, [(0, 0, 0), (18, 0, 1), (23, 0, 12), (83, 0, 6), (88, 0, 7), (95, 0, 8), (102, 0, 5), (124, 0, 9), (125, 0, 4), (133, 0, 2), (142, 0, 11), (160, 0, 10), (167, 0, 3)]),
  (9, 7, 1, 13, [(0, 0, 0), (16, 0, 1), (25, 0, 12), (43, 0, 5), (50, 0, 8), (57, 0, 10), (62, 0, 3), (81, 0, 6), (90, 0, 7), (98, 0, 2), (99, 0, 11), (163, 0, 9), (164, 0, 4)]),
  (9, 8, 1, 9, [(0, 0, 0), (46, 0, 6), (47, 0, 3), (55, 0, 1), (64, 0, 8), (69, 0, 4), (76, 0, 5), (123, 0, 7), (126, 0, 2)]),
  (9, 9, 1, 14, [(0, 0, 0), (4, 0, 4), (11, 0, 10), (30, 0, 1), (37, 0, 13), (72, 0, 2), (73, 0, 12), (97, 0, 3), (100, 0, 11), (118, 0, 7), (147, 0, 9), (154, 0, 5), (162, 0, 8), (165, 0, 6)]),
  (9, 11, 1, 12, [(0, 0, 0), (40, 0, 6), (71, 0, 1), (74, 0, 11), (93, 0, 10), (104, 0, 2), (111, 0, 5), (112, 0, 7), (134, 0, 9), (141, 0, 3), (158, 0, 4), (169, 0, 8)]),
  (9, 12, 1, 18, [(0, 0, 0), (6, 0, 15), (9, 0, 3), (17, 0, 4), (24, 0, 14), (32, 0, 10), (35, 0, 8), (41, 0, 1), (52, 0, 17), (66, 0, 9), (82, 0, 16), (89, 0, 2), (122, 0, 6), (127, 0, 12), (137, 0, 5), (138, 0, 13), (149, 0, 11), (152, 0, 7)])]
theorem tabOk13_9 : tab13_9.all (chk 13) = true := by decide +kernel
noncomputable def tab13_10 : List (Nat × Nat × Nat × Nat × List (Nat × Nat × Nat)) := [(10, 0, 2, 4, [(0, 0, 0), (1, 0, 2), (53, 1, 0), (83, 0, 1), (88, 0, 3), (98, 1, 3), (99, 1, 1), (118, 1, 2)]),
  (10, 1, 1, 19, [(0, 0, 0), (2, 0, 1), (13, 0, 18), (19, 0, 14), (22, 0, 5), (31, 0, 15), (36, 0, 4), (54, 0, 12), (65, 0, 7), (81, 0, 8), (90, 0, 11), (119, 0, 6), (130, 0, 13), (134, 0, 3), (141, 0, 16), (149, 0, 10), (152, 0, 9), (161, 0, 2), (166, 0, 17)]),
  (10, 3, 1, 16, [(0, 0, 0), (5, 0, 1), (10, 0, 15), (15, 0, 11), (26, 0, 5), (57, 0, 2), (62, 0, 14), (69, 0, 7), (76, 0, 9), (92, 0, 8), (111, 0, 4), (112, 0, 12), (122, 0, 13), (127, 0, 3), (145, 0, 10), (156, 0, 6)]),
  (10, 4, 1, 15, [(0, 0, 0), (3, 0, 1), (12, 0, 14), (43, 0, 13), (50, 0, 2), (55, 0, 5), (64, 0, 10), (72, 0, 7), (73, 0, 8), (93, 0, 3), (104, 0, 12), (120, 0, 9), (129, 0, 6), (136, 0, 4), (139, 0, 11)]),
  (10, 5, 1, 10, [(0, 0, 0), (18, 0, 4), (23, 0, 6), (46, 0, 1), (47, 0, 9), (110, 0, 3), (113, 0, 7), (131, 0, 5), (148, 0, 2), (153, 0, 8)]),
  (10, 6, 1, 14, [(0, 0, 0), (16, 0, 1), (25, 0, 13), (71, 0, 10), (74, 0, 4), (82, 0, 9), (89, 0, 5), (96, 0, 6), (101, 0, 8), (105, 0, 7), (132, 0, 11), (143, 0, 3), (146, 0, 12), (155, 0, 2)]),
  (10, 7, 1, 14, [(0, 0, 0), (30, 0, 4), (37, 0, 10), (45, 0, 1), (48, 0, 13), (66, 0, 7), (85, 0, 2), (86, 0, 12), (94, 0, 11), (103, 0, 3), (106, 0, 8), (117, 0, 6), (160, 0, 5), (167, 0, 9)]),
  (10, 8, 1, 10, [(0, 0, 0), (33, 0, 4), (34, 0, 6), (40, 0, 5), (67, 0, 1), (78, 0, 9), (135, 0, 3), (140, 0, 7), (163, 0, 8), (164, 0, 2)]),
  (10, 9, 1, 15, [(0, 0, 0), (4, 0, 1), (11, 0, 14), (41, 0, 4), (52, 0, 11), (56, 0, 9), (63, 0, 6), (84, 0, 12), (87, 0, 3), (109, 0, 8), (114, 0, 7), (121, 0, 5), (128, 0, 10), (133, 0, 2), (142, 0, 13)]),
  (10, 10, 1, 16, [(0, 0, 0), (7, 0, 1), (8, 0, 15), (32, 0, 6), (35, 0, 10), (59, 0, 13), (60, 0, 3), (70, 0, 12), (75, 0, 4), (79, 0, 8), (107, 0, 9), (116, 0, 7), (124, 0, 2), (125, 0, 14), (162, 0, 5), (165, 0, 11)]),
  (10, 12, 1, 19, [(0, 0, 0), (6, 0, 1), (9, 0, 18), (20, 0, 17), (21, 0, 2), (28, 0, 9), (39, 0, 10), (42, 0, 3), (51, 0, 16), (58, 0, 6), (61, 0, 13), (95, 0, 11), (102, 0, 8), (123, 0, 12), (126, 0, 7), (150, 0, 4), (151, 0, 15), (158, 0, 5), (169, 0, 14)])]
theorem tabOk13_10 : tab13_10.all (chk 13) = true := by decide +kernel
noncomputable def tab13_11 : List (Nat × Nat × Nat × Nat × List (Nat × Nat × Nat)) := [(11, 0, 3, 6, [(0, 0, 0), (1, 0, 3), (19, 1, 0), (22, 2, 0), (29, 0, 1), (38, 0, 5), (55, 1, 4), (64, 2, 2), (82, 2, 5), (89, 1, 1), (94, 2, 1), (103, 1, 5), (121, 2, 4), (128, 1, 2), (147, 2, 3), (154, 1, 3), (158, 0, 4), (169, 0, 2)]),
  (11, 1, 1, 16, [(0, 0, 0), (2, 0, 12), (13, 0, 4), (14, 0, 8), (43, 0, 1), (50, 0, 15), (71, 0, 10), (74, 0, 6), (85, 0, 5), (86, 0, 11), (109, 0, 7), (114, 0, 9), (124, 0, 13), (125, 0, 3), (150, 0, 14), (151, 0, 2)]),
  (11, 2, 1, 10, [(0, 0, 0), (15, 0, 6), (26, 0, 4), (46, 0, 1), (47, 0, 9), (66, 0, 5), (107, 0, 2), (116, 0, 8), (161, 0, 7), (166, 0, 3)]),
  (11, 3, 1, 13, [(0, 0, 0), (5, 0, 1), (10, 0, 12), (67, 0, 3), (78, 0, 10), (84, 0, 7), (87, 0, 6), (123, 0, 11), (126, 0, 2), (149, 0, 8), (152, 0, 5), (159, 0, 9), (168, 0, 4)]),
  (11, 4, 2, 6, [(0, 0, 0), (3, 0, 1), (12, 0, 5), (18, 1, 1), (23, 1, 5), (45, 1, 2), (48, 1, 4), (79, 0, 3), (118, 1, 0), (134, 0, 2), (141, 0, 4), (144, 1, 3)]),
  (11, 5, 1, 20, [(0, 0, 0), (16, 0, 1), (25, 0, 19), (30, 0, 4), (37, 0, 16), (40, 0, 10), (56, 0, 14), (63, 0, 6), (70, 0, 13), (75, 0, 7), (80, 0, 12), (91, 0, 8), (95, 0, 2), (102, 0, 18), (119, 0, 3), (130, 0, 17), (137, 0, 9), (138, 0, 11), (145, 0, 5), (156, 0, 15)]),
  (11, 6, 1, 11, [(0, 0, 0), (33, 0, 1), (34, 0, 10), (41, 0, 3), (52, 0, 8), (59, 0, 6), (60, 0, 5), (68, 0, 9), (77, 0, 2), (98, 0, 4), (99, 0, 7)]),
  (11, 7, 1, 11, [(0, 0, 0), (83, 0, 1), (88, 0, 10), (108, 0, 6), (115, 0, 5), (122, 0, 7), (127, 0, 4), (136, 0, 9), (139, 0, 2), (148, 0, 3), (153, 0, 8)]),
  (11, 8, 1, 20, [(0, 0, 0), (32, 0, 5), (35, 0, 15), (44, 0, 1), (49, 0, 19), (58, 0, 7), (61, 0, 13), (81, 0, 18), (90, 0, 2), (97, 0, 8), (100, 0, 12), (111, 0, 3), (112, 0, 17), (120, 0, 6), (129, 0, 14), (131, 0, 10), (146, 0, 16), (155, 0, 4), (160, 0, 11), (167, 0, 9)]),
  (11, 9, 2, 6, [(0, 0, 0), (4, 0, 1), (11, 0, 5), (27, 1, 0), (42, 0, 4), (51, 0, 2), (53, 1, 3), (92, 0, 3), (132, 1, 5), (143, 1, 1), (163, 1, 4), (164, 1, 2)]),
  (11, 10, 1, 13, [(0, 0, 0), (7, 0, 1), (8, 0, 12), (17, 0, 9), (24, 0, 4), (28, 0, 8), (39, 0, 5), (54, 0, 11), (65, 0, 2), (93, 0, 7), (104, 0, 6), (110, 0, 10), (113, 0, 3)]),
  (11, 11, 1, 10, [(0, 0, 0), (20, 0, 1), (21, 0, 9), (69, 0, 6), (76, 0, 4), (105, 0, 5), (135, 0, 7), (140, 0, 3), (162, 0, 2), (165, 0, 8)]),
  (11, 12, 1, 16, [(0, 0, 0), (6, 0, 12), (9, 0, 4), (31, 0, 6), (36, 0, 10), (57, 0, 1), (62, 0, 15), (72, 0, 13), (73, 0, 3), (96, 0, 9), (101, 0, 7), (106, 0, 14), (117, 0, 2), (133, 0, 5), (142, 0, 11), (157, 0, 8)])]
theorem tabOk13_11 : tab13_11.all (chk 13) = true := by decide +kernel
noncomputable def tab13_12 : List (Nat × Nat × Nat × Nat × List (Nat × Nat × Nat)) := [(12, 0, 2, 4, [(0, 0, 0), (1, 0, 2), (14, 1, 0), (70, 0, 1), (75, 0, 3), (111, 1, 1), (112, 1, 3), (157, 1, 2)]),
  (12, 1, 1, 19, [(0, 0, 0), (2, 0, 1), (13, 0, 18), (15, 0, 6), (26, 0, 13), (45, 0, 14), (48, 0, 5), (56, 0, 3), (63, 0, 16), (68, 0, 8), (77, 0, 11), (83, 0, 15), (88, 0, 4), (97, 0, 10), (100, 0, 9), (135, 0, 2), (140, 0, 17), (158, 0, 12), (169, 0, 7)]),
  (12, 3, 1, 16, [(0, 0, 0), (5, 0, 1), (10, 0, 15), (18, 0, 13), (23, 0, 3), (30, 0, 7), (37, 0, 9), (41, 0, 11), (52, 0, 5), (93, 0, 10), (104, 0, 6), (105, 0, 8), (150, 0, 4), (151, 0, 12), (161, 0, 2), (166, 0, 14)]),
  (12, 4, 1, 15, [(0, 0, 0), (3, 0, 1), (12, 0, 14), (16, 0, 9), (25, 0, 6), (33, 0, 7), (34, 0, 8), (58, 0, 4), (61, 0, 11), (106, 0, 3), (117, 0, 12), (121, 0, 13), (128, 0, 2), (159, 0, 5), (168, 0, 10)]),
  (12, 5, 1, 10, [(0, 0, 0), (44, 0, 4), (49, 0, 6), (53, 0, 5), (96, 0, 2), (101, 0, 8), (124, 0, 1), (125, 0, 9), (149, 0, 3), (152, 0, 7)]),
  (12, 6, 1, 14, [(0, 0, 0), (32, 0, 10), (35, 0, 4), (42, 0, 1), (51, 0, 13), (54, 0, 11), (65, 0, 3), (69, 0, 9), (76, 0, 5), (94, 0, 12), (103, 0, 2), (109, 0, 6), (114, 0, 8), (144, 0, 7)]),
  (12, 7, 1, 14, [(0, 0, 0), (27, 0, 7), (72, 0, 4), (73, 0, 10), (82, 0, 8), (89, 0, 6), (107, 0, 1), (116, 0, 13), (123, 0, 9), (126, 0, 5), (134, 0, 3), (141, 0, 11), (145, 0, 2), (156, 0, 12)]),
  (12, 8, 1, 10, [(0, 0, 0), (28, 0, 1), (39, 0, 9), (57, 0, 3), (62, 0, 7), (85, 0, 4), (86, 0, 6), (118, 0, 5), (137, 0, 8), (138, 0, 2)]),
  (12, 9, 1, 15, [(0, 0, 0), (4, 0, 1), (11, 0, 14), (17, 0, 5), (24, 0, 10), (55, 0, 2), (64, 0, 13), (71, 0, 12), (74, 0, 3), (119, 0, 4), (130, 0, 11), (148, 0, 8), (153, 0, 7), (160, 0, 9), (167, 0, 6)]),
  (12, 10, 1, 16, [(0, 0, 0), (7, 0, 1), (8, 0, 15), (20, 0, 2), (21, 0, 14), (31, 0, 12), (36, 0, 4), (66, 0, 8), (84, 0, 6), (87, 0, 10), (136, 0, 5), (139, 0, 11), (146, 0, 9), (155, 0, 7), (163, 0, 13), (164, 0, 3)]),
  (12, 12, 1, 19, [(0, 0, 0), (6, 0, 1), (9, 0, 18), (19, 0, 12), (22, 0, 7), (46, 0, 17), (47, 0, 2), (80, 0, 9), (91, 0, 10), (98, 0, 4), (99, 0, 15), (108, 0, 11), (115, 0, 8), (120, 0, 3), (129, 0, 16), (132, 0, 5), (143, 0, 14), (162, 0, 6), (165, 0, 13)])]
theorem tabOk13_12 : tab13_12.all (chk 13) = true := by decide +kernel
end SrMine
namespace SrMine
noncomputable def tabs7 := tab7_0 ++ tab7_1 ++ tab7_2 ++ tab7_3 ++ tab7_4 ++ tab7_5 ++ tab7_6
noncomputable def tabs11 := tab11_0 ++ tab11_1 ++ tab11_2 ++ tab11_3 ++ tab11_4 ++ tab11_5 ++ tab11_6 ++ tab11_7 ++ tab11_8 ++ tab11_9 ++ tab11_10
noncomputable def tabs13 := tab13_0 ++ tab13_1 ++ tab13_2 ++ tab13_3 ++ tab13_4 ++ tab13_5 ++ tab13_6 ++ tab13_7 ++ tab13_8 ++ tab13_9 ++ tab13_10 ++ tab13_11 ++ tab13_12
theorem ok7 : tabs7.all (chk 7) = true := by
  unfold tabs7
  simp only [List.all_append, tabOk7_0, tabOk7_1, tabOk7_2, tabOk7_3, tabOk7_4, tabOk7_5, tabOk7_6, Bool.and_self]
theorem ok11 : tabs11.all (chk 11) = true := by
  unfold tabs11
  simp only [List.all_append, tabOk11_0, tabOk11_1, tabOk11_2, tabOk11_3, tabOk11_4, tabOk11_5, tabOk11_6, tabOk11_7, tabOk11_8, tabOk11_9, tabOk11_10, Bool.and_self]
theorem ok13 : tabs13.all (chk 13) = true := by
  unfold tabs13
  simp only [List.all_append, tabOk13_0, tabOk13_1, tabOk13_2, tabOk13_3, tabOk13_4, tabOk13_5, tabOk13_6, tabOk13_7, tabOk13_8, tabOk13_9, tabOk13_10, tabOk13_11, tabOk13_12, Bool.and_self]
theorem has7 : ∀ a < 7, ∀ b < 7, disc (a : Nat) (b : Nat) (7 : Nat) = 0 ∨ tabs7.any (fun r => Nat.beq r.1 a && Nat.beq r.2.1 b) = true := by decide +kernel
theorem has11 : ∀ a < 11, ∀ b < 11, disc (a : Nat) (b : Nat) (11 : Nat) = 0 ∨ tabs11.any (fun r => Nat.beq r.1 a && Nat.beq r.2.1 b) = true := by decide +kernel
theorem has13 : ∀ a < 13, ∀ b < 13, disc (a : Nat) (b : Nat) (13 : Nat) = 0 ∨ tabs13.any (fun r => Nat.beq r.1 a && Nat.beq r.2.1 b) = true := by decide +kernel
theorem row_of {tabs : List (Nat × Nat × Nat × Nat × List (Nat × Nat × Nat))} {p a b : Nat} (ok : tabs.all (chk p) = true) (has : tabs.any (fun r => Nat.beq r.1 a && Nat.beq r.2.1 b) = true) : ∃ m n t, chk p (a, b, m, n, t) = true := by
  obtain ⟨⟨a', b', m, n, t⟩, hr, he⟩ := List.any_eq_true.mp has
  simp only [Bool.and_eq_true] at he
  have e1 : a' = a := Nat.eq_of_beq_eq_true he.1
  have e2 : b' = b := Nat.eq_of_beq_eq_true he.2
  subst e1; subst e2
  exact ⟨m, n, t, List.all_eq_true.mp ok _ hr⟩
/-- each smooth curve has a checked row -/
theorem curve_row {p : Nat} {a b : Int} (hp : p = 7 ∨ p = 11 ∨ p = 13) (ha0 : 0 ≤ a) (ha : a < p) (hb0 : 0 ≤ b) (hb : b < p) (hd : disc a b p ≠ 0) :
    ∃ (a' b' m n : Nat) (t : List (Nat × Nat × Nat)), a = a' ∧ b = b' ∧ chk p (a', b', m, n, t) = true := by
  obtain ⟨a, rfl⟩ := Int.eq_ofNat_of_zero_le ha0
  obtain ⟨b, rfl⟩ := Int.eq_ofNat_of_zero_le hb0
  rcases hp with rfl | rfl | rfl
  · obtain ⟨m, n, t, h⟩ := row_of ok7 ((has7 a (by omega) b (by omega)).resolve_left hd)
    exact ⟨a, b, m, n, t, rfl, rfl, h⟩
  · obtain ⟨m, n, t, h⟩ := row_of ok11 ((has11 a (by omega) b (by omega)).resolve_left hd)
    exact ⟨a, b, m, n, t, rfl, rfl, h⟩
  · obtain ⟨m, n, t, h⟩ := row_of ok13 ((has13 a (by omega) b (by omega)).resolve_left hd)
    exact ⟨a, b, m, n, t, rfl, rfl, h⟩
end SrMine
namespace SrMine
theorem dec_enc {p : Nat} (hp : 0 < p) {P : Pt} (h : Good p P) : dec p (enc p P) = P := by
  match P, h with
  | none, _ => rfl
  | some (x, y), ⟨hx0, hx, hy0, hy⟩ =>
    obtain ⟨x, rfl⟩ := Int.eq_ofNat_of_zero_le hx0
    obtain ⟨y, rfl⟩ := Int.eq_ofNat_of_zero_le hy0
    have hy' : y < p := by omega
    show dec p (1 + x * p + y) = _
    unfold dec
    rw [if_neg (by omega)]
    have e : 1 + x * p + y - 1 = y + p * x := by rw [Nat.mul_comm p x]; omega
    rw [e, Nat.add_mul_div_left _ _ hp, Nat.div_eq_of_lt hy', Nat.add_mul_mod_self_left, Nat.mod_eq_of_lt hy', Nat.zero_add]
theorem enc_inj {p : Nat} (hp : 0 < p) {P Q : Pt} (h : Good p P) (k : Good p Q) (e : enc p P = enc p Q) : P = Q := by
  rw [← dec_enc hp h, ← dec_enc hp k, e]
end SrMine
namespace SrMine
/-- what a checked row says -/
structure Row (p a b m n : Nat) (t : List (Nat × Nat × Nat)) : Prop where
  keys : t.map (·.1) = 0 :: (ptsTo a b p p p).map (fun P => enc p (some P))
  len : t.length = m * n
  lt : ∀ e ∈ t, e.2.1 < m ∧ e.2.2 < n
  nd : (t.map fun e => e.2.1 * n + e.2.2).Nodup
  one : 1 < m * n
  hasse1 : (m * n - (p + 1)) * (m * n - (p + 1)) ≤ 4 * p
  hasse2 : (p + 1 - m * n) * (p + 1 - m * n) ≤ 4 * p
  hom : ∀ e ∈ t, ∀ f ∈ t, (enc p (ecSum a p (dec p e.1) (dec p f.1)), (e.2.1 + f.2.1) % m, (e.2.2 + f.2.2) % n) ∈ t
theorem mem_ptsTo_good {a b p : Int} {n : Nat} {Q : Int × Int} (h : Q ∈ ptsTo a b p n n) : Good n (some Q) := by
  unfold ptsTo at h
  obtain ⟨x, hx, hq⟩ := List.mem_flatMap.mp h
  unfold ptsAt at hq
  obtain ⟨y, hy, rfl⟩ := List.mem_map.mp hq
  have hx' := List.mem_range.mp hx
  have hy' := List.mem_range.mp (List.mem_filter.mp hy).1
  exact ⟨by omega, by omega, by omega, by omega⟩
theorem hasK_mem {k u v : Nat} : ∀ {t : List (Nat × Nat × Nat)}, hasK t k u v = true → (k, u, v) ∈ t
  | [], h => nomatch (show false = true from h)
  | g :: t, h => by
    have h' : (@cond Bool (Nat.beq g.1 k) (Nat.beq g.2.1 u && Nat.beq g.2.2 v) (hasK t k u v)) = true := h
    cases hb : Nat.beq g.1 k with
    | false => rw [hb] at h'; exact .tail _ (hasK_mem h')
    | true =>
      rw [hb] at h'
      have h2 : (Nat.beq g.2.1 u && Nat.beq g.2.2 v) = true := h'
      rw [Bool.and_eq_true] at h2
      obtain ⟨k', u', v'⟩ := g
      have e1 : k' = k := Nat.eq_of_beq_eq_true hb
      have e2 : u' = u := Nat.eq_of_beq_eq_true h2.1
      have e3 : v' = v := Nat.eq_of_beq_eq_true h2.2
      subst e1; subst e2; subst e3
      exact .head _
theorem allK_mem {P : Nat × Nat × Nat → Bool} : ∀ {t : List (Nat × Nat × Nat)}, allK P t = true → ∀ e ∈ t, P e = true
  | [], _, _, he => nomatch he
  | g :: t, h, e, he => by
    have h' : (@cond Bool (P g) (allK P t) false) = true := h
    cases hb : P g with
    | false => rw [hb] at h'; exact nomatch (show false = true from h')
    | true =>
      rw [hb] at h'
      rcases List.mem_cons.mp he with rfl | he
      · exact hb
      · exact allK_mem h' e he
theorem ndK_nodup {n : Nat} : ∀ {t : List (Nat × Nat × Nat)}, ndK n t = true → (t.map fun e => e.2.1 * n + e.2.2).Nodup
  | [], _ => by simp
  | g :: t, h => by
    have h' : (@cond Bool (offK n g t) (ndK n t) false) = true := h
    cases hb : offK n g t with
    | false => rw [hb] at h'; exact nomatch (show false = true from h')
    | true =>
      rw [hb] at h'
      rw [List.map_cons, List.nodup_cons]
      refine ⟨fun hm => ?_, ndK_nodup h'⟩
      obtain ⟨f, hf, e⟩ := List.mem_map.mp hm
      have := allK_mem hb f hf
      simp only [Bool.not_eq_true'] at this
      rw [show Nat.beq (g.2.1 * n + g.2.2) (f.2.1 * n + f.2.2) = true from by rw [e]; exact Nat.beq_refl _] at this
      exact nomatch this
theorem chk_row {p a b m n : Nat} {t : List (Nat × Nat × Nat)} (hp : 2 ≤ p) (h : chk p (a, b, m, n, t) = true) : Row p a b m n t := by
  unfold chk at h
  simp only [Bool.and_eq_true] at h
  obtain ⟨⟨⟨⟨⟨h1, h2⟩, h3⟩, h4⟩, h5⟩, ⟨h6, h7⟩, h8⟩ := h
  have h1' := of_decide_eq_true h1
  have pt : ∀ e ∈ t, ∃ P : Pt, Good p P ∧ e.1 = enc p P := by
    intro e he
    have hk : e.1 ∈ t.map (·.1) := List.mem_map.mpr ⟨e, he, rfl⟩
    rw [h1'] at hk
    rcases List.mem_cons.mp hk with hk | hk
    · exact ⟨none, trivial, hk⟩
    · obtain ⟨Q, hq, hk⟩ := List.mem_map.mp hk
      exact ⟨some Q, mem_ptsTo_good hq, hk.symm⟩
  refine ⟨h1', of_decide_eq_true h2, fun e he => ?_, ndK_nodup h4, Nat.le_of_ble_eq_true h6, Nat.le_of_ble_eq_true h7, Nat.le_of_ble_eq_true h8, fun e he f hf => ?_⟩
  · have := allK_mem h3 e he
    simp only [Bool.and_eq_true] at this
    exact ⟨Nat.le_of_ble_eq_true this.1, Nat.le_of_ble_eq_true this.2⟩
  · have := hasK_mem (allK_mem (allK_mem h5 e he) f hf)
    obtain ⟨P, gP, eP⟩ := pt e he
    obtain ⟨Q, gQ, eQ⟩ := pt f hf
    rw [eP, eQ, addN_enc hp gP gQ] at this
    rw [eP, eQ, dec_enc (by omega) gP, dec_enc (by omega) gQ]
    exact this
end SrMine
namespace SrMine
/-- the number that letters spell -/
noncomputable def spell (t : Nat) (w : List Nat) : Nat := w.foldl (fun t n => 16 * t + (n - 65)) t
theorem spell_hexF : ∀ (f n : Nat) (acc : List Nat), n < 16 ^ f → spell 0 (hexF f n acc) = spell n acc
  | 0, n, acc, h => by
    have : n = 0 := by simpa using h
    subst this; rfl
  | f + 1, n, acc, h => by
    unfold hexF
    split
    · rename_i h0; subst h0; rfl
    · have h16 : n / 16 < 16 ^ f := by rw [Nat.pow_succ] at h; omega
      rw [spell_hexF f (n / 16) _ h16]
      show spell (16 * (n / 16) + (65 + n % 16 - 65)) acc = spell n acc
      congr 1
      omega
theorem letters_hexF : ∀ (f n : Nat) (acc : List Nat), (∀ c ∈ acc, 65 ≤ c ∧ c < 81) → ∀ c ∈ hexF f n acc, 65 ≤ c ∧ c < 81
  | 0, _, acc, h => h
  | f + 1, n, acc, h => by
    unfold hexF
    split
    · exact h
    · exact letters_hexF f (n / 16) _ fun c hc => by
        rcases List.mem_cons.mp hc with rfl | hc
        · omega
        · exact h c hc
end SrMine
namespace SrMine
/-- P lies on the curve -/
noncomputable def OnC (a b p : Int) (n : Nat) (P : Pt) : Prop := P = none ∨ ∃ Q ∈ ptsTo a b p n n, P = some Q
theorem OnC.good {a b p : Int} {n : Nat} {P : Pt} (h : OnC a b p n P) : Good n P := by
  rcases h with rfl | ⟨Q, hq, rfl⟩
  · trivial
  · exact mem_ptsTo_good hq
theorem Row.at {p a b m n : Nat} {t : List (Nat × Nat × Nat)} (R : Row p a b m n t) {P : Pt} (h : OnC a b p p P) : ∃ e ∈ t, e.1 = enc p P := by
  have hk : enc p P ∈ t.map (·.1) := by
    rw [R.keys]
    rcases h with rfl | ⟨Q, hq, rfl⟩
    · exact .head _
    · exact .tail _ (List.mem_map.mpr ⟨Q, hq, rfl⟩)
  exact List.mem_map.mp hk
theorem Row.on {p a b m n : Nat} {t : List (Nat × Nat × Nat)} (R : Row p a b m n t) (hp : 0 < p) {P : Pt} (hg : Good p P) {e : Nat × Nat × Nat} (he : e ∈ t) (hk : e.1 = enc p P) : OnC a b p p P := by
  have h : enc p P ∈ t.map (·.1) := List.mem_map.mpr ⟨e, he, hk⟩
  rw [R.keys] at h
  rcases List.mem_cons.mp h with h | h
  · exact .inl (enc_inj hp hg (Q := none) trivial h)
  · obtain ⟨Q, hq, h⟩ := List.mem_map.mp h
    exact .inr ⟨Q, hq, enc_inj hp hg (mem_ptsTo_good hq) h.symm⟩
/-- the sum of two points of the curve is one, and its value is the sum of theirs -/
theorem Row.sum {p a b m n : Nat} {t : List (Nat × Nat × Nat)} (R : Row p a b m n t) (hp : 0 < p) {P Q : Pt} (hP : OnC a b p p P) (hQ : OnC a b p p Q) {e f : Nat × Nat × Nat} (he : e ∈ t) (hf : f ∈ t) (ke : e.1 = enc p P) (kf : f.1 = enc p Q) :
    (enc p (ecSum a p P Q), (e.2.1 + f.2.1) % m, (e.2.2 + f.2.2) % n) ∈ t ∧ OnC a b p p (ecSum a p P Q) := by
  have h := R.hom e he f hf
  rw [ke, kf, dec_enc hp hP.good, dec_enc hp hQ.good] at h
  exact ⟨h, R.on hp (good_sum (by omega) hP.good hQ.good) h rfl⟩
theorem nodup_map_inj {α β : Type} {f : α → β} : ∀ {l : List α}, (l.map f).Nodup → ∀ a ∈ l, ∀ b ∈ l, f a = f b → a = b
  | [], _, _, h, _, _, _ => nomatch h
  | c :: l, hn, a, ha, b, hb, e => by
    rw [List.map_cons, List.nodup_cons] at hn
    rcases List.mem_cons.mp ha with h1 | h1
    · rcases List.mem_cons.mp hb with h2 | h2
      · rw [h1, h2]
      · exact absurd (List.mem_map.mpr ⟨b, h2, by rw [← e, h1]⟩) hn.1
    · rcases List.mem_cons.mp hb with h2 | h2
      · exact absurd (List.mem_map.mpr ⟨a, h1, by rw [e, h2]⟩) hn.1
      · exact nodup_map_inj hn.2 a h1 b h2 e
theorem Row.inj {p a b m n : Nat} {t : List (Nat × Nat × Nat)} (R : Row p a b m n t) {e f : Nat × Nat × Nat} (he : e ∈ t) (hf : f ∈ t) (h1 : e.2.1 = f.2.1) (h2 : e.2.2 = f.2.2) : e = f :=
  nodup_map_inj R.nd e he f hf (by show e.2.1 * n + e.2.2 = f.2.1 * n + f.2.2; rw [h1, h2])
end SrMine
namespace SrMine
/-- k times a point -/
noncomputable def mulP (a p : Int) (P : Pt) : Nat → Pt
  | 0 => none
  | k + 1 => ecSum a p (mulP a p P k) P
section
variable {p a b m n : Nat} {t : List (Nat × Nat × Nat)}
noncomputable def Val (p : Nat) (t : List (Nat × Nat × Nat)) (P : Pt) (u v : Nat) : Prop := (enc p P, u, v) ∈ t
theorem Row.val (R : Row p a b m n t) {P : Pt} (h : OnC a b p p P) : ∃ u v, Val p t P u v ∧ u < m ∧ v < n := by
  obtain ⟨⟨k, u, v⟩, he, hk⟩ := R.at h
  have hk' : k = enc p P := hk
  subst hk'
  exact ⟨u, v, he, R.lt _ he⟩
theorem Row.vadd (R : Row p a b m n t) (hp : 0 < p) {P Q : Pt} {u v u' v' : Nat} (hP : OnC a b p p P) (hQ : OnC a b p p Q) (h : Val p t P u v) (k : Val p t Q u' v') : Val p t (ecSum a p P Q) ((u + u') % m) ((v + v') % n) ∧ OnC a b p p (ecSum a p P Q) :=
  R.sum hp hP hQ h k rfl rfl
theorem Row.vinj (R : Row p a b m n t) (hp : 0 < p) {P Q : Pt} {u v : Nat} (hP : OnC a b p p P) (hQ : OnC a b p p Q) (h : Val p t P u v) (k : Val p t Q u v) : P = Q := by
  have e := R.inj h k rfl rfl
  exact enc_inj hp hP.good hQ.good (congrArg (·.1) e)
theorem onC0 : OnC a b p p none := .inl rfl
theorem Row.v0 (R : Row p a b m n t) (hp : 0 < p) : Val p t none 0 0 := by
  obtain ⟨u, v, h, hu, hv⟩ := R.val (onC0 (a := a) (b := b) (p := p))
  have h2 := (R.vadd hp onC0 onC0 h h).1
  have e0 : ecSum (a : Int) p none none = none := rfl
  rw [e0] at h2
  have key : ∀ u v u' v', Val p t none u v → Val p t none u' v' → u = u' ∧ v = v' := by
    intro u v u' v' h1 h2
    have hk := R.keys
    cases t with
    | nil => exact nomatch h1
    | cons e0 r =>
      rw [List.map_cons] at hk
      injection hk with k1 k2
      have no : ∀ e ∈ r, e.1 ≠ 0 := by
        intro e he h0
        have hm : e.1 ∈ (ptsTo a b p p p).map (fun P => enc p (some P)) := by rw [← k2]; exact List.mem_map.mpr ⟨e, he, rfl⟩
        obtain ⟨⟨x, y⟩, _, hq⟩ := List.mem_map.mp hm
        rw [h0] at hq
        simp only [enc] at hq
        omega
      have one : ∀ u v, Val p (e0 :: r) none u v → e0 = (0, u, v) := by
        intro u v h
        rcases List.mem_cons.mp h with h | h
        · exact h.symm
        · exact absurd rfl (no _ h)
      have q1 := one _ _ h1
      have q2 := one _ _ h2
      rw [q1] at q2
      simp only [Prod.mk.injEq, true_and] at q2
      exact q2
  obtain ⟨e1, e2⟩ := key _ _ _ _ h h2
  have eu : u = 0 := by
    have := Nat.mod_eq (u + u) m
    by_cases hlt : u + u < m
    · rw [Nat.mod_eq_of_lt hlt] at e1; omega
    · rw [Nat.mod_eq_sub_mod (by omega), Nat.mod_eq_of_lt (by omega)] at e1; omega
  have ev : v = 0 := by
    by_cases hlt : v + v < n
    · rw [Nat.mod_eq_of_lt hlt] at e2; omega
    · rw [Nat.mod_eq_sub_mod (by omega), Nat.mod_eq_of_lt (by omega)] at e2; omega
  subst eu; subst ev
  exact h
theorem Row.vmul (R : Row p a b m n t) (hp : 0 < p) {P : Pt} {u v : Nat} (hP : OnC a b p p P) (h : Val p t P u v) : ∀ k, Val p t (mulP a p P k) (k * u % m) (k * v % n) ∧ OnC a b p p (mulP a p P k)
  | 0 => by
    rw [Nat.zero_mul, Nat.zero_mul, Nat.zero_mod, Nat.zero_mod]
    exact ⟨R.v0 hp, onC0⟩
  | k + 1 => by
    obtain ⟨h1, h2⟩ := R.vmul hp hP h k
    have h3 := R.vadd hp h2 hP h1 h
    rw [Nat.mod_add_mod, Nat.mod_add_mod] at h3
    rw [Nat.succ_mul, Nat.succ_mul]
    exact h3
theorem Row.on_mul (R : Row p a b m n t) (hp : 0 < p) {P : Pt} (hP : OnC a b p p P) (k : Nat) : OnC a b p p (mulP a p P k) := by
  obtain ⟨u, v, h, _⟩ := R.val hP
  exact (R.vmul hp hP h k).2
theorem Row.mul_add (R : Row p a b m n t) (hp : 0 < p) {P : Pt} (hP : OnC a b p p P) (j k : Nat) : ecSum a p (mulP a p P j) (mulP a p P k) = mulP a p P (j + k) := by
  obtain ⟨u, v, h, _⟩ := R.val hP
  obtain ⟨h1, h2⟩ := R.vmul hp hP h j
  obtain ⟨h3, h4⟩ := R.vmul hp hP h k
  obtain ⟨h5, h6⟩ := R.vmul hp hP h (j + k)
  obtain ⟨h7, h8⟩ := R.vadd hp h2 h4 h1 h3
  refine R.vinj hp h8 h6 h7 ?_
  rw [Nat.add_mul, Nat.add_mul, Nat.add_mod, Nat.add_mod (j * v)] at h5
  exact h5
theorem mul_one (P : Pt) (a p : Int) : mulP a p P 1 = P := rfl
/-- the sum of the k-folds is the k-fold of the sum -/
theorem Row.mul_hom (R : Row p a b m n t) (hp : 0 < p) {P Q : Pt} (hP : OnC a b p p P) (hQ : OnC a b p p Q) (k : Nat) : mulP a p (ecSum a p P Q) k = ecSum a p (mulP a p P k) (mulP a p Q k) := by
  obtain ⟨u, v, h, _⟩ := R.val hP
  obtain ⟨u', v', h', _⟩ := R.val hQ
  obtain ⟨h1, h2⟩ := R.vmul hp hP h k
  obtain ⟨h3, h4⟩ := R.vmul hp hQ h' k
  obtain ⟨h5, h6⟩ := R.vadd hp hP hQ h h'
  obtain ⟨h7, h8⟩ := R.vmul hp h6 h5 k
  obtain ⟨h9, h10⟩ := R.vadd hp h2 h4 h1 h3
  refine R.vinj hp h8 h10 h7 ?_
  rw [Nat.mul_mod, Nat.mod_mod, ← Nat.mul_mod, Nat.mul_add, Nat.add_mod]
  rw [Nat.mul_mod k ((v + v') % n), Nat.mod_mod, ← Nat.mul_mod, Nat.mul_add, Nat.add_mod (k * v)]
  exact h9
theorem Row.mul_count (R : Row p a b m n t) (hp : 0 < p) {P : Pt} (hP : OnC a b p p P) : mulP a p P (m * n) = none := by
  obtain ⟨u, v, h, _⟩ := R.val hP
  obtain ⟨h1, h2⟩ := R.vmul hp hP h (m * n)
  have e1 : m * n * u % m = 0 := by rw [Nat.mul_assoc]; exact Nat.mul_mod_right _ _
  have e2 : m * n * v % n = 0 := by rw [Nat.mul_comm m n, Nat.mul_assoc]; exact Nat.mul_mod_right _ _
  rw [e1, e2] at h1
  exact R.vinj hp h2 onC0 h1 (R.v0 hp)
theorem Row.count (R : Row p a b m n t) : (ptsTo a b p p p).length + 1 = m * n := by
  have := congrArg List.length R.keys
  rw [List.length_map, List.length_cons, List.length_map, R.len] at this
  exact this.symm
theorem Row.bit (R : Row p a b m n t) (hp : 0 < p) {P : Pt} (hP : OnC a b p p P) (k c : Nat) (bit : Nat) (hc : 65 ≤ c) : ecBit a p P c (mulP a p P k) bit = mulP a p P (2 * k + (c - 65) / bit % 2) := by
  have e : ((c : Int) - 65).fdiv (bit : Int) = (((c - 65) / bit : Nat) : Int) := by
    have : (c : Int) - 65 = ((c - 65 : Nat) : Int) := by omega
    rw [this, Int.fdiv_eq_ediv_of_nonneg _ (by omega)]; norm_cast
  unfold ecBit
  rw [e, R.mul_add hp hP k k]
  have e2 : (((c - 65) / bit : Nat) : Int).fmod 2 = (((c - 65) / bit % 2 : Nat) : Int) := by
    rw [Int.fmod_eq_emod_of_nonneg _ (by omega)]; norm_cast
  rw [e2]
  have hlt : (c - 65) / bit % 2 < 2 := Nat.mod_lt _ (by omega)
  split
  · rename_i h
    have h1 : (c - 65) / bit % 2 = 1 := by omega
    rw [h1, show 2 * k + 1 = (k + k) + 1 by omega]
    rfl
  · rename_i h
    have h1 : (c - 65) / bit % 2 = 0 := by omega
    rw [h1, show 2 * k + 0 = k + k by omega]
theorem Row.letter (R : Row p a b m n t) (hp : 0 < p) {P : Pt} (hP : OnC a b p p P) (k c : Nat) (hc : 65 ≤ c) (hc2 : c < 81) : ecLetter a p P (mulP a p P k) c = mulP a p P (16 * k + (c - 65)) := by
  unfold ecLetter
  simp only [List.foldl_cons, List.foldl_nil]
  have h8 : ecBit a p P c (mulP a p P k) 8 = _ := R.bit hp hP k c 8 hc
  have h4 : ecBit a p P c (mulP a p P (2 * k + (c - 65) / 8 % 2)) 4 = _ := R.bit hp hP _ c 4 hc
  have h2 : ecBit a p P c (mulP a p P (2 * (2 * k + (c - 65) / 8 % 2) + (c - 65) / 4 % 2)) 2 = _ := R.bit hp hP _ c 2 hc
  have h1 : ecBit a p P c (mulP a p P (2 * (2 * (2 * k + (c - 65) / 8 % 2) + (c - 65) / 4 % 2) + (c - 65) / 2 % 2)) 1 = _ := R.bit hp hP _ c 1 hc
  rw [h8, h4, h2, h1]
  congr 1
  have hd : c - 65 < 16 := by omega
  generalize c - 65 = d at hd ⊢
  omega
theorem Row.many (R : Row p a b m n t) (hp : 0 < p) {P : Pt} (hP : OnC a b p p P) : ∀ (w : List Nat) (k : Nat), (∀ c ∈ w, 65 ≤ c ∧ c < 81) → w.foldl (ecLetter a p P) (mulP a p P k) = mulP a p P (spell k w)
  | [], _, _ => rfl
  | c :: w, k, h => by
    rw [List.foldl_cons, R.letter hp hP k c (h c (.head _)).1 (h c (.head _)).2]
    exact R.many hp hP w _ fun d hd => h d (.tail _ hd)
theorem Row.many_hex (R : Row p a b m n t) (hp : 0 < p) {P : Pt} (hP : OnC a b p p P) {k : Nat} (hk : k < 4096) : ecMany a p P (hexF 4 k []) = mulP a p P k := by
  have h := R.many hp hP (hexF 4 k []) 0 (letters_hexF 4 k [] fun c hc => nomatch hc)
  rw [spell_hexF 4 k [] (by omega)] at h
  exact h
/-- the first count after which the point is nothing -/
theorem Row.ord (R : Row p a b m n t) (hp : 0 < p) (hm : 0 < m * n) {P : Pt} (hP : OnC a b p p P) : ∃ o, 0 < o ∧ mulP a p P o = none ∧ (∀ k, 0 < k → k < o → mulP a p P k ≠ none) ∧ m * n % o = 0 ∧ o ≤ m * n ∧ ∀ k, mulP a p P k = mulP a p P (k % o) := by
  have ex : ∀ N, (∃ o, 0 < o ∧ o ≤ N ∧ mulP a p P o = none) → ∃ o, 0 < o ∧ o ≤ N ∧ mulP a p P o = none ∧ ∀ k, 0 < k → k < o → mulP a p P k ≠ none := by
    intro N
    induction N with
    | zero => rintro ⟨o, h0, h1, _⟩; omega
    | succ N ih =>
      rintro ⟨o, h0, h1, h2⟩
      by_cases hq : ∃ o, 0 < o ∧ o ≤ N ∧ mulP a p P o = none
      · obtain ⟨o', a1, a2, a3, a4⟩ := ih hq
        exact ⟨o', a1, by omega, a3, a4⟩
      · refine ⟨o, h0, h1, h2, fun k hk hko hn => hq ⟨k, hk, by omega, hn⟩⟩
  obtain ⟨o, h0, h1, h2, h3⟩ := ex (m * n) ⟨m * n, hm, Nat.le_refl _, R.mul_count hp hP⟩
  have hq : ∀ q, mulP a p P (q * o) = none := by
    intro q
    induction q with
    | zero => rw [Nat.zero_mul]; rfl
    | succ q ih => rw [Nat.succ_mul, ← R.mul_add hp hP, ih, h2]; rfl
  have hk : ∀ k, mulP a p P k = mulP a p P (k % o) := by
    intro k
    have e : k = k / o * o + k % o := by rw [Nat.mul_comm]; exact (Nat.div_add_mod k o).symm
    have h := R.mul_add hp hP (k / o * o) (k % o)
    rw [← e, hq] at h
    exact h.symm
  refine ⟨o, h0, h2, h3, ?_, h1, hk⟩
  have h4 := hk (m * n)
  rw [R.mul_count hp hP] at h4
  by_cases hz : m * n % o = 0
  · exact hz
  · exact absurd h4.symm (h3 _ (by omega) (Nat.mod_lt _ h0))
/-- the other point at the same x -/
noncomputable def negP (p : Int) : Pt → Pt
  | none => none
  | some (x, y) => some (x, (-y).fmod p)
theorem Row.neg (R : Row p a b m n t) (hp : 0 < p) {P : Pt} (hP : OnC a b p p P) {j k : Nat} (h : mulP a p P (j + k) = none) : negP p (mulP a p P j) = mulP a p P k := by
  rw [← R.mul_add hp hP] at h
  have g1 := (R.on_mul hp hP j).good
  have g2 := (R.on_mul hp hP k).good
  revert h g1 g2
  generalize mulP a p P j = X
  generalize mulP a p P k = Y
  intro h g1 g2
  match X, Y, h, g1, g2 with
  | none, Y, h, _, _ => exact h.symm
  | some (x1, y1), none, h, _, _ => simp [ecSum] at h
  | some (x1, y1), some (x2, y2), h, ⟨a1, a2, a3, a4⟩, ⟨b1, b2, b3, b4⟩ =>
    unfold ecSum at h
    dsimp only at h
    split at h
    · rename_i hc
      obtain ⟨rfl, hc⟩ := hc
      show some (x1, (-y1).fmod p) = some (x1, y2)
      congr 2
      have e : (-y1).fmod (p : Int) = y2 := by
        rw [Int.fmod_eq_emod_of_nonneg _ (by omega)] at hc ⊢
        have hd := Int.dvd_of_emod_eq_zero hc
        obtain ⟨c, hc⟩ := hd
        have e : -y1 = y2 + p * (-c) := by rw [Int.mul_neg]; omega
        rw [e, Int.add_mul_emod_self_left, Int.emod_eq_of_lt b3 b4]
      exact e
    · exact nomatch h
end
end SrMine
namespace SrMine
structure Ord (a b p : Int) (n cnt : Nat) (P : Int × Int) (o : Nat) : Prop where
  pos : 0 < o
  le : o ≤ cnt
  zero : mulP a p (some P) o = none
  ne : ∀ k, 0 < k → k < o → ∃ Q ∈ ptsTo a b p n n, mulP a p (some P) k = some Q
  dvd : cnt % o = 0
  far : ∀ T : Int, 0 ≤ T → T < 4096 → ecMany a p (some P) (hexF 4 T.natAbs []) = mulP a p (some P) (T.fmod o).toNat
  neg : ∀ T : Int, T < 0 → -4096 < T → negP p (ecMany a p (some P) (hexF 4 T.natAbs [])) = mulP a p (some P) (T.fmod o).toNat
structure Curve (a b p : Int) (n cnt : Nat) : Prop where
  count : (ptsTo a b p n n).length + 1 = cnt
  pos : 0 < (ptsTo a b p n n).length
  small : cnt < 4096
  hasse : ((cnt : Int) - p - 1) * ((cnt : Int) - p - 1) ≤ 4 * p
  ord : ∀ P ∈ ptsTo a b p n n, ∃ o, Ord a b p n cnt P o
  hom : ∀ P ∈ ptsTo a b p n n, ∀ Q ∈ ptsTo a b p n n, ∀ k, k < 4096 → ecMany a p (ecSum a p (some P) (some Q)) (hexF 4 k []) = ecSum a p (ecMany a p (some P) (hexF 4 k [])) (ecMany a p (some Q) (hexF 4 k []))
  all : ∀ Q ∈ ptsTo a b p n n, ecMany a p (some Q) (hexF 4 cnt []) = none
theorem ord_of {p a b m n : Nat} {t : List (Nat × Nat × Nat)} (R : Row p a b m n t) (hp : 0 < p) (hm : 0 < m * n) (hs : m * n < 4096) {P : Int × Int} (hP : P ∈ ptsTo a b p p p) : ∃ o, Ord a b p p (m * n) P o := by
  have hC : OnC a b p p (some P) := .inr ⟨P, hP, rfl⟩
  obtain ⟨o, h0, h1, h2, h3, h4, h5⟩ := R.ord hp hm hC
  refine ⟨o, h0, h4, h1, fun k hk hko => ?_, h3, fun T hT0 hT1 => ?_, fun T hT0 hT1 => ?_⟩
  · rcases R.on_mul hp hC k with h | ⟨Q, hq, h⟩
    · exact absurd h (h2 k hk hko)
    · exact ⟨Q, hq, h⟩
  · obtain ⟨T, rfl⟩ := Int.eq_ofNat_of_zero_le hT0
    rw [Int.natAbs_natCast, R.many_hex hp hC (by omega), h5 T, Int.fmod_eq_emod_of_nonneg _ (by omega)]
    congr 1
  · rw [R.many_hex hp hC (by omega)]
    have hf0 := Int.fmod_nonneg_of_pos T (b := (o : Int)) (by omega)
    have hf1 := Int.fmod_lt_of_pos T (b := (o : Int)) (by omega)
    refine R.neg hp hC ?_
    rw [h5]
    have e : (T.natAbs + (T.fmod o).toNat) % o = 0 := by
      have hd : (o : Int) ∣ T - T.fmod o := by
        rw [Int.fmod_eq_emod_of_nonneg _ (by omega)]
        exact Int.dvd_self_sub_emod
      obtain ⟨c, hc⟩ := hd
      have e2 : ((T.natAbs + (T.fmod o).toNat : Nat) : Int) = (o : Int) * (-c) := by rw [Int.mul_neg]; omega
      have e3 : ((T.natAbs + (T.fmod o).toNat : Nat) : Int) % (o : Int) = 0 := by rw [e2]; exact Int.mul_emod_right _ _
      omega
    rw [e]
    rfl
theorem curve_of {a b p : Int} {n : Nat} (hn : (n : Int) = p) (hp : p = 7 ∨ p = 11 ∨ p = 13) (ha0 : 0 ≤ a) (ha : a < p) (hb0 : 0 ≤ b) (hb : b < p) (hd : disc a b p ≠ 0) : ∃ cnt, Curve a b p n cnt := by
  subst hn
  have hp' : n = 7 ∨ n = 11 ∨ n = 13 := by omega
  obtain ⟨a, b, m, k, t, rfl, rfl, hc⟩ := curve_row hp' ha0 ha hb0 hb hd
  have R := chk_row (by omega) hc
  have hn0 : 0 < n := by omega
  have hcnt := R.count
  have hl := ptsTo_len a b n n n
  have hn13 : n ≤ 13 := by omega
  have hin : n * n ≤ 13 * 13 := Nat.mul_le_mul hn13 hn13
  have hh0 : 0 < (ptsTo a b n n n).length := by have := R.one; omega
  have hsm : m * k < 4096 := by omega
  have hm0 : 0 < m * k := by omega
  refine ⟨m * k, hcnt, hh0, hsm, ?_, fun P hP => ord_of R hn0 hm0 hsm hP, fun P hP Q hQ j hj => ?_, fun Q hQ => ?_⟩
  · have h1 := R.hasse1
    have h2 := R.hasse2
    generalize m * k = c at h1 h2
    by_cases hc : n + 1 ≤ c
    · have e : (c : Int) - n - 1 = ((c - (n + 1) : Nat) : Int) := by omega
      rw [e]
      exact_mod_cast h1
    · have e : (c : Int) - n - 1 = -((n + 1 - c : Nat) : Int) := by omega
      rw [e, Int.neg_mul_neg]
      exact_mod_cast h2
  · have cP : OnC a b n n (some P) := .inr ⟨P, hP, rfl⟩
    have cQ : OnC a b n n (some Q) := .inr ⟨Q, hQ, rfl⟩
    obtain ⟨u, v, h1, _⟩ := R.val cP
    obtain ⟨u', v', h2, _⟩ := R.val cQ
    have cS := (R.vadd hn0 cP cQ h1 h2).2
    rw [R.many_hex hn0 cP hj, R.many_hex hn0 cQ hj, R.many_hex hn0 cS hj]
    exact R.mul_hom hn0 cP cQ j
  · have cQ : OnC a b n n (some Q) := .inr ⟨Q, hQ, rfl⟩
    rw [R.many_hex hn0 cQ hsm]
    exact R.mul_count hn0 cQ
end SrMine
namespace SrMine
/-- a box around a goal that is still to be named -/
structure Hold (G : Prop) : Prop where
  get : G
end SrMine
namespace SrMine
local macro_rules | `(tactic| walk_at "subscriptTail Name Slice ref ref") => `(tactic| (k_here; (with_reducible show wpAny _ _ (subscriptTail _ (PySem.Expr.Slice _ _ (some _) _) (Value.ref _) (Value.ref _)) _ _ _); k_dflt (refine' slice4_ints ?F ?N ?l ?p ?q ?k ?o ?e ?_ ?s ?t ?z; (case F => k_asm); (case N => k_asm); (case l => kmk_list); (case p => kmk_part); (case q => kmk_part); (case k => kmk_part); (case o => decide); (case e => l_ints); (case s => with_unfolding_all rfl); (case t => kmk_pure); (case z => kmk_size)); intro D' ws' ms' h' F' N' l1 hI'; (try k_lt l1); (try k_sweep)))
local macro_rules | `(tactic| walk_at "subscriptTail") => `(tactic| (k_here; (with_reducible show wpAny _ _ (subscriptTail _ _ (Value.ref _) (Value.int _ _)) _ _ _); k_dflt (refine' item_T3 ?N ?m ?a ?b ?_; (case N => k_asm); (case m => k_mem); (case a => assumption); (case b => assumption); k_whole); intro p' tp' hp'))
local macro_rules | `(tactic| walk_at "binaryOp Mod int int") => `(tactic| (k_here; (with_reducible refine mod_pos ?mp ?_); (case mp => omega); intro r' hr' hr0' hr1'))
local macro_rules | `(tactic| walk_at "exec While Compare cons nil") => `(tactic| (k_here; with_reducible refine unstop ?_))
local macro_rules | `(tactic| walk_at "binaryOp Mult int int") => `(tactic| (with_reducible refine mul_int ?_ (IntMulOk.of_right (intBits_le_64 (by omega) (by omega)))))
set_option maxRecDepth 100000 in
set_option maxHeartbeats 8000000 in
noncomputable def seg1 : (G : Prop) ×' (Hold G → PySem.Challenge.rw_sr0021_01.Holds) := by
  apply PSigma.mk
  case snd =>
    intro hG
    w_top off
    refine hd ?_
    k_go0
    (all_goals try k_fold)
    rename World => w
    rename Heap.IsList _ _ _ => hL
    rename IntsAre _ _ => hI
    rename Below _ _ _ _ => hB
    rename Frag.In _ _ => hX
    rename Top _ _ _ _ _ _ => hT
    k_steps
    dsimp only [Stop]
    rename Fr _ _ _ _ => lF
    rename News _ _ _ _ => lN
    have lN' := news_sub lN (fun q hq => .tail _ (.tail _ (.tail _ hq)))
    have hwh : ∀ z : Int, 0 ≤ z.fmod (10 ^ Int.toNat 6) ∧ z.fmod (10 ^ Int.toNat 6) < 1000000 := fun z => ⟨Int.fmod_nonneg_of_pos z (by decide), Int.fmod_lt_of_pos z (by decide)⟩
    obtain ⟨wh, p, a, b, hC, hwh0, hwh1, hp, ha0, ha1, hb0, hb1⟩ : ∃ wh p a b : Int, Cut0 (frG lF) (frL lF) _ wh p a b (frH lF) ∧ 0 ≤ wh ∧ wh < 1000000 ∧ (p = 7 ∨ p = 11 ∨ p = 13) ∧ 0 ≤ a ∧ a < p ∧ 0 ≤ b ∧ b < p :=
      ⟨_, _, _, _, cut0_pack lF lN' (by assumption) (by assumption) (by assumption) (by assumption) (by with_unfolding_all rfl) (by with_unfolding_all rfl), (hwh _).1, (hwh _).2, by assumption, by assumption, by assumption, by assumption, by assumption⟩
    dsimp only [frG, frL, frH] at hC
    refine cutAt _ hC ?_
    clear lF lN lN' hC hwh
    rintro h tk ⟨u, ts, tw, tp, ta, tb, oX, oB, oA, oP, F, N, dB, dA, dP, ⟨v0, dX⟩, -⟩
    have hszS : (lstOf hL).size ≤ sizeLine := by kmk_size
    dsimp only [lstOf] at hszS
    rename_i j1 j2 j3 j4 j5 j6 j7 j8 j9 j10 j11 j12 j13 j14 j15 j16 j17 j18 j19 j20 j21 j22 j23 j24 j25 j26 j27 j28 j29 j30 j31 j32 j33 j34 j35 j36 j37 j38 j39 j40 j41 j42 j43 j44 j45 j46 j47 j48 j49 j50 j51 j52 j53 j54 j55 j56 j57 j58 j59 j60 j61 j62 j63 j64 j65 j66 j67 j68 j69 j70 j71 j72 j73 j74 j75 j76 j77 j78 j79 j80 j81 j82 j83 j84 j85 j86 j87 j88 j89 j90 j91 j92 j93 j94 j95 j96 j97 j98 j99 j100 j101 j102 j103 j104 j105 j106
    have hgen := j12
    clear j5 j6 j8 j9 j10 j11 j12 j13 j14 j15 j16 j17 j18 j19 j20 j21 j23 j24 j26 j27 j28 j29 j30 j31 j32 j35 j36 j37 j38 j39 j40 j41 j42 j43 j44 j45 j46 j47 j48 j49 j50 j51 j52 j53 j54 j55 j56 j57 j58 j59 j60 j61 j62 j63 j64 j65 j66 j67 j68 j69 j70 j71 j72 j73 j74 j75 j76 j77 j78 j79 j80 j81 j82 j83 j84 j85 j86 j87 j88 j89 j90 j91 j92 j93 j94 j95 j96 j97 j98 j99 j100 j101 j102 j103 j104 j105 j106
    revert w j1 j2 j3 j4 j7 hX hT j22 j25 j33 j34 hL hI hB qk ek wh p a b hwh0 hwh1 hp ha0 ha1 hb0 hb1 h tk u ts tw tp ta tb oX oB oA oP F N dB dA dP v0 dX hszS hgen
    exact hG.get
end SrMine
namespace SrMine
local macro_rules | `(tactic| walk_at "no such head") => `(tactic| fail)
local macro_rules | `(tactic| k_mem) => `(tactic| assumption)
local macro_rules | `(tactic| walk_at "binaryOp Mod int int") => `(tactic| (k_here; (with_reducible refine mod_pos ?mp ?_); (case mp => omega); intro r' hr' hr0' hr1'))
local macro_rules | `(tactic| walk_at "binaryOp Mult int int") => `(tactic| (with_reducible refine mul_int ?_ (IntMulOk.of_right (intBits_le_64 (by omega) (by omega)))))
local macro_rules | `(tactic| walk_at "exec While Compare cons nil") => `(tactic| (k_here; with_reducible refine unstop ?_))
local macro_rules | `(tactic| walk_at "ite") => `(tactic| (with_reducible refine unstop ?_))
local macro_rules | `(tactic| walk_at "KswEnd") => `(tactic| (with_reducible refine unstop ?_))
set_option maxRecDepth 100000 in
set_option maxHeartbeats 8000000 in
noncomputable def seg2 : (G : Prop) ×' (Hold G → seg1.1) := by
  apply PSigma.mk
  case snd =>
    intro hG
    w_top off
    intro w j1 j2 j3 j4 j7 hX hT j22 j25 j33 j34 hL hI hB qk ek wh p a b hwh0 hwh1 hp ha0 ha1 hb0 hb1 h tk u ts tw tp ta tb oX oB oA oP F N dB dA dP v0 dX hszS hgen
    k_fill
    refine ksw_while (σ := WB) (fun c => [(_, oX), (_, c.o), (_, oA), (_, oP)]) (fun c => []) (fun c => c.o.data = .cell (some (.int c.b c.t))) []
      (fun c => 0 ≤ c.b ∧ c.b < p) (fun c => mu a c.b p) ⟨b, tb, oB⟩ F N dB (fun _ h => nomatch h) ⟨hb0, hb1⟩ ?_
    clear F N dB hb0 hb1
    rintro c u₂ h₂ tk₂ dB ⟨hb0, hb1⟩ F N
    k_steps
    dsimp only [Stop]
    rename _ = Int.fmod _ _ => hr
    refine ite_int (fun hz => ?_) (fun hz => ?_)
    · rw [hz, ← disc_eq] at hr
      k_steps
      dsimp only [Stop]
      rename Fr _ _ _ _ => lF
      rename News _ _ _ _ => lN
      rename Obj.data _ = _ => dB'
      rename 0 ≤ _ => hr0
      rename _ < p => hr1
      rename _ = Int.fmod _ _ => hr'
      subst hr'
      refine ksw_end (⟨(c.b + 1).fmod p, _, _⟩ : WB) lF lN subI dB' (fun _ h => nomatch h) (fun z _ h3 => ?_) ⟨hr0, hr1⟩ (mu_fall hp ha0 ha1 hb0 hb1 hr.symm)
      simp [kstB]
    · rw [hr, ← disc_eq] at hz
      refine cutAt (Cut1 j2.heap j2.heap.objs.size j33 wh p a c.b) (cut0_pack F N dB dA dP dX (by with_unfolding_all rfl) (by with_unfolding_all rfl)) ?_
      generalize c.b = b' at hb0 hb1 hz
      clear F N dB dA dP dX hr
      clear b h tk u ts tw tp ta tb oX oB oA oP v0
      rename_i j51 j52 j53
      clear j52 j53 j51 c u₂ h₂ tk₂
      rintro h tk ⟨u, ts, tw, tp, ta, tb, oX, oB, oA, oP, F, N, dB, dA, dP, ⟨v0, dX⟩, -⟩
      clear ts
      revert w j1 j2 j3 j4 j7 hX hT j22 j25 j33 j34 hL hI hB qk ek wh p a hwh0 hwh1 hp ha0 ha1 hszS hgen b' hb0 hb1 hz h tk u tw tp ta tb oX oB oA oP F N dB dA dP v0 dX
      exact hG.get
end SrMine
namespace SrMine
local macro_rules | `(tactic| k_mem) => `(tactic| assumption)
local macro_rules | `(tactic| k_all) => `(tactic| assumption)
local macro_rules | `(tactic| walk_at "binaryOp Mod int int") => `(tactic| (k_here; (with_reducible refine mod_pos ?mp ?_); (case mp => omega); intro r' hr' hr0' hr1'))
local macro_rules | `(tactic| walk_at "binaryOp Mult int int") => `(tactic| (with_reducible refine mul_int ?_ (IntMulOk.of_right (intBits_le_64 (by omega) (by omega)))))
local macro_rules | `(tactic| walk_at "eval Name") => `(tactic| (k_here; (with_reducible rename Fr _ _ _ _ => kF); k_dflt (refine' nameX_B kF ?k1 ?k2 ?k3 ?k4 ?k5 ?_; (case k1 => k_asm); (case k2 => k_asm); (case k3 => k_is); (case k4 => boot_by_name); (case k5 => decide); k_whole)))
local macro_rules | `(tactic| walk_at "eval Name") => `(tactic| (k_here; (with_reducible rename Fr _ _ _ _ => kF); k_dflt (refine' nameX_K kF ?k1 ?k2 ?k3 ?_; (case k1 => k_asm); (case k2 => k_asm); (case k3 => k_is); k_whole)))
section
local macro_rules | `(tactic| walk_at "binaryOp Add str str") => `(tactic| (k_here; (with_reducible refine add_str ?_ ?sz); (case sz => (simp only [Str.length_append, kq_length, PySem.sizeLine_eq]; omega)); intro t' tk'))
local macro_rules | `(tactic| walk_at "exec For Name Call cons nil") => `(tactic| (k_here; with_reducible refine unstop ?_))
local macro_rules | `(tactic| walk_at "pyIter ref") => `(tactic| (k_here; with_reducible refine unstop ?_))
local macro_rules | `(tactic| walk_at "GrowPost") => `(tactic| (dsimp only [GrowPost]))
local macro_rules | `(tactic| walk_at "GrowEnd") => `(tactic| (with_reducible refine unstop ?_))
local macro_rules | `(tactic| walk_at "subscriptTail") => `(tactic| (k_here; (with_reducible show wpAny _ _ (subscriptTail _ _ (Value.ref _) (Value.int _ _)) _ _ _); k_dflt (refine' item_T4 ?N ?m ?a ?b ?l ?_; (case N => k_asm); (case m => k_mem); (case a => assumption); (case b => assumption); (case l => decide +kernel); k_whole); intro v' tv' hv' hvl'))
local macro_rules | `(tactic| walk_at "call ref") => `(tactic| (k_here; (with_reducible show wpAny _ _ (call (Value.ref _) [Value.int _ _]) _ _ _); k_dflt (refine' word_call ?k1 ?k2 ?k3 ?k4 ?k5 ?kK ?c1 ?e1 ?e2 ?_; (case k1 => k_asm); (case k2 => k_asm); (case k3 => k_asm); (case k4 => k_asm); (case k5 => k_asm); (case kK => exact rfl); (case c1 => omega); (case e1 => ktr_room); (case e2 => ktr_units); k_whole); (intro x' t' h' tk' hx' F' N'); (have hx9 := word_kq hx' (by omega) (by omega)); subst hx9; clear hx'; (try dsimp only); (try k_fold)))
local macro_rules | `(tactic| walk_at "call ref") => `(tactic| (k_here; (with_reducible show wpAny _ _ (call (Value.ref _) [Value.ref _, Value.str _ _] _) _ _ _); with_reducible refine unstop ?_))
set_option maxRecDepth 100000 in
set_option maxHeartbeats 8000000 in
noncomputable def seg3 : (G : Prop) ×' (Hold G → seg2.1) := by
  apply PSigma.mk
  case snd =>
    intro hG
    w_top off
    intro w j1 j2 j3 j4 j7 hX hT j22 j25 j33 j34 hL hI hB qk ek wh p a hwh0 hwh1 hp ha0 ha1 hszS hgen b' hb0 hb1 hz h tk u tw tp ta tb oX oB oA oP F N dB dA dP v0 dX
    revert hX
    k_fill
    intro hX
    k_steps
    dsimp only [Stop]
    rename Fr _ _ _ _ => lF
    rename News _ _ _ _ => lN
    obtain ⟨J, hJ, hC⟩ : ∃ J : Addr, (_ ∧ _ ∧ _ ∧ j2.heap.objs.size + 1 < J) ∧ CutJ (frG lF) (frL lF) j33 wh p a b' J [] 0 (frH lF) :=
      ⟨_, by assumption, cutJ_pack lF lN dB dA dP dX (by with_unfolding_all rfl) (by with_unfolding_all rfl) (by with_unfolding_all rfl)⟩
    dsimp only [frG, frL, frH] at hC
    refine cutAt _ hC ?_
    clear lF lN hC dB dA dP dX
    rintro h tk ⟨u, tw, tp, ta, tb, oX, oB, oA, oP, F, N, dB, dA, dP, v0, dX⟩
    k_dflt (refine' For_invVF F ?k1 ?k2 ?_; (case k1 => exact rfl); (case k2 => exact rfl); k_whole)
    k_steps
    dsimp only [Stop]
    rename_i j1 j2 j3 j4 j5 j6 j7 j8 j9 j10 j11 j12 j13 j14 j15 j16 j17 j18 j19 j20 j21 j22 j23 j24 j25 j26 j27
    clear j1 j2 j3 j4 j5 j6 j7 j8 j9 j10 j11 j12 j13 j14 j15 j16 j17 j18
    rename IsRange _ _ _ _ _ _ _ _ => hR
    rename Fr _ _ _ _ => lF
    rename News _ _ _ _ => lN
    obtain ⟨n, hn⟩ : ∃ n : Nat, (n : Int) = p := ⟨p.toNat, by omega⟩
    refine range_grow (σ := JS) (n := n) (fun c => [(J, ({ cls := .type "list", data := .seq c.vs.toArray c.nn } : Obj)), (_, oX), (_, oB), (_, oA), (_, oP)]) (fun c => [])
      (fun i c => ∃ xs jl, StrsAre c.vs xs ∧ JJ n i xs jl) [Str.ofString "ahead", Str.ofString "behind", Str.ofString "line"] ⟨[], 0⟩ (by rfl) hR
      (by rcases hp with h | h | h <;> rw [h] <;> decide) (by rw [hn]; rcases hp with h | h | h <;> rw [h] <;> decide) lF lN ⟨[], [], .nil, jj_nil n⟩ (fun _ h => nomatch h) ?_ ?_
    · clear lF lN hR
      intro c i t u₁ h₁ tk₁ own hi hoff ⟨xs, jl, hv, hj⟩ F₁ N₁
      replace N₁ := news_sub N₁ appSwap
      simp only [List.cons_append, List.nil_append] at N₁
      have hi' : (i : Int) < p := by omega
      have hi0 : 0 ≤ (i : Int) := by omega
      k_steps
      dsimp only [Stop]
      rename Fr _ _ _ _ => lF
      rename News _ _ _ _ => lN
      rename _ = Int.fmod (_ * _) p => hr
      subst hr
      rename _ = Str.ofString ": " ∨ _ => hv2
      rename _ = Str.ofString "" ∨ _ => hv1
      have hline := line_is (os_ahead hv1) (os_behind hv2) (i * i % n) i
      unfold lineOf at hline
      rw [sq_key hn, last_key] at lF ⊢
      have hn100 : i ≤ 100 := by omega
      have hjj := hj.jour hn100
      have lN' := news_sub lN (b := (J, ({ cls := .type "list", data := .seq c.vs.toArray c.nn } : Obj)) :: (j2.heap.objs.size + 1 + 1 + 1 + 1, oX) :: (j2.heap.objs.size + 1 + 1 + 1, oB) :: (j2.heap.objs.size + 1 + 1, oA) :: (j2.heap.objs.size + 1, oP) :: own) (fun q hq => .tail _ (.tail _ hq))
      k_dflt (refine' insort_call (q := i * i % n) ?k1 lF ?k3 lN' ?k5 ?kK ?r ?v hjj hline.short hline.key ?e1 ?e2 ?_)
      case k1 => k_asm
      case k3 => k_asm
      case k5 => k_asm
      case kK => exact rfl
      case r =>
        intro q hq
        simp only [List.mem_cons] at hq
        rcases hq with rfl | rfl | rfl | rfl | hq
        · exact Nat.ne_of_lt hJ.1
        · exact Nat.ne_of_lt hJ.2.1
        · exact Nat.ne_of_lt hJ.2.2.1
        · exact Nat.ne_of_lt hJ.2.2.2
        · exact hoff q hq J (.head _)
      case v => exact hv
      case e1 => ktr_room
      case e2 => ktr_units
      clear lF lN lN'
      intro r9 t9 h9 tk9 hr1 hb1 hb2 F9 N9
      obtain ⟨vs', hvs', N9'⟩ : ∃ vs' : List Value, StrsAre vs' (xs.take r9 ++ _ :: xs.drop r9) ∧ News j2.heap j2.heap.objs.size h9 ((J, ({ cls := .type "list", data := .seq vs'.toArray (c.nn + 1) } : Obj)) :: (j2.heap.objs.size + 1 + 1 + 1 + 1, oX) :: (j2.heap.objs.size + 1 + 1 + 1, oB) :: (j2.heap.objs.size + 1 + 1, oA) :: (j2.heap.objs.size + 1, oP) :: own) := ⟨_, strs_ins r9 hv, N9⟩
      clear N9
      k_steps
      dsimp only [Stop]
      rename Fr _ _ _ _ => lF
      rename News _ _ _ _ => lN
      refine grow_end (⟨vs', c.nn + 1⟩ : JS) lF lN ⟨_, _, hvs', hj.ins hline hb1 hb2⟩ (fun _ h => nomatch h) ?_ ?_ ?_ hoff
      · intro z h1 h2 h3
        simp only [List.contains_cons, List.contains_nil, Bool.or_false, Bool.or_eq_false_iff, beq_eq_false_iff_ne, ne_eq] at h3
        simp [kstB, h1, h3]
      · intro q hq
        exact List.mem_append.mpr (.inl hq)
      · intro q hq
        exact .tail _ (.tail _ (.tail _ (.tail _ (.tail _ hq))))
    · clear lF lN hR
      rintro ⟨vs, nn⟩ u₁ h₁ tk₁ ⟨xs, jl, hv, hj⟩ F₁ N₁
      dsimp only at hv F₁ N₁
      refine cutAt (s₀ := j2) (CutJ j2.heap j2.heap.objs.size j33 wh p a b' J vs nn) (cutJ_pack F₁ N₁ dB dA dP dX (by with_unfolding_all rfl) (by with_unfolding_all rfl) (by with_unfolding_all rfl)) ?_
      clear F₁ N₁ dB dA dP dX tk₁ h₁ u₁ j27 j23 j22 j21 j20 j19 oP oA oB oX v0 tb ta tp tw u tk h
      rintro h tk ⟨u, tw, tp, ta, tb, oX, oB, oA, oP, F, N, dB, dA, dP, v0, dX⟩
      rename_i r1
      revert w j1 j2 j3 j4 j7 hT j22 j25 j33 j34 hL hI hB qk ek wh p a hwh0 hwh1 hp ha0 ha1 hszS hgen b' hb0 hb1 hz r1 hX J hJ n hn vs nn xs jl hv hj h tk u tw tp ta tb oX oB oA oP F N dB dA dP v0 dX
      exact hG.get
end
section
local macro_rules | `(tactic| walk_at "exec For Name Call cons nil") => `(tactic| (k_here; with_reducible refine unstop ?_))
local macro_rules | `(tactic| walk_at "pyIter ref") => `(tactic| (k_here; with_reducible refine unstop ?_))
local macro_rules | `(tactic| walk_at "GrowPostT") => `(tactic| (dsimp only [GrowPostT]))
local macro_rules | `(tactic| walk_at "GrowEnd") => `(tactic| (with_reducible refine unstop ?_))
local macro_rules | `(tactic| walk_at "eval ListComp") => `(tactic| (k_here; with_reducible refine unstop ?_))
local macro_rules | `(tactic| walk_at "call ref") => `(tactic| (k_here; (with_reducible show wpAny _ _ (call (Value.ref _) [Value.int _ _]) _ _ _); k_dflt (refine' word_call ?k1 ?k2 ?k3 ?k4 ?k5 ?kK ?c1 ?e1 ?e2 ?_; (case k1 => k_asm); (case k2 => k_asm); (case k3 => k_asm); (case k4 => k_asm); (case k5 => k_asm); (case kK => exact rfl); (case c1 => omega); (case e1 => ktr_room); (case e2 => ktr_units); k_whole); (intro x' t' h' tk' hx' F' N'); (have hx9 := word_kq hx' (by omega) (by omega)); subst hx9; clear hx'; (try dsimp only); (try k_fold)))
local macro_rules | `(tactic| walk_at "call ref") => `(tactic| (k_here; (with_reducible show wpAny _ _ (call (Value.ref _) [Value.ref _, Value.str _ _] _) _ _ _); with_reducible refine unstop ?_))
section
set_option maxRecDepth 100000 in
set_option maxHeartbeats 2000000 in
noncomputable def seg4 : (G : Prop) ×' (H : Prop) ×' (Hold G → Hold H → seg3.1) := by
  apply PSigma.mk
  case snd =>
    apply PSigma.mk
    case snd =>
      intro hG hH
      w_top off
      intro w j1 j2 j3 j4 j7 hT j22 j25 j33 j34 hL hI hB qk ek wh p a hwh0 hwh1 hp ha0 ha1 hszS hgen b' hb0 hb1 hz _ hX J hJ n hn vs nn xs jl hv hj h tk u tw tp ta tb oX oB oA oP F N dB dA dP v0 dX
      revert hX
      k_fill
      intro hX
      k_steps
      dsimp only [Stop]
      rename Fr _ _ _ _ => lF
      rename News _ _ _ _ => lN
      obtain ⟨Pa, hPa, hC⟩ : ∃ Pa : Addr, (J < Pa ∧ _ ∧ _ ∧ _ ∧ j2.heap.objs.size + 1 < Pa) ∧ CutG (frG lF) (frL lF) [(Str.ofString "points", .ref Pa), (Str.ofString "journal", .ref J), (Str.ofString "script", .ref j33), (Str.ofString "whole", .int wh tw)] ((Pa, ({ cls := .type "list", data := .seq ([] : List Value).toArray 0 } : Obj)) :: (ledOf lN).tail) (frH lF) :=
        ⟨_, by assumption, cutG_pack lF lN (List.forall_mem_cons.mpr ⟨by with_unfolding_all rfl, List.forall_mem_cons.mpr ⟨by with_unfolding_all rfl, List.forall_mem_cons.mpr ⟨by with_unfolding_all rfl, List.forall_mem_cons.mpr ⟨by with_unfolding_all rfl, fun _ h => nomatch h⟩⟩⟩⟩)⟩
      dsimp only [frG, frL, frH, ledOf, List.tail] at hC
      refine cutAt _ hC ?_
      clear lF lN hC
      rintro h tk ⟨u, F, N⟩
      k_dflt (refine' For_invTF F ?_ (by intro _; rfl))
      k_steps
      try dsimp only [Stop]
      rename IsRange _ _ _ _ _ _ _ _ => hR
      rename Fr _ _ _ _ => lF
      rename News _ _ _ _ => lN
      refine range_growT (σ := PS) (n := n) (fun c => (Pa, ({ cls := .type "list", data := .seq c.pv.toArray c.pn } : Obj)) :: (J, ({ cls := .type "list", data := .seq vs.toArray nn } : Obj)) :: (j2.heap.objs.size + 1 + 1 + 1 + 1, c.oX) :: (j2.heap.objs.size + 1 + 1 + 1, oB) :: (j2.heap.objs.size + 1 + 1, oA) :: (j2.heap.objs.size + 1, oP) :: c.tl) (fun c => [])
        (fun i c => (∃ v0, c.oX.data = .cell v0) ∧ PtsIn c.tl c.pv (ptsTo a b' p n i) ∧ OwnOff c.tl [Pa, J, j2.heap.objs.size + 1 + 1 + 1 + 1, j2.heap.objs.size + 1 + 1 + 1, j2.heap.objs.size + 1 + 1, j2.heap.objs.size + 1]) [Str.ofString "name", Str.ofString "low", Str.ofString "high"] ⟨oX, [], 0, []⟩ (by rfl)
        (fun I v s' Q' hq => ?_) hR
        (by rcases hp with h | h | h <;> rw [h] <;> decide) (by rw [hn]; rcases hp with h | h | h <;> rw [h] <;> decide) lF lN ⟨⟨_, dX⟩, .nil, fun _ h => nomatch h⟩ (fun _ h => nomatch h) ?_ ?_
      · exact wpAny_pure hq
      · clear lF lN hR
        rintro c i t u₁ h₁ own hi hoff ⟨⟨v1, hv1⟩, hpts, hof⟩ F₁ N₁
        obtain ⟨tl2, htl2⟩ : ∃ tl2 : Led, tl2 = c.tl ++ own := ⟨_, rfl⟩
        replace N₁ := news_sub N₁ appSwap
        simp only [List.cons_append, List.nil_append] at N₁
        rw [← htl2] at N₁
        have hof2 : OwnOff tl2 [Pa, J, j2.heap.objs.size + 1 + 1 + 1 + 1, j2.heap.objs.size + 1 + 1 + 1, j2.heap.objs.size + 1 + 1, j2.heap.objs.size + 1] := by
          rw [htl2]
          intro q hq b hb
          rcases List.mem_append.mp hq with hq | hq
          · exact hof q hq b hb
          · refine hoff q hq b ?_
            simp only [List.map_cons, List.mem_cons, List.not_mem_nil, or_false] at hb ⊢
            rcases hb with h | h | h | h | h | h <;> simp [h]
        have hoff3 : OwnOff own ((c.tl).map (·.1)) := fun q hq b hb => hoff q hq b (by simp only [List.map_cons, List.mem_cons]; simp [hb])
        have hpts2 : PtsIn tl2 c.pv (ptsTo a b' p n i) := hpts.mono fun q hq => by rw [htl2]; exact List.mem_append.mpr (.inl hq)
        have hi' : (i : Int) < p := by omega
        have hi0 : 0 ≤ (i : Int) := by omega
        k_steps
        try dsimp only [Stop]
        rename Fr _ _ _ _ => lF
        rename News _ _ _ _ => lN
        rename _ = Int.fmod _ p => hr
        subst hr
        have hrk : (16 + (((i : Int) * i * i + a * i + b').fmod p) - 16).toNat = rhs a b' p i := by unfold rhs; generalize Int.fmod _ p = z; omega
        rw [hrk] at lF ⊢
        have hjj := hj.jour (by omega)
        k_dflt (refine' bisL_call (q := rhs a b' p i) ?k1 lF ?k3 lN ?k5 ?kK ?m hv hjj ?e1 ?e2 ?_)
        case k1 => k_asm
        case k3 => k_asm
        case k5 => k_asm
        case kK => exact rfl
        case m => k_mem
        case e1 => ktr_room
        case e2 => ktr_units
        clear lF lN
        intro lo tlo h9 tk9 hlo hlo1 hlo2 F9 N9
        k_steps
        try dsimp only [Stop]
        rename Fr _ _ _ _ => lF
        rename News _ _ _ _ => lN
        k_dflt (refine' bisR_call (q := rhs a b' p i) ?k1 lF ?k3 lN ?k5 ?kK ?m hv hjj ?e1 ?e2 ?_)
        case k1 => k_asm
        case k3 => k_asm
        case k5 => k_asm
        case kK => exact rfl
        case m => k_mem
        case e1 => ktr_room
        case e2 => ktr_units
        clear lF lN
        intro hi9 thi h9 tk9 hhi hhi1 hhi2 F9 N9
        have hsl := hj.slice hlo1 hlo2 hhi1 hhi2
        k_steps
        try dsimp only [Stop]
        rename_i r1 r2 r3 r4 r5 r6 r7 r8 r9 r10 r11 r12 r13 r14 r15 r16 r17 r18 r19 r20 r21 r22 r23 r24 r25 r26 r27 r28 r29 r30 r31 r32 r33 r34 r35
        revert w j1 j2 j3 j4 j7 hT j22 j25 j33 j34 hL hI hB qk ek wh p a hwh0 hwh1 hp ha0 ha1 hszS hgen b' hb0 hb1 hz r1 J hJ n hn vs nn xs jl hv hj r2 r3 r4 tw tp ta tb oX oB oA oP dB dA dP v0 dX hX r5 r6 r7 r8 r9 Pa hPa h r10 u r11 r12 r13 r14 r15 r16 c i t u₁ h₁ own hi hoff v1 hv1 hpts hof F₁ tl2 htl2 N₁ hof2 hoff3 hpts2 hi' hi0 r17 r18 r19 r20 r21 r22 r23 r24 r25 r26 r27 r28 hrk hjj lo tlo r29 r30 hlo hlo1 hlo2 r31 r32 hi9 thi h9 tk9 hhi hhi1 hhi2 hsl r33 r34 r35 tk
        exact hG.get
      · clear lF lN hR
        rintro ⟨oX9, pv, pn, tl⟩ u9 h9 tk9 ⟨hoX9, hpts, hof⟩ F9 N9
        dsimp only at hoX9 hpts hof F9 N9
        refine cutAt (s₀ := j2) (CutG j2.heap j2.heap.objs.size [(Str.ofString "points", .ref Pa), (Str.ofString "journal", .ref J), (Str.ofString "script", .ref j33), (Str.ofString "whole", .int wh tw)] ((Pa, ({ cls := .type "list", data := .seq pv.toArray pn } : Obj)) :: (J, ({ cls := .type "list", data := .seq vs.toArray nn } : Obj)) :: (j2.heap.objs.size + 1 + 1 + 1 + 1, oX9) :: (j2.heap.objs.size + 1 + 1 + 1, oB) :: (j2.heap.objs.size + 1 + 1, oA) :: (j2.heap.objs.size + 1, oP) :: tl))
          (cutG_pack F9 N9 (List.forall_mem_cons.mpr ⟨by with_unfolding_all rfl, List.forall_mem_cons.mpr ⟨by with_unfolding_all rfl, List.forall_mem_cons.mpr ⟨by with_unfolding_all rfl, List.forall_mem_cons.mpr ⟨by with_unfolding_all rfl, fun _ h => nomatch h⟩⟩⟩⟩)) ?_
        clear F9 N9 u9
        rintro h8 tk8 ⟨u8, F8, N8⟩
        obtain ⟨v9, dX9⟩ := hoX9
        rename_i r1 r2 r3 r4 r5 r6 r7 r8 r9 r10 r11 r12 r13 r14 r15 r16 r17
        revert w j1 j2 j3 j4 j7 hT j22 j25 j33 j34 hL hI hB qk ek wh p a hwh0 hwh1 hp ha0 ha1 hszS hgen b' hb0 hb1 hz r1 J hJ n hn vs nn xs jl hv hj r2 r3 r4 tw tp ta tb oX oB oA oP dB dA dP v0 dX hX r5 r6 r7 r8 r9 Pa hPa h tk u r10 r11 r12 r13 r14 r15 r16 r17 oX9 pv pn tl h9 tk9 hpts hof h8 tk8 u8 F8 N8 v9 dX9
        exact hH.get
end
section
set_option maxRecDepth 100000 in
set_option maxHeartbeats 2000000 in
theorem law5 : seg4.1 := by
  w_top off
  intro w j1 j2 j3 j4 j7 hT j22 j25 j33 j34 hL hI hB qk ek wh p a hwh0 hwh1 hp ha0 ha1 hszS hgen b' hb0 hb1 hz _ J hJ n hn vs nn xs jl hv hj _ _ _ tw tp ta tb oX oB oA oP dB dA dP v0 dX hX _ _ _ _ _ Pa hPa h _ u _ _ _ _ _ _ c i t u₁ h₁ own hi hoff v1 hv1 hpts hof F₁ tl2 htl2 N₁ hof2 hoff3 hpts2 hi' hi0 _ _ _ _ _ _ _ _ _ _ _ _ hrk hjj lo tlo _ _ hlo hlo1 hlo2 _ _ hi9 thi h9 tk9 hhi hhi1 hhi2 hsl _ _ _ tk
  revert hX
  k_fill
  intro hX
  rename Fr _ _ _ _ => lF
  k_dflt (refine LCg.ListComp_U (F₀ := lF) (by with_unfolding_all rfl) (by decide) (by rfl) (by decide) (by rfl) ?_)
  k_steps
  try dsimp only [Stop]
  rename Fr _ _ _ _ => lF
  rename News _ _ _ _ => lN
  have hxl := hv.length
  have hjl := hj.lines.length
  have hjn := hj.len
  have hn13 : n ≤ 13 := by omega
  obtain ⟨ws, ys, hws, hwy, hyl⟩ := seg_lines hv hj hsl
  have hwl := seg_len (lo := lo) (hi := hi9) hv hj
  rw [hws] at hwl
  have hpk := (pick_seg (vs := vs) (lo := lo) (hi := hi9) (by omega) (by omega)).trans hws
  have hJl : Heap.IsList (frH lF) J vs.toArray := ⟨_, (lN (J, ({ cls := .type "list", data := .seq vs.toArray nn } : Obj)) (by k_mem)).1, rfl, _, rfl⟩
  k_dflt (refine' kmk_slice_lit (s := { heap := frH lF, gens := h₁.gens, drawn := h₁.drawn, toks := _, os := h₁.os }) ?vf1 ?vn1 ?vl1 ?vp1 ?vp2 ?ve1 ?_ ?vs1 ?vt1 ?vz1)
  case vf1 => exact lF
  case vn1 => exact lN
  case vl1 => exact hJl
  case ve1 => exact hpk
  case vp1 => kmk_part
  case vp2 => kmk_part
  case vs1 => with_unfolding_all rfl
  case vt1 => kmk_pure
  case vz1 => (rw [PySem.sizeLine_eq]; simp; omega)
  dsimp only [frH]
  clear hJl lF lN
  intro D h9 F9 N9 hD9
  obtain ⟨oX2, hoX2⟩ : ∃ o2 : Obj, o2 = _ ∧ o2.data = Data.cell (some (Value.int (i : Int) t)) := ⟨_, rfl, by assumption⟩
  obtain ⟨hoe, hoX2⟩ := hoX2
  rw [← hoe] at N9
  have hsz : ws.toArray.size ≤ sizeLine := by rw [PySem.sizeLine_eq, List.size_toArray]; omega
  refine LCg.CompSrc.ledger (by rfl) F9 N9 (.head _) hsz ?_
  intro g9
  obtain ⟨jf, hjf⟩ : ∃ jf, jf = jl.filter (fun (e : Nat × Nat) => decide (e.1 = rhs a b' p i)) := ⟨_, rfl⟩
  rw [← hjf] at hyl
  have hwyl := hwy.length
  have hyll := hyl.length
  have hsz2 : ws.toArray.size = jf.length := by rw [List.size_toArray]; omega
  rw [hsz2]
  refine comp_grow (fun k ys news => ∃ tl3 tl5 : Led, news = (D, W.listOf ws.toArray 0) :: (Pa, ({ cls := .type "list", data := .seq c.pv.toArray c.pn } : Obj)) :: (J, ({ cls := .type "list", data := .seq vs.toArray nn } : Obj)) :: (j2.heap.objs.size + 1 + 1 + 1 + 1, oX2) :: (j2.heap.objs.size + 1 + 1 + 1, oB) :: (j2.heap.objs.size + 1 + 1, oA) :: (j2.heap.objs.size + 1, oP) :: tl5 ∧ tl5 = tl3 ++ own ∧ OwnOff own (tl3.map (·.1)) ∧
    (∀ q ∈ c.tl, q ∈ tl3) ∧ PtsIn tl3 ys ((jf.take k).map (fun (e : Nat × Nat) => ((i : Int), (e.2 : Int)))) ∧ OwnOff tl5 [D, Pa, J, j2.heap.objs.size + 1 + 1 + 1 + 1, j2.heap.objs.size + 1 + 1 + 1, j2.heap.objs.size + 1 + 1, j2.heap.objs.size + 1]) ?_ ?_ ?_
  · refine ⟨c.tl, tl2, rfl, htl2, hoff3, fun _ h => h, ?_, ?_⟩
    · simp only [List.take_zero, List.map_nil]; exact .nil
    · intro q hq b hb
      rcases List.mem_cons.mp hb with rfl | hb
      · exact Nat.ne_of_lt (hD9 q (.tail _ (.tail _ (.tail _ (.tail _ (.tail _ (.tail _ hq)))))))
      · exact hof2 q hq b hb
  · rintro k v ys9 news9 I oI C oC D2 m2 h8 tk8 E8 hk hvk ⟨tl3, tl5, rfl, htl5, hoff5, hsub, hpp, hof3⟩ hC hx F8 N8 off8 ne8
    obtain ⟨y, ty, rfl, hyk⟩ := hwy.item k v (by simpa using hvk)
    obtain ⟨kk, yy, hjk, hline⟩ := hyl.get k y hyk
    obtain ⟨hit, hyl1⟩ := hline.item
    have hyl2 := hline.short
    k_steps
    try dsimp only [Stop]
    rename Fr _ _ _ _ => lF
    rename News _ _ _ _ => lN
    rename I < _ ∧ _ => hl
    rename Addr => T
    rw [hit] at lN
    have e9 : (((⟨#[yy + 65]⟩ : Str).cps.getD 0 0 : Nat) : Int) - 65 = yy := by show ((yy + 65 : Nat) : Int) - 65 = yy; omega
    rw [e9] at lN
    obtain ⟨hTI, hTC, hTD2, hTD, hTPa, hTJ, hT4, hT3, hT2, hT1, hTl⟩ := hl
    refine LCg.CompEnd.intro lF lN ((D, _) :: (Pa, _) :: (J, _) :: (_, oX2) :: (_, oB) :: (_, oA) :: (_, oP) :: (T, ({ cls := .type "tuple", data := .seq #[.int (i : Int) t, .int (yy : Int) (tk8 + 1 + 1 + 1 + 1 + 1)] 0 } : Obj)) :: tl5) (fun q hq => ?_) (LCg.Off3.of fun q hq => ?_) (.inr ⟨_, .head _, rfl, _, rfl⟩) ⟨_ :: tl3, _, rfl, by rw [htl5]; rfl, ?_, fun q h => .tail _ (hsub q h), ?_, ?_⟩
    · simp only [List.mem_cons] at hq ⊢
      rcases hq with h | h | h | h | h | h | h | h | h | h | h | h <;> simp only [h, true_or, or_true]
    · simp only [List.mem_cons] at hq
      rcases hq with h | h | h | h | h | h | h | h | h
      · exact off8.mem q (by rw [h]; exact .head _)
      · exact off8.mem q (by rw [h]; exact .tail _ (.head _))
      · exact off8.mem q (by rw [h]; exact .tail _ (.tail _ (.head _)))
      · exact off8.mem q (by rw [h]; exact .tail _ (.tail _ (.tail _ (.head _))))
      · exact off8.mem q (by rw [h]; exact .tail _ (.tail _ (.tail _ (.tail _ (.head _)))))
      · exact off8.mem q (by rw [h]; exact .tail _ (.tail _ (.tail _ (.tail _ (.tail _ (.head _))))))
      · exact off8.mem q (by rw [h]; exact .tail _ (.tail _ (.tail _ (.tail _ (.tail _ (.tail _ (.head _)))))))
      · subst h; exact ⟨Nat.ne_of_gt hTI, Nat.ne_of_gt hTC, Nat.ne_of_gt hTD2⟩
      · exact off8.mem q (.tail _ (.tail _ (.tail _ (.tail _ (.tail _ (.tail _ (.tail _ h)))))))
    · intro q hq b hb
      rcases List.mem_cons.mp hb with rfl | hb
      · exact Nat.ne_of_lt (kst_ltOf hTl q (by rw [htl5]; exact List.mem_append.mpr (.inr hq)))
      · exact hoff5 q hq b hb
    · rw [List.take_add_one, hjk, List.map_append]
      exact (hpp.mono fun q h => .tail _ h).app (.cons (.at (.head _)) .nil)
    · intro q hq b hb
      rcases List.mem_cons.mp hq with rfl | hq
      · simp only [List.mem_cons, List.not_mem_nil, or_false] at hb
        rcases hb with rfl | rfl | rfl | rfl | rfl | rfl | rfl
        · exact Nat.ne_of_gt hTD
        · exact Nat.ne_of_gt hTPa
        · exact Nat.ne_of_gt hTJ
        · exact Nat.ne_of_gt hT4
        · exact Nat.ne_of_gt hT3
        · exact Nat.ne_of_gt hT2
        · exact Nat.ne_of_gt hT1
      · exact hof3 q hq b hb
  · rintro ys9 news9 ⟨tl3, tl5, rfl, htl5, hoff5, hsub, hpp, hof3⟩
    unfold LCg.FinE
    intro D9 h6 tk6 F6 N6 hne
    try dsimp only at F6 N6 ⊢
    k_steps
    try dsimp only [Stop]
    rename Fr _ _ _ _ => lF
    rename News _ _ _ _ => lN
    obtain ⟨hD0, hD1, _⟩ := hne
    have hyl9 : ys9.length = jf.length := by have := hpp.length; simpa using this
    have hpl := hpts.length
    have hpl2 := ptsTo_len a b' p n i
    have hin : i * n ≤ 13 * 13 := Nat.mul_le_mul (by omega) hn13
    k_dflt (refine' extend_in (s := { heap := frH lF, gens := h₁.gens, drawn := h₁.drawn, toks := _, os := h₁.os }) (own := [(D9, _), (D, _)]) ?vf2 ?vn2 ?vo2 ?vr2 ?vb2 ?_ ?vz2)
    case vf2 => exact lF
    case vn2 => exact lN
    case vo2 =>
      intro q hq
      rcases List.mem_cons.mp hq with rfl | hq
      · exact Ne.symm hD1
      · rcases List.mem_cons.mp hq with rfl | hq
        · exact Ne.symm (Nat.ne_of_lt (hD9 (Pa, _) (.head _)))
        · exact nomatch hq
    case vr2 =>
      intro q hq
      simp only [List.mem_cons] at hq
      rcases hq with rfl | rfl | rfl | rfl | rfl | hq
      · exact Nat.ne_of_lt hPa.1
      · exact Nat.ne_of_lt hPa.2.1
      · exact Nat.ne_of_lt hPa.2.2.1
      · exact Nat.ne_of_lt hPa.2.2.2.1
      · exact Nat.ne_of_lt hPa.2.2.2.2
      · exact hof3 q hq Pa (.tail _ (.head _))
    case vb2 => exact (lN _ (.head _)).1
    case vz2 => (rw [PySem.sizeLine_eq, List.size_toArray]; omega)
    dsimp only [frH]
    clear lF lN
    intro h6 n6 F6 N6
    simp only [List.cons_append, List.nil_append] at N6
    k_steps
    try dsimp only [Stop]
    rename Fr _ _ _ _ => lF
    rename News _ _ _ _ => lN
    refine growT_end (⟨oX2, c.pv ++ ys9, n6, tl3⟩ : PS) lF lN ⟨⟨_, hoX2⟩, ?_, ?_⟩ (fun _ h => nomatch h) ?_ ?_ ?_ ?_
    · rw [ptsTo_succ]
      rw [List.take_length, hjf, seg_pts hj rfl] at hpp
      exact (hpts.mono hsub).app hpp
    · exact fun q hq b hb => hof3 q (by rw [htl5]; exact List.mem_append.mpr (.inl hq)) b (.tail _ hb)
    · intro z h1 h3
      simp only [List.contains_cons, List.contains_nil, Bool.or_false, Bool.or_eq_false_iff, beq_eq_false_iff_ne, ne_eq] at h3
      simp [kstB, h1, h3]
    · intro q hq
      simp only [List.mem_cons] at hq ⊢
      rw [htl5, List.mem_append]
      rcases hq with h | h | h | h | h | h | h <;> simp only [h, true_or, or_true]
    · intro q hq
      have hq5 : q ∈ tl5 := by rw [htl5]; exact List.mem_append.mpr (.inr hq)
      simp only [List.mem_cons]
      simp only [hq5, or_true]
    · intro q hq b hb
      simp only [List.map_cons, List.mem_cons] at hb
      rcases hb with h | h | h | h | h | h | h
      · exact hoff q hq b (by simp only [List.map_cons, List.mem_cons]; simp [h])
      · exact hoff q hq b (by simp only [List.map_cons, List.mem_cons]; simp [h])
      · exact hoff q hq b (by simp only [List.map_cons, List.mem_cons]; simp [h])
      · exact hoff q hq b (by simp only [List.map_cons, List.mem_cons]; simp [h])
      · exact hoff q hq b (by simp only [List.map_cons, List.mem_cons]; simp [h])
      · exact hoff q hq b (by simp only [List.map_cons, List.mem_cons]; simp [h])
      · exact hoff5 q hq b h
end
section
local macro_rules | `(tactic| walk_at "call builtin:len") => `(tactic| (k_here; (with_reducible show wpAny _ _ (call (Value.builtin _) [Value.ref _]) _ _ _); k_dflt (refine' len_L ?k1 ?k2 ?k4 ?_; (case k1 => k_asm); (case k2 => k_mem); (case k4 => omega); k_whole); intro t9 k9))
set_option maxRecDepth 100000 in
set_option maxHeartbeats 2000000 in
noncomputable def seg6 : (G : Prop) ×' (Hold G → seg4.2.1) := by
  apply PSigma.mk
  case snd =>
    intro hG
    w_top off
    intro w j1 j2 j3 j4 j7 hT j22 j25 j33 j34 hL hI hB qk ek wh p a hwh0 hwh1 hp ha0 ha1 hszS hgen b' hb0 hb1 hz _ J hJ n hn vs nn xs jl hv hj _ _ _ tw tp ta tb oX oB oA oP dB dA dP v0 dX hX _ _ _ _ _ Pa hPa h tk u _ _ _ _ _ _ _ _ oX9 pv pn tl h9 tk9 hpts hof h8 tk8 u8 F8 N8 v9 dX9
    revert hX
    k_fill
    intro hX
    have hpl := hpts.length
    have hpl2 := ptsTo_len a b' p n n
    have hn13 : n ≤ 13 := by omega
    have hin : n * n ≤ 13 * 13 := Nat.mul_le_mul hn13 hn13
    have hofA : OwnOff tl [Pa, J, j2.heap.objs.size + 1 + 1 + 1 + 1, j2.heap.objs.size + 1 + 1 + 1, j2.heap.objs.size + 1 + 1, j2.heap.objs.size + 1] := hof
    k_steps
    try dsimp only [Stop]
    rename_i r1 r2 r3 r4 r5 r6 r7 r8 r9 r10 r11 r12 r13 r14 r15 r16 r17 r18 r19 r20 r21
    revert w j1 j2 j3 j4 j7 hT j22 j25 j33 j34 hL hI hB qk ek wh p a hwh0 hwh1 hp ha0 ha1 hszS hgen b' hb0 hb1 hz r1 J hJ n hn vs nn xs jl hv hj r2 r3 r4 tw tp ta tb oX oB oA oP dB dA dP v0 dX r5 r6 r7 r8 r9 Pa hPa h r10 u r11 r12 r13 r14 r15 r16 oX9 pv pn tl h9 tk9 hpts hof h8 tk8 u8 v9 dX9 hX hpl hpl2 hn13 hin hofA r17 r18 r19 r20 r21 tk
    exact hG.get
end
end
section
local macro_rules | `(tactic| walk_at "pyIter ref") => `(tactic| (k_here; with_reducible refine unstop ?_))
local macro_rules | `(tactic| walk_at "Src2At") => `(tactic| (with_reducible refine unstop ?_))
local macro_rules | `(tactic| walk_at "CE2") => `(tactic| (with_reducible refine unstop ?_))
set_option maxRecDepth 100000 in
set_option maxHeartbeats 2000000 in
noncomputable def seg7 : (G : Prop) ×' (Hold G → seg6.1) := by
  apply PSigma.mk
  case snd =>
    intro hG
    w_top off
    intro w j1 j2 j3 j4 j7 hT j22 j25 j33 j34 hL hI hB qk ek wh p a hwh0 hwh1 hp ha0 ha1 hszS hgen b' hb0 hb1 hz _ J hJ n hn vs nn xs jl hv hj _ _ _ tw tp ta tb oX oB oA oP dB dA dP v0 dX _ _ _ _ _ Pa hPa h _ u _ _ _ _ _ _ oX9 pv pn tl h9 tk9 hpts hof h8 tk8 u8 v9 dX9 hX hpl hpl2 hn13 hin hofA _ _ _ _ _ tk
    revert hX
    k_fill
    intro hX
    rename Fr _ _ _ _ => lF
    rename News _ _ _ _ => lN
    obtain ⟨C7, hC7⟩ : ∃ C7 : Addr → Led → Prop, C7 = fun La tl3 => (∀ q ∈ tl, q ∈ tl3) ∧ OwnOff tl3 [Pa, J, La + 1 + 1 + 1 + 1, La + 1 + 1 + 1, La + 1 + 1, La + 1] := ⟨_, rfl⟩
    k_dflt (refine ListComp_2 (n := n) (n2 := n) (fun i j ys news => ∃ tl3 : Led, news = (Pa, ({ cls := .type "list", data := .seq pv.toArray pn } : Obj)) :: (J, ({ cls := .type "list", data := .seq vs.toArray nn } : Obj)) :: (j2.heap.objs.size + 1 + 1 + 1 + 1, oX9) :: (j2.heap.objs.size + 1 + 1 + 1, oB) :: (j2.heap.objs.size + 1 + 1, oA) :: (j2.heap.objs.size + 1, oP) :: tl3 ∧
      C7 j2.heap.objs.size tl3 ∧ i ≤ n ∧ j ≤ n ∧ PtsIn tl3 ys (ptsTo a b' p n i ++ ptsAtJ a b' p n i j)) lF (by rfl) (by with_unfolding_all rfl) (by decide) (by rfl) (by decide) (by rfl) (by rfl) (by decide) (by intro _; rfl) (by intro _ _; rfl) ?hlen ?hnext ?_)
    case hlen =>
      rintro i j ys news ⟨tl3, rfl, hc, hi, hj, hp⟩
      rw [PySem.sizeLine_eq, hp.length, List.length_append]
      have h1 := ptsTo_len a b' p n i
      have h2 := ptsAtJ_len a b' p n i j
      have h3 : i * n ≤ 13 * 13 := Nat.mul_le_mul (by omega) hn13
      omega
    case hnext =>
      rintro i ys news hi ⟨tl3, rfl, hc, _, _, hp⟩
      refine ⟨tl3, rfl, hc, hi, Nat.zero_le _, ?_⟩
      rw [ptsTo_succ, ptsAtJ_zero, List.append_nil]
      exact hp
    k_steps
    try dsimp only [Stop]
    rename IsRange _ _ _ _ _ _ _ _ => hR
    rename Fr _ _ _ _ => lF
    rename News _ _ _ _ => lN
    refine ⟨_, _, _, _, _, _, rfl, lF, lN, hR, (by rcases hp with h | h | h <;> rw [h] <;> decide), (by rw [hn]; rcases hp with h | h | h <;> rw [h] <;> decide), ⟨tl, rfl, ?_, Nat.zero_le _, Nat.zero_le _, .nil⟩, ⟨?_, ?_, ?_⟩⟩
    · rw [hC7]; exact ⟨fun _ h => h, hofA⟩
    · clear lF lN hR
      rintro i t I oI C oC D ys9 news9 m2 h7 tk7 E7 hi ⟨tl3, rfl, hc, hi1, hj1, hpp⟩ hCo hmx F7 N7 off7 d7
      rw [hC7] at hc
      obtain ⟨hsub, hof3⟩ := hc
      k_steps
      try dsimp only [Stop]
      rename IsRange _ _ _ _ _ _ _ _ => hR
      rename Fr _ _ _ _ => lF
      rename News _ _ _ _ => lN
      exact ⟨_, _, _, rfl, lF, lN, off7, _, _, _, _, _, rfl, hR, (by rcases hp with h | h | h <;> rw [h] <;> decide), (by rw [hn]; rcases hp with h | h | h <;> rw [h] <;> decide), tl3, rfl, (by rw [hC7]; exact ⟨hsub, hof3⟩), hi1, hj1, hpp⟩
    · clear lF lN hR
      rintro i j t t' I2 oI2 I oI C oC D ys9 news9 m2 h7 tk7 E7 hi hj ⟨tl3, rfl, hc, hi1, hj1, hpp⟩ hCo hmx hmy F7 N7 off7 d7 d74
      rw [hC7] at hc
      obtain ⟨hsub, hof3⟩ := hc
      have hon := on_iff (a := a) (b := b') hn (by omega) i j
      k_steps
      · try dsimp only [Stop]
        rename Fr _ _ _ _ => lF
        rename News _ _ _ _ => lN
        rename _ = Int.fmod _ p => hr
        rename _ = (0 : Int) => hr0
        rw [← hr, hr0] at hon
        have hon := hon.mp rfl
        rename I2 < _ ∧ _ => hl
        rename Addr => T
        obtain ⟨hTI2, hTI, hTC, hTD, hTPa, hTJ, hT4, hT3, hT2, hT1, hTl⟩ := hl
        refine ⟨_, _, (Pa, _) :: (J, _) :: (_, oX9) :: (_, oB) :: (_, oA) :: (_, oP) :: (T, ({ cls := .type "tuple", data := .seq #[.int (i : Int) t, .int (j : Int) t'] 0 } : Obj)) :: tl3, rfl, lF, news_sub lN ?_, ?_, _, rfl, ?_, hi1, hj, ?_⟩
        · intro q hq
          simp only [List.cons_append, List.nil_append, List.mem_cons] at hq ⊢
          rcases hq with h | h | h | h | h | h | h | h | h | h | h | h <;> simp only [h, true_or, or_true]
        · intro q hq p9 hp9
          have hq2 := off7 q hq
          have hlt : q.1 ≠ T := by
            simp only [List.mem_cons, List.not_mem_nil, or_false] at hq
            rcases hq with rfl | rfl | rfl | rfl
            · exact Nat.ne_of_lt hTI2
            · exact Nat.ne_of_lt hTI
            · exact Nat.ne_of_lt hTC
            · exact Nat.ne_of_lt hTD
          simp only [List.mem_cons] at hp9
          rcases hp9 with h | h | h | h | h | h | h | h
          · exact hq2 p9 (by rw [h]; exact .head _)
          · exact hq2 p9 (by rw [h]; exact .tail _ (.head _))
          · exact hq2 p9 (by rw [h]; exact .tail _ (.tail _ (.head _)))
          · exact hq2 p9 (by rw [h]; exact .tail _ (.tail _ (.tail _ (.head _))))
          · exact hq2 p9 (by rw [h]; exact .tail _ (.tail _ (.tail _ (.tail _ (.head _)))))
          · exact hq2 p9 (by rw [h]; exact .tail _ (.tail _ (.tail _ (.tail _ (.tail _ (.head _))))))
          · rw [h]; exact hlt
          · exact hq2 p9 (.tail _ (.tail _ (.tail _ (.tail _ (.tail _ (.tail _ h))))))
        · rw [hC7]
          refine ⟨fun q hq => .tail _ (hsub q hq), ?_⟩
          intro q hq b hb
          rcases List.mem_cons.mp hq with rfl | hq
          · simp only [List.mem_cons, List.not_mem_nil, or_false] at hb
            rcases hb with rfl | rfl | rfl | rfl | rfl | rfl
            · exact Nat.ne_of_gt hTPa
            · exact Nat.ne_of_gt hTJ
            · exact Nat.ne_of_gt hT4
            · exact Nat.ne_of_gt hT3
            · exact Nat.ne_of_gt hT2
            · exact Nat.ne_of_gt hT1
          · exact hof3 q hq b hb
        · rw [ptsAtJ_succ, if_pos hon, ← List.append_assoc]
          exact (hpp.mono fun q h => .tail _ h).app (.cons (.at (.head _)) .nil)
      · try dsimp only [Stop]
        rename Fr _ _ _ _ => lF
        rename News _ _ _ _ => lN
        rename _ = Int.fmod _ p => hr
        rename _ ≠ (0 : Int) => hr0
        rw [← hr] at hon
        have hon := fun h => hr0 (hon.mpr h)
        refine ⟨_, _, _, rfl, lF, lN, off7, tl3, rfl, by rw [hC7]; exact ⟨hsub, hof3⟩, hi1, hj, ?_⟩
        rw [ptsAtJ_succ, if_neg hon, List.append_nil]
        exact hpp
    · clear lF lN hR
      rintro ys9 news9 ⟨tl3, rfl, hc, _, _, hpp⟩
      rw [ptsAtJ_zero, List.append_nil] at hpp
      rw [hC7] at hc
      obtain ⟨hsub, hof3⟩ := hc
      unfold Fin2
      intro D9 h6 tk6 F6 N6 hne
      rename_i r1 r2 r3 r4 r5 r6 r7 r8 r9 r10 r11 r12 r13 r14 r15 r16 r17 r18 r19 r20 r21 r22 r23 r24 r25 r26 r27 r28 r29
      revert w j1 j2 j3 j4 j7 hT j22 j25 j33 j34 hL hI hB qk ek wh p a hwh0 hwh1 hp ha0 ha1 hszS hgen b' hb0 hb1 hz r1 J hJ n hn vs nn xs jl hv hj r2 r3 r4 tw tp ta tb oX oB oA oP dB dA dP v0 dX r5 r6 r7 r8 r9 Pa hPa h r10 u r11 r12 r13 r14 r15 r16 oX9 pv pn tl h9 tk9 hpts hof h8 tk8 u8 v9 dX9 hpl hpl2 hn13 hin hofA r17 r18 r19 r20 r21 tk hX C7 hC7 r22 r23 r24 r25 r26 r27 ys9 tl3 r28 r29 hpp hsub hof3 D9 h6 tk6 F6 N6 hne
      exact hG.get
end
section
local macro_rules | `(tactic| walk_at "subscriptTail Name Slice ref ref") => `(tactic| (k_here; (with_reducible show wpAny _ _ (subscriptTail _ (PySem.Expr.Slice _ _ (some _) _) (Value.ref _) (Value.ref _)) _ _ _); k_dflt (refine' slice4_ints ?sF9 ?sN9 ?sl9 ?sp9 ?sq9 ?sk9 ?so9 ?se9 ?_ ?ss9 ?st9 ?sz9; (case sF9 => k_asm); (case sN9 => k_asm); (case sl9 => kmk_list); (case sp9 => kmk_part); (case sq9 => kmk_part); (case sk9 => kmk_part); (case so9 => decide); (case se9 => l_ints); (case ss9 => with_unfolding_all rfl); (case st9 => kmk_pure); (case sz9 => assumption)); intro D' ws' ms' h' F' N' l1 hI'; (try k_lt l1); (try k_sweep)))
local macro_rules | `(tactic| walk_at "binaryOp Pow int int") => `(tactic| (with_reducible refine pow_int_small (by omega) (by omega) (by omega) ?_))
local macro_rules | `(tactic| walk_at "exec While Compare cons nil") => `(tactic| (k_here; with_reducible refine unstop ?_))
local macro_rules | `(tactic| walk_at "subscriptTail") => `(tactic| (k_here; (with_reducible show wpAny _ _ (subscriptTail _ _ (Value.ref _) (Value.int _ _)) _ _ _); k_dflt (refine' item_pts ?iN9 ?im9 ?ip9 ?ia9 ?ib9 ?ic9 ?_; (case iN9 => k_asm); (case im9 => k_mem); (case ip9 => assumption); (case ia9 => omega); (case ib9 => omega); (case ic9 => omega)); intro v' P' hv' hP'))
local macro_rules | `(tactic| walk_at "call builtin:len") => `(tactic| (k_here; (with_reducible show wpAny _ _ (call (Value.builtin _) [Value.ref _]) _ _ _); k_dflt (refine' len_L ?k1 ?k2 ?k4 ?_; (case k1 => k_asm); (case k2 => k_mem); (case k4 => omega); k_whole); intro t9 k9))
theorem snd_mk {α β : Type} (a : α) (b : β) : (a, b).snd = b := rfl
theorem subC {e : Addr × Obj} {a b : Led} (h : ∀ p ∈ a, p ∈ b) : ∀ p ∈ e :: a, p ∈ e :: b := fun p hp => by
  rcases List.mem_cons.mp hp with rfl | hp
  · exact .head _
  · exact .tail _ (h p hp)
local macro_rules | `(tactic| walk_at "subscriptTail") => `(tactic| (k_here; (rw [snd_mk])))
set_option maxRecDepth 100000 in
set_option maxHeartbeats 2000000 in
noncomputable def seg8 : (G : Prop) ×' (Hold G → seg7.1) := by
  apply PSigma.mk
  case snd =>
    intro hG
    w_top off
    intro w j1 j2 j3 j4 j7 hT j22 j25 j33 j34 hL hI hB qk ek wh p a hwh0 hwh1 hp ha0 ha1 hszS hgen b' hb0 hb1 hz _ J hJ n hn vs nn xs jl hv hj _ _ _ tw tp ta tb oX oB oA oP dB dA dP v0 dX _ _ _ _ _ Pa hPa h _ u _ _ _ _ _ _ oX9 pv pn tl h9 tk9 hpts hof h8 tk8 u8 v9 dX9 hpl hpl2 hn13 hin hofA _ _ _ _ _ tk hX C7 hC7 _ _ _ _ _ _ ys9 tl3 _ _ hpp hsub hof3 D9 h6 tk6 F6 N6 hne
    revert hX
    k_fill
    intro hX
    obtain ⟨cnt, hcv⟩ := curve_of hn hp ha0 ha1 hb0 hb1 hz
    have hc1 := hcv.count
    have hc0 := hcv.pos
    refine ne_pts N6 (.tail _ (.head _)) hpts (fun q hq => ?_) (.head _) hpp (fun q hq => ?_) ?hu ?_
    · have := hsub q hq
      simp only [List.mem_cons]
      simp only [this, or_true]
    · simp only [List.mem_cons]
      simp only [hq, or_true]
    case hu => ke_room
    have N7 : News j2.heap j2.heap.objs.size h6 ((Pa, ({ cls := .type "list", data := .seq pv.toArray pn } : Obj)) :: (J, ({ cls := .type "list", data := .seq vs.toArray nn } : Obj)) :: (j2.heap.objs.size + 1 + 1 + 1 + 1, oX9) :: (j2.heap.objs.size + 1 + 1 + 1, oB) :: (j2.heap.objs.size + 1 + 1, oA) :: (j2.heap.objs.size + 1, oP) :: tl) := by
      exact news_sub N6 (subT (subC (subC (subC (subC (subC (subC hsub)))))))
    clear N6 hne hpp hof3 hsub
    k_steps
    · exfalso
      rename 4 * p < _ => hlt
      have e : ((pv.length : Int) + 1 - p - 1) ^ Int.toNat 2 = ((pv.length : Int) + 1 - p - 1) * ((pv.length : Int) + 1 - p - 1) := by
        show ((pv.length : Int) + 1 - p - 1) ^ 2 = _
        rw [Int.pow_succ, Int.pow_succ, Int.pow_zero, Int.one_mul]
      have e2 : (pv.length : Int) + 1 = cnt := by omega
      rw [e, e2] at hlt
      have := hcv.hasse
      omega
    try dsimp only [Stop]
    rename_i v1 P1 hv1 hP1 z1 z2 z3 z4 z5 z6 z7 z8 z9 z10 z11 z12 z13 z14 z15 z16 z17 v2 P2 hv2 hP2 z18 z19 D0 z20 hD0 Ra z21 hRa z22 z23 lF lN
    have lN2 : News j2.heap j2.heap.objs.size (frH lF) ((Ra, ({ cls := .type "list", data := .seq [Value.ref D0].toArray 0 } : Obj)) :: (Pa, ({ cls := .type "list", data := .seq pv.toArray pn } : Obj)) :: (j2.heap.objs.size + 1 + 1, oA) :: (j2.heap.objs.size + 1, oP) :: (D0, ({ cls := .type "tuple", data := .seq #[] 0 } : Obj)) :: tl) := by
      refine news_sub lN fun q hq => ?_
      simp only [List.mem_cons] at hq ⊢
      rcases hq with h | h | h | h | h | h
      · exact .inl h
      · exact .inr (.inr (.inr (.inr (.inl h))))
      · exact .inr (.inr (.inr (.inr (.inr (.inr (.inr (.inr (.inl h))))))))
      · exact .inr (.inr (.inr (.inr (.inr (.inr (.inr (.inr (.inr (.inl h)))))))))
      · exact .inr (.inl h)
      · exact .inr (.inr (.inr (.inr (.inr (.inr (.inr (.inr (.inr (.inr h)))))))))
    have hcp : (pv.length : Int) + 1 = cnt := by omega
    obtain ⟨tc, hC⟩ : ∃ tc : Tok, CutG j2.heap j2.heap.objs.size [(Str.ofString "point", v1), (Str.ofString "round_one", .ref Ra), (Str.ofString "two", v2), (Str.ofString "one", v1), (Str.ofString "count", .int cnt tc), (Str.ofString "points", .ref Pa), (Str.ofString "whole", .int wh tw)] _ (frH lF) :=
      ⟨_, cutG_pack lF lN2 (List.forall_mem_cons.mpr ⟨by with_unfolding_all rfl, List.forall_mem_cons.mpr ⟨by with_unfolding_all rfl, List.forall_mem_cons.mpr ⟨by with_unfolding_all rfl, List.forall_mem_cons.mpr ⟨by with_unfolding_all rfl, List.forall_mem_cons.mpr ⟨by rw [← hcp]; with_unfolding_all rfl, List.forall_mem_cons.mpr ⟨by with_unfolding_all rfl, List.forall_mem_cons.mpr ⟨by with_unfolding_all rfl, fun _ h => nomatch h⟩⟩⟩⟩⟩⟩⟩)⟩
    have hof8 : OwnOff ((D0, ({ cls := .type "tuple", data := .seq #[] 0 } : Obj)) :: tl) [Ra, Pa, j2.heap.objs.size + 1 + 1, j2.heap.objs.size + 1] := by
      obtain ⟨r1, r2, r3, r4, r5, r6, r7, r8, r9, r10⟩ := hRa
      obtain ⟨d1, d2, d3, d4, d5, d6, d7, d8, d9⟩ := hD0
      intro q hq b hb
      rcases List.mem_cons.mp hq with rfl | hq
      · simp only [List.mem_cons, List.not_mem_nil, or_false] at hb
        rcases hb with rfl | rfl | rfl | rfl
        · exact Nat.ne_of_lt r1
        · exact Nat.ne_of_gt d3
        · exact Nat.ne_of_gt d7
        · exact Nat.ne_of_gt d8
      · simp only [List.mem_cons, List.not_mem_nil, or_false] at hb
        rcases hb with rfl | rfl | rfl | rfl
        · exact Nat.ne_of_lt (kst_ltOf r10 q hq)
        · exact hof q hq b (by simp)
        · exact hof q hq _ (by simp)
        · exact hof q hq _ (by simp)
    have hRa2 : Pa < Ra ∧ j2.heap.objs.size + 1 + 1 < Ra ∧ j2.heap.objs.size + 1 < Ra := ⟨hRa.2.2.2.1, hRa.2.2.2.2.2.2.2.1, hRa.2.2.2.2.2.2.2.2.1⟩
    dsimp only [frH] at hC
    refine cutAt _ hC ?_
    clear lF lN lN2 hC hcp
    rintro h tk ⟨u, F, N⟩
    obtain ⟨tl8, htl8⟩ : ∃ tl8 : Led, tl8 = (D0, ({ cls := .type "tuple", data := .seq #[] 0 } : Obj)) :: tl := ⟨_, rfl⟩
    have hpts8 : PtsIn tl8 pv (ptsTo a b' p n n) := hpts.mono fun q hq => by rw [htl8]; exact .tail _ hq
    have hv18 : PtIn tl8 v1 (some P1) := hv1.mono fun q hq => by rw [htl8]; exact .tail _ hq
    have hv28 : PtIn tl8 v2 (some P2) := hv2.mono fun q hq => by rw [htl8]; exact .tail _ hq
    have hz8 : PtIn tl8 (.ref D0) none := by rw [htl8]; exact .zero (.head _)
    rw [← htl8] at N hof8
    clear htl8 hpts hv1 hv2 hRa hD0 hof hofA
    rename_i r1 r2 r3 r4 r5 r6 r7 r8 r9 r10 r11 r12 r13 r14 r15 r16 r17 r18 r19 r20 r21 r22 r23 r24 r25 r26 r27 r28 r29 r30 r31 r32 r33 r34 r35 r36 r37 r38 r39 r40 r41 r42 r43 r44 r45 r46 r47 r48
    revert w j1 j2 j3 j4 j7 hT j22 j25 j33 j34 hL hI hB qk ek wh p a hwh0 hwh1 hp ha0 ha1 hszS hgen b' hb0 hb1 hz r1 J hJ n hn vs nn xs jl hv hj r2 r3 r4 tw tp ta tb oX oB oA oP dB dA dP v0 dX r5 r6 r7 r8 r9 Pa hPa r10 r11 r12 r13 r14 r15 r16 r17 r18 oX9 pv pn tl h9 tk9 h8 tk8 u8 v9 dX9 hpl hpl2 hn13 hin r19 r20 r21 r22 C7 hC7 r23 r24 r25 r26 r27 r28 ys9 tl3 r29 r30 D9 h6 tk6 hX cnt hcv hc1 hc0 r31 r32 r33 r34 r35 r36 r37 r38 r39 r40 r41 r42 r43 r44 r45 r46 r47 v1 P1 hP1 z1 z2 z3 z4 z5 z6 z7 z8 z9 z10 z11 z12 z13 z14 z15 z16 z17 v2 P2 hP2 z18 z19 D0 z20 Ra z21 z22 r48 z23 tc hRa2 h tk u F tl8 hof8 N hpts8 hv18 hv28 hz8
    exact hG.get
end
section
structure RS where
  rv : List Value
  rn : Nat
  k : Nat
  v : Value
  tl : Led
noncomputable def RoundIn (a p : Int) (P : Pt) (tl : Led) (rv : List Value) : Prop := ∀ i v, rv[i]? = some v → PtIn tl v (mulP a p P i)
section
variable {prog : Program} {w : World} {A : Around} {E : Value → Shared → Prop} {s : Shared} {h₀ : Heap} {L l : Addr} {m : Str → Option Value} {news : Led} {vs : List Value} {nn : Nat} {x : Value} {Q : Value → Shared → Prop}
theorem append_L (F : Fr h₀ L s.heap m) (N : News h₀ L s.heap ((l, ({ cls := .type "list", data := .seq vs.toArray nn } : Obj)) :: news)) (off : ∀ q ∈ news, q.1 ≠ l) (hsz : vs.length ≤ 10000)
    (h : ∀ h', Fr h₀ L h' m → News h₀ L h' ((l, ({ cls := .type "list", data := .seq (vs ++ [x]).toArray (nn + 1) } : Obj)) :: news) → Q .none { s with heap := h' }) : wpAny (model prog w) A (call (.builtin "list.append") [.ref l, x]) Q E s := by
  have z := N _ (.head _)
  refine append_at (hsz := by rw [PySem.sizeLine_eq, List.size_toArray]; omega) z.1 fun h5 hs5 hD5 => ?_
  refine h h5 (F.change hs5 z.2.1 z.2.2) fun q hq => ?_
  rcases List.mem_cons.mp hq with rfl | hq
  · exact ⟨hD5.trans (by rw [List.push_toArray]), z.2⟩
  · exact ⟨(hs5.2 _ (off q hq)).trans (N q (.tail _ hq)).1, (N q (.tail _ hq)).2⟩
end
local macro_rules | `(tactic| walk_at "exec While Compare cons nil") => `(tactic| (k_here; with_reducible refine unstop ?_))
local macro_rules | `(tactic| walk_at "compareOp NotEq") => `(tactic| (with_reducible refine unstop ?_))
local macro_rules | `(tactic| walk_at "compareOp NotIn") => `(tactic| (with_reducible refine unstop ?_))
local macro_rules | `(tactic| walk_at "call ref") => `(tactic| (k_here; with_reducible refine unstop ?_))
local macro_rules | `(tactic| walk_at "KswEnd") => `(tactic| (with_reducible refine unstop ?_))
set_option maxRecDepth 100000 in
set_option maxHeartbeats 2000000 in
noncomputable def seg9 : (G : Prop) ×' (Hold G → seg8.1) := by
  apply PSigma.mk
  case snd =>
    intro hG
    w_top off
    intro w j1 j2 j3 j4 j7 hT j22 j25 j33 j34 hL hI hB qk ek wh p a hwh0 hwh1 hp ha0 ha1 hszS hgen b' hb0 hb1 hz _ J hJ n hn vs nn xs jl hv hj _ _ _ tw tp ta tb oX oB oA oP dB dA dP v0 dX _ _ _ _ _ Pa hPa _ _ _ _ _ _ _ _ _ oX9 pv pn tl h9 tk9 h8 tk8 u8 v9 dX9 hpl hpl2 hn13 hin _ _ _ _ C7 hC7 _ _ _ _ _ _ ys9 tl3 _ _ D9 h6 tk6 hX cnt hcv hc1 hc0 _ _ _ _ _ _ _ _ _ _ _ _ _ _ _ _ _ v1 P1 hP1 z1 z2 z3 z4 z5 z6 z7 z8 z9 z10 z11 z12 z13 z14 z15 z16 z17 v2 P2 hP2 z18 z19 D0 z20 Ra z21 z22 _ z23 tc hRa2 h tk u F tl8 hof8 N hpts8 hv18 hv28 hz8
    revert hX
    k_fill
    intro hX
    obtain ⟨o, ho⟩ := hcv.ord P1 hP1
    have ho1 := ho.pos
    have ho2 := ho.le
    have hc2 := hcv.small
    refine ksw_while (σ := RS) (fun c => (Ra, ({ cls := .type "list", data := .seq c.rv.toArray c.rn } : Obj)) :: (Pa, ({ cls := .type "list", data := .seq pv.toArray pn } : Obj)) :: (j2.heap.objs.size + 1 + 1, oA) :: (j2.heap.objs.size + 1, oP) :: c.tl) (fun c => [(Str.ofString "point", c.v)])
      (fun c => PtIn c.tl c.v (mulP a p (some P1) c.k) ∧ RoundIn a p (some P1) c.tl c.rv ∧ PtsIn c.tl pv (ptsTo a b' p n n) ∧ PtIn c.tl v1 (some P1) ∧ PtIn c.tl v2 (some P2) ∧ OwnOff c.tl [Ra, Pa, j2.heap.objs.size + 1 + 1, j2.heap.objs.size + 1]) []
      (fun c => 0 < c.k ∧ c.k ≤ o ∧ c.rv.length = c.k) (fun c => o - c.k) ⟨[Value.ref D0], 0, 1, v1, tl8⟩ F N ⟨hv18, ?_, hpts8, hv18, hv28, hof8⟩ (fun q hq => by rw [List.mem_singleton.mp hq]; with_unfolding_all rfl) ⟨Nat.zero_lt_one, ho1, rfl⟩ ?_
    · intro i v hv
      cases i with
      | zero => simp only [List.getElem?_cons_zero, Option.some.injEq] at hv; subst hv; exact hz8
      | succ i => simp at hv
    clear F N hpts8 hv18 hv28 hof8 hz8
    rintro ⟨rv, rn, k, v, tl⟩ u₂ h₂ tk₂ ⟨hpt, hrd, hpts, hv1, hv2, hof⟩ ⟨hk0, hk1, hrl⟩ F N
    dsimp only at hpt hrd hpts hv1 hv2 hof hk0 hk1 hrl F N
    k_steps
    try dsimp only [Stop]
    rename Fr _ _ _ _ => lF
    rename News _ _ _ _ => lN
    have hsub : ∀ q ∈ tl, q ∈ ledOf lN := fun q hq => .tail _ (.tail _ (.tail _ (.tail _ (.tail _ hq))))
    refine ne_pt (R := none) lN hpt hsub (.zero (.head _)) (fun _ h => h) ?hu ?_
    case hu => ke_room
    have lN2 := news_sub lN (b := (Ra, ({ cls := .type "list", data := .seq rv.toArray rn } : Obj)) :: (Pa, ({ cls := .type "list", data := .seq pv.toArray pn } : Obj)) :: (j2.heap.objs.size + 1 + 1, oA) :: (j2.heap.objs.size + 1, oP) :: tl) (fun q hq => .tail _ hq)
    clear hsub lN
    by_cases hko : k = o
    · subst hko
      have hb : (!decide (mulP a p (some P1) k = none)) = false := by rw [ho.zero]; rfl
      rw [hb]
      refine cutAt (s₀ := j2) (CutG j2.heap j2.heap.objs.size [(Str.ofString "round_one", .ref Ra), (Str.ofString "two", v2), (Str.ofString "one", v1), (Str.ofString "count", .int cnt tc), (Str.ofString "points", .ref Pa), (Str.ofString "whole", .int wh tw)] ((Ra, ({ cls := .type "list", data := .seq rv.toArray rn } : Obj)) :: (Pa, ({ cls := .type "list", data := .seq pv.toArray pn } : Obj)) :: (j2.heap.objs.size + 1 + 1, oA) :: (j2.heap.objs.size + 1, oP) :: tl))
        (cutG_pack lF lN2 (List.forall_mem_cons.mpr ⟨by with_unfolding_all rfl, List.forall_mem_cons.mpr ⟨by with_unfolding_all rfl, List.forall_mem_cons.mpr ⟨by with_unfolding_all rfl, List.forall_mem_cons.mpr ⟨by with_unfolding_all rfl, List.forall_mem_cons.mpr ⟨by with_unfolding_all rfl, List.forall_mem_cons.mpr ⟨by with_unfolding_all rfl, fun _ h => nomatch h⟩⟩⟩⟩⟩⟩)) ?_
      clear lF lN2 hb hpt
      rintro h9 tk9 ⟨u9, F9, N9⟩
      rename_i r1 r2 r3 r4 r5 r6 r7 r8 r9 r10 r11 r12 r13 r14 r15 r16 r17 r18 r19 r20 r21 r22 r23 r24 r25 r26 r27 r28 r29 r30 r31 r32 r33 r34 r35 r36 r37 r38 r39 r40 r41 r42 r43 r44 r45 r46 r47 r48 r49 r50 r51 r52 r53 r54
      revert w j1 j2 j3 j4 j7 hT j22 j25 j33 j34 hL hI hB qk ek wh p a hwh0 hwh1 hp ha0 ha1 hszS hgen b' hb0 hb1 hz r1 J hJ n hn vs nn xs jl hv hj r2 r3 r4 tw tp ta tb oX oB oA oP dB dA dP v0 dX r5 r6 r7 r8 r9 Pa hPa r10 r11 r12 r13 r14 r15 r16 r17 r18 oX9 pv pn r19 r20 r21 h8 tk8 u8 v9 dX9 hpl hpl2 hn13 hin r22 r23 r24 r25 C7 hC7 r26 r27 r28 r29 r30 r31 ys9 tl3 r32 r33 D9 h6 tk6 cnt hcv hc1 hc0 r34 r35 r36 r37 r38 r39 r40 r41 r42 r43 r44 r45 r46 r47 r48 r49 r50 v1 P1 hP1 z1 z2 z3 z4 z5 z6 z7 z8 z9 z10 z11 z12 z13 z14 z15 z16 z17 v2 P2 hP2 z18 z19 D0 z20 Ra z21 z22 r51 z23 tc hRa2 h tk u tl8 hX hc2 rv rn k v tl u₂ h₂ tk₂ hrd hpts hv1 hv2 hof hk0 hrl r52 r53 r54 ho ho1 ho2 hk1 h9 tk9 u9 F9 N9
      exact hG.get
    · obtain ⟨Q9, hQ9, hmQ⟩ := ho.ne k hk0 (by omega)
      have hb : (!decide (mulP a p (some P1) k = none)) = true := by rw [hmQ]; rfl
      rw [hb]
      have hpt2 := hpt
      rw [hmQ] at hpt2
      k_steps
      try dsimp only [Stop]
      rename Fr _ _ _ _ => lF
      rename News _ _ _ _ => lN
      refine notIn_pts lN (.tail _ (.head _)) hpts ?_ hpt2 ?_ hQ9 ?hu ?_
      case hu => ke_room
      · exact fun q hq => .tail _ (.tail _ (.tail _ (.tail _ hq)))
      · exact fun q hq => .tail _ (.tail _ (.tail _ (.tail _ hq)))
      k_steps
      try dsimp only [Stop]
      rename Fr _ _ _ _ => lF
      rename News _ _ _ _ => lN
      have hor : ∀ q ∈ (Pa, ({ cls := .type "list", data := .seq pv.toArray pn } : Obj)) :: (j2.heap.objs.size + 1 + 1, oA) :: (j2.heap.objs.size + 1, oP) :: tl, q.1 ≠ Ra := by
        intro q hq
        simp only [List.mem_cons] at hq
        rcases hq with rfl | rfl | rfl | hq
        · exact Nat.ne_of_lt hRa2.1
        · exact Nat.ne_of_lt hRa2.2.1
        · exact Nat.ne_of_lt hRa2.2.2
        · exact hof q hq Ra (.head _)
      refine append_L lF lN hor (by omega) ?_
      clear lF lN
      intro h7 F7 N7
      k_steps
      try dsimp only [Stop]
      rename Fr _ _ _ _ => lF
      rename News _ _ _ _ => lN
      have hg1 : Good p (some P1) := hn ▸ mem_ptsTo_good hP1
      have hg9 : Good p (mulP a p (some P1) k) := by rw [hmQ]; exact hn ▸ mem_ptsTo_good hQ9
      k_dflt (refine' sum_call (one := mulP a p (some P1) k) (two := some P1) (sub1 := tl) (sub2 := tl) ?k1 lF ?k3 lN ?k5 ?kK hpt hv1 ?b1 ?b2 ?c1 ?c2 ha0 ha1 hg9 hg1 ?e1 ?e2 ?_)
      case k1 => k_asm
      case k3 => k_asm
      case k5 => k_asm
      case kK => exact rfl
      case b1 => exact fun q hq => .tail _ (.tail _ (.tail _ (.tail _ hq)))
      case b2 => exact fun q hq => .tail _ (.tail _ (.tail _ (.tail _ hq)))
      case c1 => omega
      case c2 => omega
      case e1 => ktr_room
      case e2 => ktr_units
      clear lF lN
      intro r9 tl9 h9 tk9 F9 N9 hlt9 hpt9 hg9'
      simp only [List.cons_append] at N9
      k_steps
      try dsimp only [Stop]
      rename Fr _ _ _ _ => lF
      rename News _ _ _ _ => lN
      refine ksw_end (⟨rv ++ [v], rn + 1, k + 1, r9, tl ++ tl9⟩ : RS) lF lN subI ⟨hpt9.mono fun q hq => ?_, ?_, hpts.mono subL, hv1.mono subL, hv2.mono subL, ?_⟩ (fun q hq => by rw [List.mem_singleton.mp hq]; with_unfolding_all rfl) (fun z h1 h3 => ?_) ⟨Nat.succ_pos _, (by show k + 1 ≤ o; omega), by rw [List.length_append, hrl]; rfl⟩ (by show o - (k + 1) < o - k; omega)
      · rcases List.mem_append.mp hq with h | h
        · exact List.mem_append.mpr (.inl h)
        · exact h
      · intro i w9 hw
        by_cases hi : i < rv.length
        · rw [List.getElem?_append_left hi] at hw
          exact (hrd i w9 hw).mono subL
        · rw [List.getElem?_append_right (by omega)] at hw
          obtain ⟨j, hj9⟩ : ∃ j, j = i - rv.length := ⟨_, rfl⟩
          rw [← hj9] at hw
          cases j with
          | zero =>
            simp only [List.getElem?_cons_zero, Option.some.injEq] at hw
            subst hw
            have : i = k := by omega
            subst this
            exact hpt.mono subL
          | succ j => simp at hw
      · intro q hq b hb
        rcases List.mem_append.mp hq with hq | hq
        · exact hof q hq b hb
        · simp only [List.mem_cons, List.not_mem_nil, or_false] at hb
          rcases hb with rfl | rfl | rfl | rfl
          · exact Nat.ne_of_gt (hlt9 _ (.head _) q hq)
          · exact Nat.ne_of_gt (hlt9 _ (.tail _ (.head _)) q hq)
          · exact Nat.ne_of_gt (hlt9 _ (.tail _ (.tail _ (.head _))) q hq)
          · exact Nat.ne_of_gt (hlt9 _ (.tail _ (.tail _ (.tail _ (.head _)))) q hq)
      · have h2 := h1 _ (.head _)
        simp [kstB, h2]
end
section
local macro_rules | `(tactic| walk_at "compareOp NotEq") => `(tactic| (with_reducible refine unstop ?_))
local macro_rules | `(tactic| walk_at "eval IfExp") => `(tactic| (k_here; with_reducible refine unstop ?_))
local macro_rules | `(tactic| walk_at "call ref") => `(tactic| (k_here; with_reducible refine unstop ?_))
local macro_rules | `(tactic| walk_at "call builtin:len") => `(tactic| (k_here; (with_reducible show wpAny _ _ (call (Value.builtin _) [Value.ref _]) _ _ _); k_dflt (refine' len_L ?k1 ?k2 ?k4 ?_; (case k1 => k_asm); (case k2 => k_mem); (case k4 => omega); k_whole); intro t9 k9))
set_option maxRecDepth 100000 in
set_option maxHeartbeats 2000000 in
noncomputable def seg10 : (G : Prop) ×' (Hold G → seg9.1) := by
  apply PSigma.mk
  case snd =>
    intro hG
    w_top off
    intro w j1 j2 j3 j4 j7 hT j22 j25 j33 j34 hL hI hB qk ek wh p a hwh0 hwh1 hp ha0 ha1 hszS hgen b' hb0 hb1 hz _ J hJ n hn vs nn xs jl hv hj _ _ _ tw tp ta tb oX oB oA oP dB dA dP v0 dX _ _ _ _ _ Pa hPa _ _ _ _ _ _ _ _ _ oX9 pv pn _ _ _ h8 tk8 u8 v9 dX9 hpl hpl2 hn13 hin _ _ _ _ C7 hC7 _ _ _ _ _ _ ys9 tl3 _ _ D9 h6 tk6 cnt hcv hc1 hc0 _ _ _ _ _ _ _ _ _ _ _ _ _ _ _ _ _ v1 P1 hP1 z1 z2 z3 z4 z5 z6 z7 z8 z9 z10 z11 z12 z13 z14 z15 z16 z17 v2 P2 hP2 z18 z19 D0 z20 Ra z21 z22 _ z23 tc hRa2 h tk u tl8 hX hc2 rv rn k v tl u₂ h₂ tk₂ hrd hpts hv1 hv2 hof hk0 hrl _ _ _ ho ho1 ho2 hk1 h9 tk9 u9 F9 N9
    revert hX
    k_fill
    intro hX
    k_steps
    · exfalso
      rename _ = Int.fmod _ _ => hr
      rename _ ≠ (0 : Int) => hr0
      apply hr0
      rw [hr, hrl, Int.fmod_eq_emod_of_nonneg _ (by omega)]
      have := ho.dvd
      omega
    try dsimp only [Stop]
    rename Fr _ _ _ _ => lF
    rename News _ _ _ _ => lN
    rename _ = Int.fmod (wh + 1234) 8191 => hr
    rename _ < (8191 : Int) => hr1
    rename Int => r
    rename 0 ≤ r => hr0
    clear hr
    obtain ⟨T, hT⟩ : ∃ T : Int, T = r - 4095 := ⟨_, rfl⟩
    rw [← hT] at lF ⊢
    have hT0 : -4096 < T := by omega
    have hT1 : T < 4096 := by omega
    clear hr0 hr1
    k_dflt (refine' word_call ?k1 lF ?k3 lN ?k5 ?kK ?c1 ?e1 ?e2 ?_)
    case k1 => k_asm
    case k3 => k_asm
    case k5 => k_asm
    case kK => exact rfl
    case c1 => omega
    case e1 => ktr_room
    case e2 => ktr_units
    clear lF lN
    intro x9 t9 h8 tk8 hx9 F8 N8
    k_steps
    try dsimp only [Stop]
    rename Fr _ _ _ _ => lF
    rename News _ _ _ _ => lN
    have hg1 : Good p (some P1) := hn ▸ mem_ptsTo_good hP1
    k_dflt (refine' many_call (P := some P1) (sub := tl) ?k1 lF ?k3 lN ?k5 ?kK hv1 ?b1 ?c1 ?c2 ha0 ha1 hg1 ?e1 ?e2 ?_)
    case k1 => k_asm
    case k3 => k_asm
    case k5 => k_asm
    case kK => exact rfl
    case b1 => exact fun q hq => .tail _ (.tail _ (.tail _ (.tail _ hq)))
    case c1 => omega
    case c2 => omega
    case e1 => ktr_room
    case e2 => ktr_units
    clear lF lN
    rw [hx9]
    intro fv tl9 h7 tk7 F7 N7 hlt7 hpt7 hg7
    simp only [List.cons_append] at N7
    k_steps
    try dsimp only [Stop]
    rename Fr _ _ _ _ => lF
    rename News _ _ _ _ => lN
    obtain ⟨tlB, htlB⟩ : ∃ tlB : Led, tlB = tl ++ tl9 := ⟨_, rfl⟩
    rw [← htlB] at lN hpt7
    have hsB : ∀ q ∈ tl, q ∈ tlB := fun q hq => by rw [htlB]; exact List.mem_append.mpr (.inl hq)
    have hofB : OwnOff tlB [Ra, Pa, j2.heap.objs.size + 1 + 1, j2.heap.objs.size + 1] := by
      intro q hq b hb
      rw [htlB] at hq
      rcases List.mem_append.mp hq with hq | hq
      · exact hof q hq b hb
      · simp only [List.mem_cons, List.not_mem_nil, or_false] at hb
        rcases hb with rfl | rfl | rfl | rfl
        · exact Nat.ne_of_gt (hlt7 _ (.head _) q hq)
        · exact Nat.ne_of_gt (hlt7 _ (.tail _ (.head _)) q hq)
        · exact Nat.ne_of_gt (hlt7 _ (.tail _ (.tail _ (.head _))) q hq)
        · exact Nat.ne_of_gt (hlt7 _ (.tail _ (.tail _ (.tail _ (.head _)))) q hq)
    have hvB1 := hv1.mono hsB
    have hvB2 := hv2.mono hsB
    have hrdB : RoundIn a p (some P1) tlB rv := fun i v hv => (hrd i v hv).mono hsB
    obtain ⟨tt, hC⟩ : ∃ tt : Tok, CutG j2.heap j2.heap.objs.size [(Str.ofString "far", fv), (Str.ofString "word", .str x9 t9), (Str.ofString "times", .int T tt), (Str.ofString "round_one", .ref Ra), (Str.ofString "two", v2), (Str.ofString "one", v1), (Str.ofString "count", .int cnt tc)] _ (frH lF) :=
      ⟨_, cutG_pack lF lN (List.forall_mem_cons.mpr ⟨by with_unfolding_all rfl, List.forall_mem_cons.mpr ⟨by with_unfolding_all rfl, List.forall_mem_cons.mpr ⟨by with_unfolding_all rfl, List.forall_mem_cons.mpr ⟨by with_unfolding_all rfl, List.forall_mem_cons.mpr ⟨by with_unfolding_all rfl, List.forall_mem_cons.mpr ⟨by with_unfolding_all rfl, List.forall_mem_cons.mpr ⟨by with_unfolding_all rfl, fun _ h => nomatch h⟩⟩⟩⟩⟩⟩⟩)⟩
    dsimp only [frH] at hC
    refine cutAt _ hC ?_
    clear lF lN hC hv1 hv2 hrd hof hlt7 htlB hsB
    rintro h6 tk6 ⟨u6, F6, N6⟩
    rename_i r1 r2 r3 r4 r5 r6 r7 r8 r9 r10 r11 r12 r13 r14 r15 r16 r17 r18 r19 r20 r21 r22 r23 r24 r25 r26 r27 r28 r29 r30 r31 r32 r33 r34 r35 r36 r37 r38 r39 r40 r41 r42 r43 r44 r45 r46 r47 r48 r49 r50 r51 r52 r53 r54 r55 r56 r57 r58 r59 r60 r61 r62 r63 r64 r65 r66 r67 r68 r69 r70 r71 r72
    revert w j1 j2 j3 j4 j7 r1 j22 j25 j33 j34 hL hI hB qk ek wh p a hwh0 hwh1 hp ha0 ha1 hszS hgen b' hb0 hb1 hz r2 J hJ n hn vs nn xs jl hv hj r3 r4 r5 tw tp ta tb oX oB oA oP dB dA dP v0 dX r6 r7 r8 r9 r10 Pa hPa r11 r12 r13 r14 r15 r16 r17 r18 r19 oX9 pv pn r20 r21 r22 r23 r24 u8 v9 dX9 hpl hpl2 hn13 hin r25 r26 r27 r28 C7 hC7 r29 r30 r31 r32 r33 r34 ys9 tl3 r35 r36 D9 r37 r38 cnt hcv hc1 hc0 r39 r40 r41 r42 r43 r44 r45 r46 r47 r48 r49 r50 r51 r52 r53 r54 r55 v1 P1 hP1 z1 z2 z3 z4 z5 z6 z7 z8 z9 z10 z11 z12 z13 z14 z15 z16 z17 v2 P2 hP2 z18 z19 D0 z20 Ra z21 z22 r56 z23 tc hRa2 h r57 u tl8 hc2 rv rn k v tl u₂ h₂ tk₂ hpts hk0 hrl r58 r59 r60 ho ho1 ho2 hk1 h9 tk9 u9 hX r61 r62 r63 r64 r65 r66 r67 r68 r r69 T hT hT0 hT1 x9 t9 h8 tk8 hx9 r70 r71 hg1 fv tl9 h7 tk7 hg7 r72 tk tlB hpt7 hofB hvB1 hvB2 hrdB tt h6 tk6 u6 F6 N6
    exact hG.get
end
section
local macro_rules | `(tactic| walk_at "no such head") => `(tactic| fail)
noncomputable def ToldQ (h₀ : Heap) (L : Addr) (ps : List (Str × Value)) (hd4 tlB : Led) (addrs : List Addr) (R : Pt) (s₀ : Shared) (v : Value) (s' : Shared) : Prop :=
  ∃ h tk tlC, s' = { s₀ with heap := h, toks := tk } ∧ CutG h₀ L ps (hd4 ++ tlC) h ∧ (∀ q ∈ tlB, q ∈ tlC) ∧ OwnOff tlC addrs ∧ PtIn tlC v R
local macro_rules | `(tactic| walk_at "compareOp NotEq") => `(tactic| (with_reducible refine unstop ?_))
local macro_rules | `(tactic| walk_at "ToldQ") => `(tactic| (with_reducible refine unstop ?_))
local macro_rules | `(tactic| walk_at "call ref") => `(tactic| (k_here; with_reducible refine unstop ?_))
local macro_rules | `(tactic| walk_at "call builtin:len") => `(tactic| (k_here; (with_reducible show wpAny _ _ (call (Value.builtin _) [Value.ref _]) _ _ _); k_dflt (refine' len_L ?k1 ?k2 ?k4 ?_; (case k1 => k_asm); (case k2 => k_mem); (case k4 => omega); k_whole); intro t9 k9))
set_option maxRecDepth 100000 in
set_option maxHeartbeats 2000000 in
noncomputable def seg11 : (G : Prop) ×' (Hold G → seg10.1) := by
  apply PSigma.mk
  case snd =>
    intro hG
    w_top off
    intro w j1 j2 j3 j4 j7 _ j22 j25 j33 j34 hL hI hB qk ek wh p a hwh0 hwh1 hp ha0 ha1 hszS hgen b' hb0 hb1 hz _ J hJ n hn vs nn xs jl hv hj _ _ _ tw tp ta tb oX oB oA oP dB dA dP v0 dX _ _ _ _ _ Pa hPa _ _ _ _ _ _ _ _ _ oX9 pv pn _ _ _ _ _ u8 v9 dX9 hpl hpl2 hn13 hin _ _ _ _ C7 hC7 _ _ _ _ _ _ ys9 tl3 _ _ D9 _ _ cnt hcv hc1 hc0 _ _ _ _ _ _ _ _ _ _ _ _ _ _ _ _ _ v1 P1 hP1 z1 z2 z3 z4 z5 z6 z7 z8 z9 z10 z11 z12 z13 z14 z15 z16 z17 v2 P2 hP2 z18 z19 D0 z20 Ra z21 z22 _ z23 tc hRa2 h _ u tl8 hc2 rv rn k v tl u₂ h₂ tk₂ hpts hk0 hrl _ _ _ ho ho1 ho2 hk1 h9 tk9 u9 hX _ _ _ _ _ _ _ _ r _ T hT hT0 hT1 x9 t9 h8 tk8 hx9 _ _ hg1 fv tl9 h7 tk7 hg7 _ tk tlB hpt7 hofB hvB1 hvB2 hrdB tt h6 tk6 u6 F6 N6
    revert hX
    k_fill
    intro hX
    obtain ⟨R9, hR9⟩ : ∃ R9 : Pt, R9 = mulP a p (some P1) (T.fmod k).toNat := ⟨_, rfl⟩
    have hfar := ho.far T
    have hneg := ho.neg T
    rw [← hR9] at hfar hneg
    refine wpAny_mono (Q := ToldQ j2.heap j2.heap.objs.size [(Str.ofString "far", fv), (Str.ofString "word", .str x9 t9), (Str.ofString "times", .int T tt), (Str.ofString "round_one", .ref Ra), (Str.ofString "two", v2), (Str.ofString "one", v1), (Str.ofString "count", .int cnt tc)]
      [(Ra, ({ cls := .type "list", data := .seq rv.toArray rn } : Obj)), (Pa, ({ cls := .type "list", data := .seq pv.toArray pn } : Obj)), (j2.heap.objs.size + 1 + 1, oA), (j2.heap.objs.size + 1, oP)] tlB [Ra, Pa, j2.heap.objs.size + 1 + 1, j2.heap.objs.size + 1] R9 j2) ?ev ?cont (fun _ _ e => e)
    case ev =>
      revert hpt7 hg7 hfar hneg
      generalize ecMany a p (some P1) (hexF 4 T.natAbs []) = X
      intro hg7 hpt7 hfar hneg
      rcases hpt7 with ⟨m7⟩ | @⟨fa, fx, fy, ft1, ft2, fn, m7⟩
      · k_steps
        · try dsimp only [Stop]
          rename Fr _ _ _ _ => lF
          rename News _ _ _ _ => lN
          rename T < 0 => hT9
          exact ⟨_, _, tlB, rfl, ⟨u6, lF, news_sub lN (fun q hq => .tail _ hq)⟩, fun _ h => h, hofB, by rw [← hneg hT9 hT0]; exact .zero m7⟩
        · try dsimp only [Stop]
          rename Fr _ _ _ _ => lF
          rename News _ _ _ _ => lN
          rename ¬ T < 0 => hT9
          exact ⟨_, _, tlB, rfl, ⟨u6, lF, lN⟩, fun _ h => h, hofB, by rw [← hfar (by omega) hT1]; exact .zero m7⟩
      · k_steps
        · try dsimp only [Stop]
          rename Fr _ _ _ _ => lF
          rename News _ _ _ _ => lN
          rename T < 0 => hT9
          rename _ = Int.fmod _ p => hr9
          rename _ < _ ∧ _ => hl9
          obtain ⟨l1, l2, l3, l4, l5, l6⟩ := hl9
          rename Addr => D7
          rename Int => r7
          refine ⟨_, _, (D7, ({ cls := .type "tuple", data := .seq #[.int fx ft1, .int r7 (tk6 + 1 + 1 + 1 + 1)] 0 } : Obj)) :: tlB, rfl, ⟨u6, lF, news_sub lN (b := (Ra, ({ cls := .type "list", data := .seq rv.toArray rn } : Obj)) :: (Pa, ({ cls := .type "list", data := .seq pv.toArray pn } : Obj)) :: (j2.heap.objs.size + 1 + 1, oA) :: (j2.heap.objs.size + 1, oP) :: (D7, ({ cls := .type "tuple", data := .seq #[.int fx ft1, .int r7 (tk6 + 1 + 1 + 1 + 1)] 0 } : Obj)) :: tlB) (fun q hq => ?_)⟩, fun _ h => .tail _ h, ?_, ?_⟩
          · simp only [List.mem_cons] at hq ⊢
            rcases hq with h | h | h | h | h | h
            · exact .inr (.inr (.inl h))
            · exact .inr (.inr (.inr (.inl h)))
            · exact .inr (.inr (.inr (.inr (.inl h))))
            · exact .inr (.inr (.inr (.inr (.inr (.inl h)))))
            · exact .inl h
            · exact .inr (.inr (.inr (.inr (.inr (.inr h)))))
          · intro q hq b hb
            rcases List.mem_cons.mp hq with rfl | hq
            · simp only [List.mem_cons, List.not_mem_nil, or_false] at hb
              rcases hb with rfl | rfl | rfl | rfl
              · exact Nat.ne_of_gt l2
              · exact Nat.ne_of_gt l3
              · exact Nat.ne_of_gt l4
              · exact Nat.ne_of_gt l5
            · exact hofB q hq b hb
          · rw [← hneg hT9 hT0]
            show PtIn _ _ (some (_, Int.fmod _ p))
            rw [← hr9]
            exact .at (.head _)
        · try dsimp only [Stop]
          rename Fr _ _ _ _ => lF
          rename News _ _ _ _ => lN
          rename ¬ T < 0 => hT9
          exact ⟨_, _, tlB, rfl, ⟨u6, lF, lN⟩, fun _ h => h, hofB, by rw [← hfar (by omega) hT1]; exact .at m7⟩
    case cont =>
      rintro tv s9 ⟨h5, tk5, tlC, rfl, ⟨u5, F5, N5⟩, hsC, hofC, htv⟩
      simp only [List.cons_append, List.nil_append] at N5
      have hvC1 := hvB1.mono hsC
      have hvC2 := hvB2.mono hsC
      have hrdC : RoundIn a p (some P1) tlC rv := fun i v hv => (hrdB i v hv).mono hsC
      have hptC := hpt7.mono hsC
      clear F6 N6 hvB1 hvB2 hrdB hpt7 hofB hfar hneg
      k_steps
      try dsimp only [Stop]
      rename Fr _ _ _ _ => lF
      rename News _ _ _ _ => lN
      rename _ = Int.fmod T _ => hr
      rename 0 ≤ _ => hr0
      rename _ < (rv.length : Int) => hr1
      refine item_anyL lN (.head _) hr0 hr1 (by omega) ?_
      intro w9 hw9
      have hw := hrdC _ _ hw9
      rw [hr, hrl, ← hR9] at hw
      refine ne_pt lN htv ?_ hw ?_ ?hu ?_
      · exact fun q hq => .tail _ (.tail _ (.tail _ (.tail _ hq)))
      · exact fun q hq => .tail _ (.tail _ (.tail _ (.tail _ hq)))
      case hu => ke_room
      have hb : (!decide (R9 = R9)) = false := by simp
      rw [hb]
      clear hw hw9 hr hr0 hr1
      obtain ⟨tcx, hC⟩ : ∃ tcx : Tok, CutG j2.heap j2.heap.objs.size [(Str.ofString "far", fv), (Str.ofString "word", .str x9 t9), (Str.ofString "two", v2), (Str.ofString "one", v1), (Str.ofString "count", .int cnt tcx)] _ (frH lF) :=
        ⟨_, cutG_pack lF lN (List.forall_mem_cons.mpr ⟨by with_unfolding_all rfl, List.forall_mem_cons.mpr ⟨by with_unfolding_all rfl, List.forall_mem_cons.mpr ⟨by with_unfolding_all rfl, List.forall_mem_cons.mpr ⟨by with_unfolding_all rfl, List.forall_mem_cons.mpr ⟨by with_unfolding_all rfl, fun _ h => nomatch h⟩⟩⟩⟩⟩)⟩
      dsimp only [frH] at hC
      refine cutAt (s₀ := j2) _ hC ?_
      clear lF lN hC hb htv hrdC
      rintro h6 tk6 ⟨u6, F6, N6⟩
      rename_i r1 r2 r3 r4 r5 r6 r7 r8 r9 r10 r11 r12 r13 r14 r15 r16 r17 r18 r19 r20 r21 r22 r23 r24 r25 r26 r27 r28 r29 r30 r31 r32 r33 r34 r35 r36 r37 r38 r39 r40 r41 r42 r43 r44 r45 r46 r47 r48 r49 r50 r51 r52 r53 r54 r55 r56 r57 r58 r59 r60 r61 r62 r63 r64 r65 r66 r67 r68 r69 r70 r71 r72 r73 r74 r75 r76 r77 r78 r79 r80
      revert w j1 j2 j3 j4 j7 r1 j22 j25 j33 j34 hL hI hB qk ek wh p a hwh0 hwh1 hp ha0 ha1 hszS hgen b' hb0 hb1 hz r2 J hJ n hn vs nn xs jl hv hj r3 r4 r5 tw tp ta tb oX oB oA oP dB dA dP v0 dX r6 r7 r8 r9 r10 Pa hPa r11 r12 r13 r14 r15 r16 r17 r18 r19 oX9 pv pn r20 r21 r22 r23 r24 u8 v9 dX9 hpl hpl2 hn13 hin r25 r26 r27 r28 C7 hC7 r29 r30 r31 r32 r33 r34 ys9 tl3 r35 r36 D9 r37 r38 cnt hcv hc1 hc0 r39 r40 r41 r42 r43 r44 r45 r46 r47 r48 r49 r50 r51 r52 r53 r54 r55 v1 P1 hP1 z1 z2 z3 z4 z5 z6 z7 z8 z9 z10 z11 z12 z13 z14 z15 z16 z17 v2 P2 hP2 z18 z19 D0 z20 Ra z21 z22 r56 z23 tc hRa2 h r57 u tl8 hc2 rv rn k v tl u₂ h₂ tk₂ hpts hk0 hrl r58 r59 r60 ho ho1 ho2 hk1 h9 tk9 u9 r61 r62 r63 r64 r65 r66 r67 r68 r r69 T hT hT0 hT1 x9 t9 h8 tk8 hx9 r70 r71 hg1 fv tl9 h7 tk7 hg7 r72 r73 tlB tt r74 r75 r76 hX R9 hR9 tv h5 tk5 tlC u5 hsC hofC hvC1 hvC2 hptC r77 tk r78 r79 r80 w9 tcx h6 tk6 u6 F6 N6
      exact hG.get
end
section
local macro_rules | `(tactic| walk_at "no such head") => `(tactic| fail)
local macro_rules | `(tactic| walk_at "compareOp NotEq") => `(tactic| (with_reducible refine unstop ?_))
local macro_rules | `(tactic| walk_at "compareOp Eq") => `(tactic| (with_reducible refine unstop ?_))
local macro_rules | `(tactic| tb_start) => `(tactic| first | assumption | exact subI | (intro q hq; (simp only [List.mem_append, List.mem_cons] at hq ⊢); grind))
local macro_rules | `(tactic| walk_at "call ref") => `(tactic| (k_here; (with_reducible show wpAny _ _ (call (Value.ref _) [_, _, Value.int _ _, Value.int _ _]) _ _ _); k_dflt (refine' sum_call ?k1 ?k2 ?k3 ?k4 ?k5 ?kK ?a1 ?a2 ?b1 ?b2 ?c1 ?c2 ?c3 ?c4 ?d1 ?d2 ?e1 ?e2 ?_; (case k1 => k_asm); (case k2 => k_asm); (case k3 => k_asm); (case k4 => k_asm); (case k5 => k_asm); (case kK => exact rfl); (case a1 => assumption); (case a2 => assumption); (case b1 => tb_start); (case b2 => tb_start); (case c1 => assumption); (case c2 => assumption); (case c3 => assumption); (case c4 => assumption); (case d1 => assumption); (case d2 => assumption); (case e1 => ktr_room); (case e2 => ktr_units); k_whole); (intro r' tl' h' tk' F' N' hl' ho' hg'); (try simp only [List.cons_append, List.append_assoc, List.nil_append] at N'); (try dsimp only); (try k_fold)))
local macro_rules | `(tactic| walk_at "call ref") => `(tactic| (k_here; (with_reducible show wpAny _ _ (call (Value.ref _) [Value.str _ _, _, Value.int _ _, Value.int _ _]) _ _ _); k_dflt (refine' many_call ?k1 ?k2 ?k3 ?k4 ?k5 ?kK ?a1 ?b1 ?c1 ?c2 ?c3 ?c4 ?d1 ?e1 ?e2 ?_; (case k1 => k_asm); (case k2 => k_asm); (case k3 => k_asm); (case k4 => k_asm); (case k5 => k_asm); (case kK => exact rfl); (case a1 => assumption); (case b1 => tb_start); (case c1 => assumption); (case c2 => assumption); (case c3 => assumption); (case c4 => assumption); (case d1 => assumption); (case e1 => ktr_room); (case e2 => ktr_units); k_whole); (intro r' tl' h' tk' F' N' hl' ho' hg'); (try simp only [List.cons_append, List.append_assoc, List.nil_append] at N'); (try dsimp only); (try k_fold)))
local macro_rules | `(tactic| walk_at "call ref") => `(tactic| (k_here; (with_reducible show wpAny _ _ (call (Value.ref _) [Value.int _ _]) _ _ _); k_dflt (refine' word_call ?k1 ?k2 ?k3 ?k4 ?k5 ?kK ?c1 ?e1 ?e2 ?_; (case k1 => k_asm); (case k2 => k_asm); (case k3 => k_asm); (case k4 => k_asm); (case k5 => k_asm); (case kK => exact rfl); (case c1 => omega); (case e1 => ktr_room); (case e2 => ktr_units); k_whole); (intro x' t' h' tk' hx' F' N'); (try dsimp only); (try k_fold)))
set_option maxRecDepth 100000 in
set_option maxHeartbeats 4000000 in
theorem law12 : seg11.1 := by
  w_top off
  intro w j1 j2 j3 j4 j7 _ j22 j25 j33 j34 hL hI hB qk ek wh p a hwh0 hwh1 hp ha0 ha1 hszS hgen b' hb0 hb1 hz _ J hJ n hn vs nn xs jl hv hj _ _ _ tw tp ta tb oX oB oA oP dB dA dP v0 dX _ _ _ _ _ Pa hPa _ _ _ _ _ _ _ _ _ oX9 pv pn _ _ _ _ _ u8 v9 dX9 hpl hpl2 hn13 hin _ _ _ _ C7 hC7 _ _ _ _ _ _ ys9 tl3 _ _ D9 _ _ cnt hcv hc1 hc0 _ _ _ _ _ _ _ _ _ _ _ _ _ _ _ _ _ v1 P1 hP1 z1 z2 z3 z4 z5 z6 z7 z8 z9 z10 z11 z12 z13 z14 z15 z16 z17 v2 P2 hP2 z18 z19 D0 z20 Ra z21 z22 _ z23 tc hRa2 h _ u tl8 hc2 rv rn k v tl u₂ h₂ tk₂ hpts hk0 hrl _ _ _ ho ho1 ho2 hk1 h9 tk9 u9 _ _ _ _ _ _ _ _ r _ T hT hT0 hT1 x9 t9 h8 tk8 hx9 _ _ hg1 fv tl9 h7 tk7 hg7 _ _ tlB tt _ _ _ hX R9 hR9 tv h5 tk5 tlC u5 hsC hofC hvC1 hvC2 hptC _ tk _ _ _ w9 tcx h6 tk6 u6 F6 N6
  revert hX
  k_fill
  intro hX
  have hp7 : 7 ≤ p := by omega
  have hp13 : p ≤ 13 := by omega
  have hgP2 : Good p (some P2) := hn ▸ mem_ptsTo_good hP2
  k_steps
  try dsimp only [Stop]
  rename News _ _ _ _ => lN
  rename PtIn _ _ (ecSum a p (ecMany _ _ _ _) _) => h4
  rename PtIn _ _ (ecMany a p (ecSum a p _ _) _) => h2
  refine ne_pt lN h2 (by tb_start) h4 (by tb_start) ?hu ?_
  case hu => ke_room
  have hom := hcv.hom P1 hP1 P2 hP2 T.natAbs (by omega)
  rw [hx9, hom]
  have hb : (!decide (ecSum a p (ecMany a p (some P1) (hexF 4 T.natAbs [])) (ecMany a p (some P2) (hexF 4 T.natAbs [])) = ecSum a p (ecMany a p (some P1) (hexF 4 T.natAbs [])) (ecMany a p (some P2) (hexF 4 T.natAbs [])))) = false := by simp
  rw [hb]
  k_steps
  try dsimp only [Stop]
  rename News _ _ _ _ => lN5
  rename PtIn _ _ (ecMany a p (some P2) _) => h5
  rename _ = hexF 4 (Int.natAbs (cnt : Int)) [] => hx5
  have hall := hcv.all P2 hP2
  rw [hx5, Int.natAbs_natCast, hall] at h5
  refine eq_pt (R := none) lN5 h5 (by tb_start) (.zero (.head _)) (fun _ h => h) ?hu2 ?_
  case hu2 => ke_room
  rw [decide_eq_true rfl]
  rename Fr _ _ _ _ => lF5
  refine goodW_bool lF5 hgen (raisesW_false ?hr9) ?hp9
  case hr9 => wrow_none_raised
  case hp9 => kc_post
end
end SrMine
theorem PySem.Challenge.cw_sr0021_01_holds : PySem.Challenge.rw_sr0021_01.Holds := by
  exact SrMine.seg1.2 ⟨SrMine.seg2.2 ⟨SrMine.seg3.2 ⟨SrMine.seg4.2.2 ⟨SrMine.law5⟩ ⟨SrMine.seg6.2 ⟨SrMine.seg7.2 ⟨SrMine.seg8.2 ⟨SrMine.seg9.2 ⟨SrMine.seg10.2 ⟨SrMine.seg11.2 ⟨SrMine.law12⟩⟩⟩⟩⟩⟩⟩⟩⟩⟩
