import PyProof.Rows.All
import Wide.All
import OpenK.AllK
import Wide.FinOn
import KE.KLcPair
import Lean
import PySem.Challenge.RW_pe0294_02
open PySem PySem.W PyProof.Rows
set_option Elab.async false
set_option compiler.extract_closed false
set_option genInjectivity false
set_option genSizeOf false
set_option genSizeOfSpec false
set_option maxRecDepth 100000
set_option maxHeartbeats 8000000
namespace Mine
open_top hd for PySem.Challenge.rw_pe0294_02
end Mine
open PySem PySem.Spec PySem.Calls PySem.W PyProof.Rows PyProof.V
set_option Elab.async false
set_option maxRecDepth 100000
set_option maxHeartbeats 8000000
namespace Mine
noncomputable abbrev VW := Mine.hd.view_39
noncomputable abbrev LS := looseW Mine.hd.view_39 [Str.ofString "Whitespace"]
noncomputable abbrev Led := List (Addr × Obj)
noncomputable abbrev PG := PySem.Challenge.rw_pe0294_02.row.prog

noncomputable def Ctr (w : World) (mean : ExcName → Option Value) (mg mb : Str → Option Value) (nd : Nat) (f : Value) (vs : List Value) (news : Led) (Out : Value → Led → Prop) : Prop :=
  ∀ (dp un : Nat) (gd : Option (List Code)) (cn : Str) (cs : Scope) (a : Addr) (ccd : Value) (cl : List (Str × Addr)) (outer : List Env) (A₀ : Around) (base h₀ : Heap) (L : Addr) (m : Str → Option Value) (s : Shared) (Q E : Value → Shared → Prop),
    Below A₀ base outer h₀ → Fr h₀ L s.heap m → (Mine.hd.heap_39 w.params).In h₀ → News h₀ L s.heap news → Top VW LS mean mg mb h₀ → cs.kind = .function → dp + nd < recursionLimit → un + 8 * nd < cLine →
    (∀ r news' h' tk', Out r news' → Fr h₀ L h' m → News h₀ L h' news' → Q r { s with heap := h', toks := tk' }) →
    wpAny (model PySem.Challenge.rw_pe0294_02.row.prog w) (ktrTop dp un gd cn cs L a ccd cl outer) (call f vs) Q E s

section
variable {prog : Program} {w : World} {A : Around} {E : Value → Shared → Prop} {s : Shared} {env : Env} {h₀ : Heap} {x : PySem.Str} {body : List Stmt} {Q : Flow → Shared → Prop}

theorem textG {σ : Type} {xt : PySem.Str} {tx : Tok} {m₀ : PySem.Str → Option Value} (Led : σ → List (Addr × Obj)) (ps : σ → List (PySem.Str × Value)) (Facts : σ → Prop) (stored : List PySem.Str) (P : List Int → σ → Prop) (c₀ : σ)
    (hh : A.handled = none) (F : Fr h₀ env.locals s.heap m₀) (N : News h₀ env.locals s.heap (Led c₀)) (hf : Facts c₀) (hk : ∀ p ∈ ps c₀, m₀ p.1 = some p.2) (hp : P [] c₀)
    (turn : ∀ (c : σ) (pre post : List Int) (n : Nat) t (u : PySem.Str → Option Value) h tk own, KStt.codes xt = pre ++ (n : Int) :: post → OwnOff own ((Led c).map (·.1)) → Facts c → P pre c →
      Fr h₀ env.locals h (fun y => if y = x then some (.str ⟨#[n]⟩ t) else kstB (fun z => if stored.contains z then u z else m₀ z) (ps c) y) → News h₀ env.locals h (Led c ++ own) →
      wpAny (model prog w) A (execs body env) (InvPostG h₀ env.locals (KstS Led ps Facts x stored m₀ P (pre ++ [(n : Int)])) own { s with heap := h, toks := tk } Q) E { s with heap := h, toks := tk })
    (done : ∀ (c : σ) (u : PySem.Str → Option Value) h tk, Facts c → P (KStt.codes xt) c → Fr h₀ env.locals h (fun y => if y = x then u y else kstB (fun z => if stored.contains z then u z else m₀ z) (ps c) y) → News h₀ env.locals h (Led c) → Q .next { s with heap := h, toks := tk }) :
    wpAny (model prog w) A (pyIter (.str xt tx)) (fun it s₂ => LoopAtV prog w A h₀ env x body Q E it s₂) E s := by
  have main : ∀ (o : Obj) (ty : String), o.isFreed = false → (s.heap.push o).IsStrIter s.heap.objs.size ty xt tx 0 →
      Walks prog w A s.heap.objs.size [s.heap.objs.size] [s.heap.objs.size] xt.cps.size (SignAt xt) (fun i h => h.IsStrIter s.heap.objs.size ty xt tx i) →
      LoopAtV prog w A h₀ env x body Q E (.ref s.heap.objs.size) { s with heap := s.heap.push o } := by
    intro o ty _ hst W
    refine kdr_loop (s := { s with heap := s.heap.push o }) (news := Led c₀) (fun i m nx => KstS Led ps Facts x stored m₀ P ((KStt.codes xt).take i) m nx) W (fun _ h => h) (fun _ h => h) ?_ ?_ ?_ ?_ hst (F.push _) (fun p hp => ⟨Heap.get?_push_of_some _ (N p hp).1, (N p hp).2⟩) ⟨c₀, rfl, hf, hk, fun _ _ _ _ => rfl, by simpa using hp⟩ ?_ ?_
    · intro i h hi b hb
      rw [List.mem_singleton.mp hb]
      exact ⟨_, hi.choose_spec.1⟩
    · intro hm
      exact absurd F.ns.lt ((List.mem_singleton.mp hm) ▸ Nat.lt_irrefl _)
    · intro b hb
      rw [List.mem_singleton.mp hb]
      exact next_is_new F
    · intro p hp hI
      exact absurd (Heap.lt_size (N p hp).1) ((List.mem_singleton.mp hI) ▸ Nat.lt_irrefl _)
    · rintro i v m₁ nx h tk own hi ⟨n, u, hn, rfl⟩ hoff ⟨c, rfl, hf', h1, h2, hp'⟩ F₁ N₁
      have hn' := KStt.code_at hn
      have hs : (KStt.codes xt).take (i + 1) = (KStt.codes xt).take i ++ [(n : Int)] := by simp [List.take_add_one, hn']
      have e : KStt.codes xt = (KStt.codes xt).take i ++ (n : Int) :: (KStt.codes xt).drop (i + 1) := by
        have ht := List.take_append_drop (i + 1) (KStt.codes xt)
        rw [hs, List.append_assoc] at ht
        exact ht.symm
      rw [hs]
      exact turn c _ _ n u m₁ h tk own e hoff hf' hp' (kst_fr h1 h2 F₁) N₁
    · rintro m₁ nx h tk ⟨c, rfl, hf', h1, h2, hp'⟩ F₁ N₁
      have hl : xt.cps.size = (KStt.codes xt).length := (KStt.codes_length xt).symm
      rw [hl, List.take_length] at hp'
      exact done c m₁ h tk hf' hp' (kst_frOut h1 h2 F₁) N₁
  cases ha : xt.cps.all (· < 128)
  · exact wpAny_pyIter_wide ha (main _ _ rfl ⟨_, Heap.get?_push_size _ rfl, rfl, rfl⟩ (Walks.strWide hh _ xt tx))
  · exact wpAny_pyIter_ascii ha (main _ _ rfl ⟨_, Heap.get?_push_size _ rfl, rfl, rfl⟩ (Walks.strAscii hh _ xt tx))

theorem rangeG {σ : Type} {r : Addr} {a₀ b₀ : Int} {t₀ u₀ v₀ : Tok} {m₀ : PySem.Str → Option Value} (Led : σ → List (Addr × Obj)) (ps : σ → List (PySem.Str × Value)) (Facts : σ → Prop) (stored : List PySem.Str) (P : List Int → σ → Prop) (c₀ : σ)
    (hh : A.handled = none) (hr : IsRange s.heap r a₀ b₀ 1 t₀ u₀ v₀) (F : Fr h₀ env.locals s.heap m₀) (N : News h₀ env.locals s.heap (Led c₀)) (hf : Facts c₀) (hk : ∀ p ∈ ps c₀, m₀ p.1 = some p.2) (hp : P [] c₀)
    (turn : ∀ (c : σ) (pre : List Int) (k : Int) t (u : PySem.Str → Option Value) h tk own, k = a₀ + (pre.length : Int) → k < b₀ → OwnOff own ((Led c).map (·.1)) → Facts c → P pre c →
      Fr h₀ env.locals h (fun y => if y = x then some (.int k t) else kstB (fun z => if stored.contains z then u z else m₀ z) (ps c) y) → News h₀ env.locals h (Led c ++ own) →
      wpAny (model prog w) A (execs body env) (InvPostG h₀ env.locals (KstS Led ps Facts x stored m₀ P (pre ++ [k])) own { s with heap := h, toks := tk } Q) E { s with heap := h, toks := tk })
    (done : ∀ (c : σ) (u : PySem.Str → Option Value) h tk, Facts c → P (rangeKs a₀ (b₀ - a₀).toNat) c → Fr h₀ env.locals h (fun y => if y = x then u y else kstB (fun z => if stored.contains z then u z else m₀ z) (ps c) y) → News h₀ env.locals h (Led c) → Q .next { s with heap := h, toks := tk }) :
    wpAny (model prog w) A (pyIter (.ref r)) (fun it s₂ => LoopAtV prog w A h₀ env x body Q E it s₂) E s := by
  have hsz : Builtin.Range.rangeSize a₀ b₀ 1 = (((b₀ - a₀).toNat : Nat) : Int) := by
    rw [rangeSize_one]; split <;> omega
  have main : ∀ (o : Obj) (St : Nat → Heap → Prop), o.isFreed = false → St 0 (s.heap.push o) → (∀ i h, St i h → ∃ o, h.get? s.heap.objs.size = some o) →
      Walks prog w A s.heap.objs.size [s.heap.objs.size] [s.heap.objs.size] (b₀ - a₀).toNat (fun i v => i < (b₀ - a₀).toNat ∧ ∃ t, v = .int (a₀ + i * 1) t) St →
      LoopAtV prog w A h₀ env x body Q E (.ref s.heap.objs.size) { s with heap := s.heap.push o } := by
    intro o St _ hst hob W
    refine kdr_loop (s := { s with heap := s.heap.push o }) (news := Led c₀) (fun i m nx => KstS Led ps Facts x stored m₀ P ((rangeKs a₀ (b₀ - a₀).toNat).take i) m nx) W (fun _ h => h) (fun _ h => h) ?_ ?_ ?_ ?_ hst (F.push _) (fun p hp => ⟨Heap.get?_push_of_some _ (N p hp).1, (N p hp).2⟩) ⟨c₀, rfl, hf, hk, fun _ _ _ _ => rfl, by simpa using hp⟩ ?_ ?_
    · intro i h hi b hb
      rw [List.mem_singleton.mp hb]
      exact hob i h hi
    · intro hm
      exact absurd F.ns.lt ((List.mem_singleton.mp hm) ▸ Nat.lt_irrefl _)
    · intro b hb
      rw [List.mem_singleton.mp hb]
      exact next_is_new F
    · intro p hp hI
      exact absurd (Heap.lt_size (N p hp).1) ((List.mem_singleton.mp hI) ▸ Nat.lt_irrefl _)
    · rintro i v m₁ nx h tk own hi ⟨_, t, rfl⟩ hoff ⟨c, rfl, hf', h1, h2, hp'⟩ F₁ N₁
      have e1 : a₀ + (i : Int) * 1 = a₀ + (i : Int) := by omega
      rw [e1] at F₁
      have hk' : (rangeKs a₀ (b₀ - a₀).toNat)[i]? = some (a₀ + (i : Int)) := by simp [rangeKs, hi]
      have hs : (rangeKs a₀ (b₀ - a₀).toNat).take (i + 1) = (rangeKs a₀ (b₀ - a₀).toNat).take i ++ [a₀ + (i : Int)] := by simp [List.take_add_one, hk']
      have hlen : ((rangeKs a₀ (b₀ - a₀).toNat).take i).length = i := by rw [List.length_take, rangeKs_length]; omega
      rw [hs]
      exact turn c _ _ t m₁ h tk own (by rw [hlen]) (by omega) hoff hf' hp' (kst_fr h1 h2 F₁) N₁
    · rintro m₁ nx h tk ⟨c, rfl, hf', h1, h2, hp'⟩ F₁ N₁
      have hl : (rangeKs a₀ (b₀ - a₀).toNat).take (b₀ - a₀).toNat = rangeKs a₀ (b₀ - a₀).toNat := List.take_of_length_le (Nat.le_of_eq (rangeKs_length _ _))
      rw [hl] at hp'
      exact done c m₁ h tk hf' hp' (kst_frOut h1 h2 F₁) N₁
  cases hsm : Builtin.Range.small a₀ b₀ 1
  · refine wpAny_pyIter_longrange hr hsm (main _ (fun i h => IsLongIter h s.heap.objs.size (a₀ + (i : Nat) * 1) ((((b₀ - a₀).toNat : Nat) : Int) - (i : Nat)) 1) rfl ?_ (fun i h hi => ⟨_, hi⟩) (Walks.longrange hh _ a₀ 1 _).bound)
    show IsLongIter _ _ _ _ _
    rw [hsz]; simpa using Heap.get?_push_size _ rfl
  · refine wpAny_pyIter_range hr hsm (main _ (fun i h => IsRangeIter h s.heap.objs.size (a₀ + (i : Nat) * 1) ((((b₀ - a₀).toNat : Nat) : Int) - (i : Nat)) 1) rfl ?_ (fun i h hi => ⟨_, hi⟩) (Walks.range hh _ a₀ 1 _).bound)
    show IsRangeIter _ _ _ _ _
    rw [hsz]; simpa using Heap.get?_push_size _ rfl

theorem endG {σ : Type} {Led : σ → List (Addr × Obj)} {ps : σ → List (Str × Value)} {Facts : σ → Prop} {stored : List Str} {m₀ : Str → Option Value} {P : List Int → σ → Prop} {pre : List Int} (c : σ) {L : Addr} {m' : Str → Option Value} {own news' : List (Addr × Obj)} {s₁ : Shared} {h' : Heap} {tk : Nat}
    (F : Fr h₀ L h' m') (N : News h₀ L h' news') (hn : ∀ p ∈ Led c, p ∈ news') (ho : ∀ p ∈ own, p ∈ news') (ha : OwnOff own ((Led c).map (·.1))) (hf : Facts c) (hk : ∀ p ∈ ps c, m' p.1 = some p.2) (hr : ∀ z, z ≠ x → (∀ p ∈ ps c, z ≠ p.1) → stored.contains z = false → m' z = m₀ z) (hp : P pre c) :
    InvEndG h₀ L (KstS Led ps Facts x stored m₀ P pre) own s₁ { s₁ with heap := h', toks := tk } :=
  InvEndG.intro F N ⟨c, rfl, hf, hk, hr, hp⟩ ha hn ho
end

section
variable {prog : Program} {w : World} {A : Around} {E : Value → Shared → Prop} {s : Shared} {env : Env} {h₀ : Heap} {x : PySem.Str} {body : List Stmt} {Q : Flow → Shared → Prop}
noncomputable abbrev oneS (news : Led) (x y : Str) (m₀ : Str → Option Value) (P : List Int → Int → Prop) (pre : List Int) : (Str → Option Value) → Led → Prop :=
  KstS (σ := Int × Tok) (fun _ => news) (fun c => [(y, .int c.1 c.2)]) (fun _ => True) x [] m₀ (fun pre c => P pre c.1) pre
theorem rangeI {r : Addr} {a₀ b₀ : Int} {t₀ u₀ v₀ : Tok} {m₀ : PySem.Str → Option Value} {news : Led} {il₀ : Int} {tl₀ : Tok} (y : Str) (P : List Int → Int → Prop)
    (hh : A.handled = none) (hr : IsRange s.heap r a₀ b₀ 1 t₀ u₀ v₀) (F : Fr h₀ env.locals s.heap m₀) (N : News h₀ env.locals s.heap news) (hy : m₀ y = some (.int il₀ tl₀)) (hp : P [] il₀)
    (turn : ∀ (il : Int) (tl : Tok) (pre : List Int) (k : Int) t h tk own, k = a₀ + (pre.length : Int) → k < b₀ → OwnOff own (news.map (·.1)) → P pre il →
      Fr h₀ env.locals h (fun z => if z = x then some (.int k t) else if z = y then some (.int il tl) else m₀ z) → News h₀ env.locals h (news ++ own) →
      wpAny (model prog w) A (execs body env) (InvPostG h₀ env.locals (oneS news x y m₀ P (pre ++ [k])) own { s with heap := h, toks := tk } Q) E { s with heap := h, toks := tk })
    (done : ∀ (il : Int) (tl : Tok) (u : PySem.Str → Option Value) h tk, P (rangeKs a₀ (b₀ - a₀).toNat) il → Fr h₀ env.locals h (fun z => if z = x then u z else if z = y then some (.int il tl) else m₀ z) → News h₀ env.locals h news → Q .next { s with heap := h, toks := tk }) :
    wpAny (model prog w) A (pyIter (.ref r)) (fun it s₂ => LoopAtV prog w A h₀ env x body Q E it s₂) E s := by
  refine rangeG (σ := Int × Tok) (fun _ => news) (fun c => [(y, .int c.1 c.2)]) (fun _ => True) [] (fun pre c => P pre c.1) (il₀, tl₀) hh hr F N trivial (by intro p hp; rw [List.mem_singleton.mp hp]; exact hy) hp ?_ ?_
  · rintro ⟨il, tl⟩ pre k t u h tk own hk hb hoff _ hp' F' N'
    exact turn il tl pre k t h tk own hk hb hoff hp' F' N'
  · rintro ⟨il, tl⟩ u h tk _ hp' F' N'
    exact done il tl u h tk hp' F' N'
theorem endI {news : Led} {y : Str} {m₀ : Str → Option Value} {P : List Int → Int → Prop} {pre : List Int} {L : Addr} {m' : Str → Option Value} {own news' : Led} {s₁ : Shared} {h' : Heap} {tk : Nat} {il : Int} {tl : Tok}
    (F : Fr h₀ L h' m') (hy : m' y = some (.int il tl)) (N : News h₀ L h' news') (hp : P pre il) (hn : ∀ p ∈ news, p ∈ news') (ho : ∀ p ∈ own, p ∈ news') (ha : OwnOff own (news.map (·.1))) (hr : ∀ z, z ≠ x → z ≠ y → m' z = m₀ z) :
    InvEndG h₀ L (oneS news x y m₀ P pre) own s₁ { s₁ with heap := h', toks := tk } :=
  endG (σ := Int × Tok) (Led := fun _ => news) (ps := fun c => [(y, .int c.1 c.2)]) (Facts := fun _ => True) (il, tl) F N hn ho ha trivial (by intro p hp; rw [List.mem_singleton.mp hp]; exact hy) (fun z h1 h2 _ => hr z h1 (h2 _ (.head _))) hp
end

/-! what the loops say, over codes -/
noncomputable def colStep (size : Int) (c : Int) (n : Int) : Int := if n = 9 then c + size - c.fmod size else c + 1
noncomputable def colOf (size : Int) (x : List Int) : Int := x.foldl (colStep size) 0

theorem sign_eq {n : Nat} {c : Nat} : (((⟨#[n]⟩ : PySem.Str) == ⟨#[c]⟩) = true) ↔ n = c := by
  rw [beq_iff_eq]
  constructor
  · intro h
    have := congrArg PySem.Str.cps h
    simpa using this
  · rintro rfl; rfl
theorem tab_is : (Str.ofString "\t") = ⟨#[9]⟩ := by decide +kernel
theorem blank_is : (Str.ofString " ") = ⟨#[32]⟩ := by decide +kernel
theorem tab_yes {n : Nat} (h : ((⟨#[n]⟩ : PySem.Str) == Str.ofString "\t") = true) : (n : Int) = 9 := by
  rw [tab_is] at h; exact congrArg Int.ofNat (sign_eq.mp h)
theorem tab_no {n : Nat} (h : ((⟨#[n]⟩ : PySem.Str) == Str.ofString "\t") = false) : (n : Int) ≠ 9 := by
  rw [tab_is] at h; intro e
  have e' : n = 9 := by omega
  rw [sign_eq.mpr e'] at h; cases h
theorem blank_yes {n : Nat} (h : ((⟨#[n]⟩ : PySem.Str) == Str.ofString " ") = true) : (n : Int) = 32 := by
  rw [blank_is] at h; exact congrArg Int.ofNat (sign_eq.mp h)
theorem blank_no {n : Nat} (h : ((⟨#[n]⟩ : PySem.Str) == Str.ofString " ") = false) : (n : Int) ≠ 32 := by
  rw [blank_is] at h; intro e
  have e' : n = 32 := by omega
  rw [sign_eq.mpr e'] at h; cases h
theorem col_tab {size c : Int} {n : Nat} {pre : List Int} (h : ((⟨#[n]⟩ : PySem.Str) == Str.ofString "\t") = true) (hc : c = pre.foldl (colStep size) 0) :
    c + size - c.fmod size = (pre ++ [(n : Int)]).foldl (colStep size) 0 := by
  rw [List.foldl_append, ← hc, List.foldl_cons, List.foldl_nil, colStep, if_pos (tab_yes h)]
theorem col_one {size c : Int} {n : Nat} {pre : List Int} (h : ((⟨#[n]⟩ : PySem.Str) == Str.ofString "\t") = false) (hc : c = pre.foldl (colStep size) 0) :
    c + 1 = (pre ++ [(n : Int)]).foldl (colStep size) 0 := by
  rw [List.foldl_append, ← hc, List.foldl_cons, List.foldl_nil, colStep, if_neg (tab_no h)]

theorem column_ctr {w mean mg mb} (news : Led) (x : Str) (t : Tok) (size : Int) (u : Tok) (hs : 0 < size) :
    Ctr w mean mg mb 1 (.ref 106) [.str x t, .int size u] news (fun r news' => (∃ v, r = .int (colOf size (KStt.codes x)) v) ∧ news' = news) := by
  unfold Ctr
  w_top off
  k_with_none
  k_fill
  intro dp un gd cn cs a ccd cl outer A₀ base h₀ L m s Q E B F X N T hk hd hu hret
  refine wpAny_call ?_
  k_dflt cell_enter
  k_with "pyIter str" => k_state (fun pre c => c = pre.foldl (colStep size) 0) "column"
  k_with "state" => first | rfl | exact col_tab (by assumption) (by assumption) | exact col_one (by assumption) (by assumption)
  k_steps
  all_goals exact hret _ _ _ _ ⟨⟨_, congrArg (Value.int · _) kInv⟩, rfl⟩ (by k_asm) (by k_asm)
end Mine
namespace Mine
local macro_rules | `(tactic| k_room) => `(tactic| ktr_room)

theorem newsSub {h₀ h : Heap} {L : Addr} {a b : Led} (N : News h₀ L h a) (hs : ∀ p ∈ b, p ∈ a) : News h₀ L h b := fun p hp => N p (hs p hp)
structure WS where
  cnt : List Int
  b : Int
  n : Int
  nt : Int

noncomputable def padTo (cnt : List Int) (b : Int) : List Int := if (cnt.length : Int) ≤ b then cnt ++ (List.replicate (b - cnt.length + 1).toNat [0]).flatten else cnt
noncomputable def bump (cnt : List Int) (b : Int) : List Int := cnt.set b.toNat (cnt.getD b.toNat 0 + 1)
noncomputable def parse : List Int → WS → WS
  | [], st => st
  | c :: cs, st => if c = 32 then parse cs ⟨st.cnt, st.b + 1, st.n + 1, st.nt⟩
    else if c = 9 then parse cs ⟨bump (padTo st.cnt st.b) st.b, 0, st.n + 1, st.nt + 1⟩
    else st

structure IS where
  l : Addr
  vs : List Value
  cnt : List Int
  ep : Nat
  b : Int
  tb : Tok
  n : Int
  tn : Tok
  nt : Int
  tnt : Tok
noncomputable abbrev isLed (rest : Led) (c : IS) : Led := (c.l, W.listOf c.vs.toArray c.ep) :: rest
noncomputable abbrev isPs (c : IS) : List (Str × Value) := [(Str.ofString "count", .ref c.l), (Str.ofString "b", .int c.b c.tb), (Str.ofString "n", .int c.n c.tn), (Str.ofString "nt", .int c.nt c.tnt)]
noncomputable abbrev isFacts (rest : Led) (c : IS) : Prop := IntsAre c.vs c.cnt ∧ AllLt c.l rest
structure IsInv (pre : List Int) (cnt : List Int) (b n nt : Int) : Prop where
  par : ∀ post, parse (pre ++ post) ⟨[], 0, 0, 0⟩ = parse post ⟨cnt, b, n, nt⟩
  b0 : 0 ≤ b
  b1 : b ≤ pre.length
  n0 : 0 ≤ n
  n1 : n ≤ pre.length
  nt0 : 0 ≤ nt
  nt1 : nt ≤ n
  len : cnt.length ≤ pre.length
noncomputable abbrev isP (pre : List Int) (c : IS) : Prop := IsInv pre c.cnt c.b c.n c.nt

theorem IsInv.blank {pre : List Int} {cnt : List Int} {b n nt : Int} {k : Nat} (hp : IsInv pre cnt b n nt) (h : ((⟨#[k]⟩ : PySem.Str) == Str.ofString " ") = true) :
    IsInv (pre ++ [(k : Int)]) cnt (b + 1) (n + 1) nt := by
  obtain ⟨h1, h2, h3, h4, h5, h6, h7, h8⟩ := hp
  refine ⟨fun post => ?_, by omega, by simp; omega, by omega, by simp; omega, by omega, by omega, by simp; omega⟩
  rw [List.append_assoc, h1, List.singleton_append, parse, if_pos (blank_yes h)]
theorem flat_one (n : Nat) : ((List.replicate n [(0 : Int)]).flatten).length = n := by simp
theorem IsInv.tab {pre : List Int} {cnt : List Int} {b n nt : Int} {k : Nat} (hp : IsInv pre cnt b n nt) (h0 : ((⟨#[k]⟩ : PySem.Str) == Str.ofString " ") = false) (h : ((⟨#[k]⟩ : PySem.Str) == Str.ofString "\t") = true) :
    IsInv (pre ++ [(k : Int)]) (bump (padTo cnt b) b) 0 (n + 1) (nt + 1) := by
  obtain ⟨h1, h2, h3, h4, h5, h6, h7, h8⟩ := hp
  refine ⟨fun post => ?_, by omega, by simp; omega, by omega, by simp; omega, by omega, by omega, ?_⟩
  · rw [List.append_assoc, h1, List.singleton_append, parse, if_neg (blank_no h0), if_pos (tab_yes h)]
  · unfold bump padTo
    rw [List.length_set]
    split
    · rw [List.length_append, flat_one]; simp; omega
    · simp; omega
theorem IsInv.tab1 {pre : List Int} {cnt : List Int} {b n nt : Int} {k : Nat} (hp : IsInv pre cnt b n nt) (h0 : ((⟨#[k]⟩ : PySem.Str) == Str.ofString " ") = false) (h : ((⟨#[k]⟩ : PySem.Str) == Str.ofString "\t") = true) (hb : (cnt.length : Int) ≤ b) :
    IsInv (pre ++ [(k : Int)]) ((cnt ++ (List.replicate (b - cnt.length + 1).toNat [0]).flatten).set b.toNat ((cnt ++ (List.replicate (b - cnt.length + 1).toNat [0]).flatten).getD b.toNat 0 + 1)) 0 (n + 1) (nt + 1) := by
  have := hp.tab h0 h
  unfold bump padTo at this
  rw [if_pos hb] at this
  exact this
theorem IsInv.tab2 {pre : List Int} {cnt : List Int} {b n nt : Int} {k : Nat} (hp : IsInv pre cnt b n nt) (h0 : ((⟨#[k]⟩ : PySem.Str) == Str.ofString " ") = false) (h : ((⟨#[k]⟩ : PySem.Str) == Str.ofString "\t") = true) (hb : ¬ (cnt.length : Int) ≤ b) :
    IsInv (pre ++ [(k : Int)]) (cnt.set b.toNat (cnt.getD b.toNat 0 + 1)) 0 (n + 1) (nt + 1) := by
  have := hp.tab h0 h
  unfold bump padTo at this
  rw [if_neg hb] at this
  exact this
theorem IsInv.out {pre post : List Int} {cnt : List Int} {b n nt : Int} {k : Nat} (hp : IsInv pre cnt b n nt) (h0 : ((⟨#[k]⟩ : PySem.Str) == Str.ofString " ") = false) (h : ((⟨#[k]⟩ : PySem.Str) == Str.ofString "\t") = false) :
    parse (pre ++ (k : Int) :: post) ⟨[], 0, 0, 0⟩ = ⟨cnt, b, n, nt⟩ := by
  rw [hp.par, parse, if_neg (blank_no h0), if_neg (tab_no h)]
theorem IsInv.all {pre : List Int} {cnt : List Int} {b n nt : Int} (hp : IsInv pre cnt b n nt) : parse pre ⟨[], 0, 0, 0⟩ = ⟨cnt, b, n, nt⟩ := by
  have := hp.par []
  rw [List.append_nil] at this
  exact this

theorem offNew {own X : Led} {adr : List Addr} {l l' : Addr} (h : AllLt l' (X ++ own)) (ho : OwnOff own (l :: adr)) : OwnOff own (l' :: adr) := by
  intro p hp b hb
  rcases List.mem_cons.mp hb with rfl | hb
  · exact Nat.ne_of_lt (kst_ltOf h p (List.mem_append.mpr (.inr hp)))
  · exact ho p hp b (.tail _ hb)
theorem allLt_left {l : Addr} {X Y : Led} (h : AllLt l (X ++ Y)) : AllLt l X := allLt_of fun p hp => kst_ltOf h p (List.mem_append.mpr (.inl hp))

theorem endIS {h₀ : Heap} {x : PySem.Str} {rest : Led} {stored : List Str} {m₀ : Str → Option Value} {pre : List Int} {L : Addr} {m' : Str → Option Value} {own news' : Led} {s₁ : Shared} {h' : Heap} {tk : Nat} {l : Addr} {b n nt : Int} {tb tn tnt : Tok} {vs : List Value} {cnt : List Int} {ep : Nat}
    (F : Fr h₀ L h' m') (h1 : m' (Str.ofString "count") = some (.ref l)) (h2 : m' (Str.ofString "b") = some (.int b tb)) (h3 : m' (Str.ofString "n") = some (.int n tn)) (h4 : m' (Str.ofString "nt") = some (.int nt tnt))
    (N : News h₀ L h' news') (hi : IntsAre vs cnt) (hm : (l, W.listOf vs.toArray ep) ∈ news') (hp : IsInv pre cnt b n nt) (hn : ∀ p ∈ rest, p ∈ news') (ho : ∀ p ∈ own, p ∈ news') (ha : OwnOff own (l :: rest.map (·.1))) (hlt : AllLt l rest)
    (hr : ∀ z, z ≠ x → (∀ p ∈ isPs ⟨l, vs, cnt, ep, b, tb, n, tn, nt, tnt⟩, z ≠ p.1) → stored.contains z = false → m' z = m₀ z) :
    InvEndG h₀ L (KstS (isLed rest) isPs (isFacts rest) x stored m₀ isP pre) own s₁ { s₁ with heap := h', toks := tk } :=
  endG (Led := isLed rest) (ps := isPs) (Facts := isFacts rest) ⟨l, vs, cnt, ep, b, tb, n, tn, nt, tnt⟩ F N (List.forall_mem_cons.mpr ⟨hm, hn⟩) ho ha ⟨hi, hlt⟩ (by intro p hp; simp only [isPs, List.mem_cons, List.not_mem_nil, or_false] at hp; rcases hp with rfl | rfl | rfl | rfl <;> assumption) hr hp

theorem tupL {prog : Program} {w : World} {A : Around} {E : Value → Shared → Prop} {s : Shared} {h₀ : Heap} {L : Addr} {m : Str → Option Value} {Q : Value → Shared → Prop} {l : Addr} {vs : List Value} {c : Nat} {news : Led} (F : Fr h₀ L s.heap m) (N : News h₀ L s.heap news) (hm : (l, W.listOf vs.toArray c) ∈ news)
    (hsz : vs.length ≤ sizeLine) (h : ∀ D h', Fr h₀ L h' m → News h₀ L h' ((D, ({ cls := .type "tuple", data := .seq vs.toArray } : Obj)) :: news) → (∀ p ∈ news, p.1 < D) → Q (.ref D) { s with heap := h' }) :
    wpAny (model prog w) A (call (.type "tuple") [.ref l]) Q E s := by
  have hl : s.heap.IsList l vs.toArray := ⟨_, (N _ hm).1, rfl, c, rfl⟩
  refine call_tuple_list hl (fun h' hk => ?_) (by rw [List.size_toArray]; exact hsz)
  have F' : Fr h₀ L h' m := F.keeps hk
  have N' : News h₀ L h' news := fun p hp => ⟨hk _ _ (N p hp).1, (N p hp).2⟩
  exact h _ _ (F'.push _) (N'.push F' _) fun p hp => Heap.lt_size (N' p hp).1

/-- an object of the class -/
structure WW where
  x : Addr
  dx : Addr
  p : Addr
  q : Addr
  raw : Str
  h1 : Int
  h2 : Int
  h3 : Int
  h4 : Int
  h5 : Int
  k1 : Tok
  k2 : Tok
  k3 : Tok
  k4 : Tok
  k5 : Tok
  u1 : Tok
  u2 : Tok
  u3 : Tok
  u6 : Tok
  vs : List Value
noncomputable abbrev tupObj (vs : List Value) : Obj := { cls := .type "tuple", data := .seq vs.toArray }
noncomputable def WW.dob (W : WW) (S : WS) : Obj := dictOf [⟨W.h1, .str (Str.ofString "raw") W.k1, .str W.raw W.u1⟩, ⟨W.h2, .str (Str.ofString "n") W.k2, .int S.n W.u2⟩, ⟨W.h3, .str (Str.ofString "nt") W.k3, .int S.nt W.u3⟩, ⟨W.h4, .str (Str.ofString "norm") W.k4, .ref W.p⟩, ⟨W.h5, .str (Str.ofString "is_simple") W.k5, .bool (decide ((S.cnt.length : Int) ≤ 1))⟩] 5
noncomputable def WW.pob (W : WW) (S : WS) : Obj := { cls := .type "tuple", data := .seq #[.ref W.q, .int S.b W.u6] }
noncomputable abbrev WW.led (W : WW) (S : WS) : Led := [(W.x, instObj 76 W.dx), (W.dx, W.dob S), (W.p, W.pob S), (W.q, tupObj W.vs)]
noncomputable abbrev makeOut (x : Str) (news : Led) (r : Value) (news' : Led) : Prop := ∃ (W : WW) (S : WS), parse (KStt.codes x) ⟨[], 0, 0, 0⟩ = S ∧ r = .ref W.x ∧ IntsAre W.vs S.cnt ∧ news' = W.led S ++ news
theorem make_end {h₀ : Heap} {L : Addr} {m : Str → Option Value} {s : Shared} {h' : Heap} {tk : Nat} {Q : Value → Shared → Prop} {news nn : Led} {x raw : Str} {cnt : List Int} {b n nt : Int} {x' dx p q : Addr} {h1 h2 h3 h4 h5 : Int} {k1 k2 k3 k4 k5 u1 u2 u3 u6 : Tok} {vs : List Value}
    (hret : ∀ r news' h' tk', makeOut x news r news' → Fr h₀ L h' m → News h₀ L h' news' → Q r { s with heap := h', toks := tk' })
    (F : Fr h₀ L h' m) (N : News h₀ L h' nn) (hS : parse (KStt.codes x) ⟨[], 0, 0, 0⟩ = ⟨cnt, b, n, nt⟩)
    (m1 : (x', instObj 76 dx) ∈ nn) (m2 : (dx, dictOf [⟨h1, .str (Str.ofString "raw") k1, .str raw u1⟩, ⟨h2, .str (Str.ofString "n") k2, .int n u2⟩, ⟨h3, .str (Str.ofString "nt") k3, .int nt u3⟩, ⟨h4, .str (Str.ofString "norm") k4, .ref p⟩, ⟨h5, .str (Str.ofString "is_simple") k5, .bool (decide ((cnt.length : Int) ≤ 1))⟩] 5) ∈ nn)
    (m3 : (p, ({ cls := .type "tuple", data := .seq #[.ref q, .int b u6] } : Obj)) ∈ nn) (m4 : (q, tupObj vs) ∈ nn) (hi : IntsAre vs cnt) (m5 : ∀ p ∈ news, p ∈ nn) : Q (.ref x') { s with heap := h', toks := tk } := by
  refine hret _ _ _ _ ⟨⟨x', dx, p, q, raw, h1, h2, h3, h4, h5, k1, k2, k3, k4, k5, u1, u2, u3, u6, vs⟩, ⟨cnt, b, n, nt⟩, hS, rfl, hi, rfl⟩ F fun e he => N e ?_
  rcases List.mem_append.mp he with he | he
  · simp only [WW.led, List.mem_cons, List.not_mem_nil, or_false] at he
    rcases he with rfl | rfl | rfl | rfl <;> assumption
  · exact m5 e he

theorem textL {prog : Program} {w : World} {A : Around} {E : Value → Shared → Prop} {s : Shared} {env : Env} {h₀ : Heap} {x : PySem.Str} {body : List Stmt} {Q : Flow → Shared → Prop} {xt : PySem.Str} {tx : Tok} {m₀ : PySem.Str → Option Value} {rest : Led} {l : Addr} {tb tn tnt : Tok}
    (hh : A.handled = none) (F : Fr h₀ env.locals s.heap m₀) (N : News h₀ env.locals s.heap ((l, W.listOf #[] 0) :: rest)) (hf : AllLt l rest) (h1 : m₀ (Str.ofString "count") = some (.ref l)) (h2 : m₀ (Str.ofString "b") = some (.int 0 tb)) (h3 : m₀ (Str.ofString "n") = some (.int 0 tn)) (h4 : m₀ (Str.ofString "nt") = some (.int 0 tnt))
    (turn : ∀ (c : IS) (pre post : List Int) (n : Nat) t (u : PySem.Str → Option Value) h tk own, KStt.codes xt = pre ++ (n : Int) :: post → OwnOff own ((isLed rest c).map (·.1)) → isFacts rest c → isP pre c →
      Fr h₀ env.locals h (fun y => if y = x then some (.str ⟨#[n]⟩ t) else kstB (fun z => if [Str.ofString "count", Str.ofString "b", Str.ofString "n", Str.ofString "nt"].contains z then u z else m₀ z) (isPs c) y) → News h₀ env.locals h (isLed rest c ++ own) →
      wpAny (model prog w) A (execs body env) (InvPostG h₀ env.locals (KstS (isLed rest) isPs (isFacts rest) x [Str.ofString "count", Str.ofString "b", Str.ofString "n", Str.ofString "nt"] m₀ isP (pre ++ [(n : Int)])) own { s with heap := h, toks := tk } Q) E { s with heap := h, toks := tk })
    (done : ∀ (c : IS) (u : PySem.Str → Option Value) h tk, isFacts rest c → isP (KStt.codes xt) c → Fr h₀ env.locals h (fun y => if y = x then u y else kstB (fun z => if [Str.ofString "count", Str.ofString "b", Str.ofString "n", Str.ofString "nt"].contains z then u z else m₀ z) (isPs c) y) → News h₀ env.locals h (isLed rest c) → Q .next { s with heap := h, toks := tk }) :
    wpAny (model prog w) A (pyIter (.str xt tx)) (fun it s₂ => LoopAtV prog w A h₀ env x body Q E it s₂) E s :=
  textG (isLed rest) isPs (isFacts rest) [Str.ofString "count", Str.ofString "b", Str.ofString "n", Str.ofString "nt"] isP ⟨l, [], [], 0, 0, tb, 0, tn, 0, tnt⟩ hh F N ⟨by constructor, hf⟩ (by intro p hp; simp only [isPs, List.mem_cons, List.not_mem_nil, or_false] at hp; rcases hp with rfl | rfl | rfl | rfl <;> assumption) ⟨fun _ => rfl, Int.le_refl 0, Int.le_refl 0, Int.le_refl 0, Int.le_refl 0, Int.le_refl 0, Int.le_refl 0, Nat.le_refl 0⟩ turn done

structure Stop (P : Prop) : Prop where
  out : P
structure StopAt (k : String) : Prop where
local macro_rules | `(tactic| walk_at $k:str) => `(tactic| ((rename StopAt $k => hS9); clear hS9; refine Stop.out ?_))
theorem make_ctr {w mean mg mb} (news : Led) (x : Str) (t : Tok) (hx : x.length ≤ 1000000) :
    Ctr w mean mg mb 3 (.ref 76) [.str x t] news (makeOut x news) := by
  unfold Ctr
  w_top off
  k_with_none
  k_fill
  intro dp un gd cn cs a ccd cl outer A₀ base h₀ L m s Q E B F X N T hk hd hu hret
  k_dflt (refine' call_cls ?k1 ?k2 ?k3 ?k4 ?k5 ?k6 ?_; (case k1 => k_asm); (case k2 => k_asm); (case k3 => k_asm); (case k4 => k_is); (case k5 => k_is); (case k6 => k_is); k_whole; intro x' d' h' F' N' l1 l2; (try k_lt l1); (try k_lt2 l2); (try k_sweep))
  k_dflt cell_enter
  k_steps
  rename Fr _ _ _ _ => lF
  rename News _ _ _ _ => lN
  have kMk := kstMark
  rename (_ < _ ∧ _ < _ ∧ _ < _ ∧ AllLt _ _) => lLt
  with_unfolding_all refine textL ?hh lF lN ?hf rfl rfl rfl rfl ?turn ?done
  case hh => rfl
  case hf => exact lLt
  case turn =>
    clear lF lN lLt
    rintro ⟨l, vs, cnt, ep, b, tb, n, tn, nt, tnt⟩ pre post k tk u h tok own hsp hoff ⟨hi, hlt⟩ hp F1 N1
    dsimp only at hi hlt hp
    try dsimp only [kstB] at F1
    try dsimp only at N1
    try dsimp only at hoff
    try simp only [List.nil_append, List.cons_append, List.append_nil] at N1
    try simp only [AllLt] at hlt
    try simp only [List.map_cons] at hoff
    replace hp : IsInv pre cnt b n nt := hp
    have hb0 : 0 ≤ b := hp.b0
    have hb1 : b ≤ pre.length := hp.b1
    have hlen : cnt.length ≤ pre.length := hp.len
    have hcl := hi.length
    have hxl : pre.length + (post.length + 1) = x.length := by
      rw [← KStt.codes_length x, hsp]; simp
    (try k_fold)
    have hStop : StopAt "call type:tuple" := ⟨⟩
    k_steps
    case _ =>
      rename Fr _ _ _ _ => eF
      rename News _ _ _ _ => eN
      with_unfolding_all refine' endIS eF rfl rfl rfl rfl eN ?hi ?hm ?hp ?hn ?ho ?ha ?hlt ?hr
      case hm => k_mem
      case hi => assumption
      case hp => exact hp.blank (by assumption)
      case hn => kst_anyIn
      case ho => kst_anyIn
      case ha => exact hoff
      case hlt => simpa only [AllLt] using hlt
      case hr => kst_same
    case _ =>
      rename Fr _ _ _ _ => eF
      rename News _ _ _ _ => eN
      rename (_ < _ ∧ _ < _ ∧ _ < _ ∧ _ < _ ∧ _ < _ ∧ _ < _ ∧ AllLt _ _) => eLt
      with_unfolding_all refine' endIS eF rfl rfl rfl rfl eN ?hi ?hm ?hp ?hn ?ho ?ha ?hlt ?hr
      case hm => k_mem
      case hi => assumption
      case hp => exact hp.tab1 (by assumption) (by assumption) (by assumption)
      case hn => kst_anyIn
      case ho => kst_anyIn
      case ha => exact offNew eLt.2.2.2.2.2.2 hoff
      case hlt => simp only [AllLt]; exact ⟨eLt.2.2.2.1, eLt.2.2.2.2.1, eLt.2.2.2.2.2.1, allLt_left eLt.2.2.2.2.2.2⟩
      case hr => kst_same
    case _ =>
      rename Fr _ _ _ _ => eF
      rename News _ _ _ _ => eN
      with_unfolding_all refine' endIS eF rfl rfl rfl rfl eN ?hi ?hm ?hp ?hn ?ho ?ha ?hlt ?hr
      case hm => k_mem
      case hi => assumption
      case hp => exact hp.tab2 (by assumption) (by assumption) (by assumption)
      case hn => kst_anyIn
      case ho => kst_anyIn
      case ha => exact hoff
      case hlt => simpa only [AllLt] using hlt
      case hr => kst_same
    case _ =>
      refine Stop.mk ?_
      k_here
      k_dflt (refine' tupL ?k1 ?k2 ?k3 ?k4 ?_; (case k1 => k_asm); (case k2 => k_asm); (case k3 => k_mem); (case k4 => (rw [sizeLine_eq]; omega)); k_whole); intro D' h' F' N' l1; (try k_lt l1); (try k_sweep)
      k_steps
      rename Fr _ _ _ _ => eF
      rename News _ _ _ _ => eN
      refine' make_end hret eF eN ?hS ?m1 ?m2 ?m3 ?m4 ?hi ?m5
      case m1 => k_mem
      case m2 => k_mem
      case m3 => k_mem
      case m4 => k_mem
      case hi => exact hi
      case hS => rw [hsp]; exact hp.out (by assumption) (by assumption)
      case m5 => kst_anyIn
  case done =>
    clear lF lN lLt
    rintro ⟨l, vs, cnt, ep, b, tb, n, tn, nt, tnt⟩ u h tok ⟨hi, hlt⟩ hp F1 N1
    dsimp only at hi hlt hp
    try dsimp only [kstB] at F1
    try dsimp only [isLed] at N1
    try simp only [List.nil_append, List.cons_append, List.append_nil] at N1
    try simp only [AllLt] at hlt
    replace hp : IsInv (KStt.codes x) cnt b n nt := hp
    have hlen : cnt.length ≤ (KStt.codes x).length := hp.len
    rw [KStt.codes_length] at hlen
    have hcl := hi.length
    (try k_fold)
    have hStop : StopAt "call type:tuple" := ⟨⟩
    k_steps
    refine Stop.mk ?_
    k_here
    k_dflt (refine' tupL ?k1 ?k2 ?k3 ?k4 ?_; (case k1 => k_asm); (case k2 => k_asm); (case k3 => k_mem); (case k4 => (rw [sizeLine_eq]; omega)); k_whole); intro D' h' F' N' l1; (try k_lt l1); (try k_sweep)
    k_steps
    case _ =>
      rename Fr _ _ _ _ => eF
      rename News _ _ _ _ => eN
      refine' make_end hret eF eN ?hS ?m1 ?m2 ?m3 ?m4 ?hi ?m5
      case m1 => k_mem
      case m2 => k_mem
      case m3 => k_mem
      case m4 => k_mem
      case hi => exact hi
      case hS => exact hp.all
      case m5 => kst_anyIn

theorem newsOf {h₀ h : Heap} {L : Addr} {a b : Led} (N : News h₀ L h b) (hs : ∀ p ∈ a, p ∈ b) : News h₀ L h (a ++ b) := fun p hp => (List.mem_append.mp hp).elim (fun h => N p (hs p h)) (N p)
theorem newsBack {h₀ h : Heap} {L : Addr} {a b : Led} (N : News h₀ L h (a ++ b)) : News h₀ L h b := fun p hp => N p (List.mem_append.mpr (.inr hp))

section
variable {prog : Program} {w : World} {A : Around} {E : Value → Shared → Prop} {s : Shared} {h₀ : Heap} {L : Addr} {m : Str → Option Value} {Q : Value → Shared → Prop} {news : Led}
theorem lenT {t : Addr} {vs : List Value} {ns : List Int} (N : News h₀ L s.heap news) (hm : (t, tupObj vs) ∈ news) (hi : IntsAre vs ns) (hfit : ns.length < 2 ^ 62)
    (h : Q (.int (ns.length : Int) (s.toks + 1)) { s with toks := s.toks + 1 + 1 }) : wpAny (model prog w) A (call (.builtin "len") [.ref t]) Q E s := by
  have e : vs.toArray.size = ns.length := by rw [List.size_toArray, hi.length]
  have ht : IsTup s.heap t vs.toArray := News.isTup N hm
  exact PyProof.Rows.len_tuple ht (by rw [e]; omega) (by rw [e]; exact h)
theorem itemT {value slice : PySem.Expr} {t : Addr} {vs : List Value} {ns : List Int} {k : Int} {u : Tok} (N : News h₀ L s.heap news) (hm : (t, tupObj vs) ∈ news) (hi : IntsAre vs ns) (h0 : 0 ≤ k) (h1 : k < ns.length) (hfit : ns.length < 2 ^ 62)
    (h : ∀ tk, Q (.int (ns.getD k.toNat 0) tk) s)
    (hs : subscripted slice false (.ref t) (.int k u) = operate [.ref t, .int k u] (getItem (.ref t) (.int k u)) := by with_unfolding_all rfl) :
    wpAny (model prog w) A (subscriptTail value slice (.ref t) (.int k u)) Q E s := by
  have hlt : k.toNat < ns.length := by omega
  obtain ⟨tk, hx⟩ := hi.get k.toNat ns[k.toNat] (by simp [hlt])
  have ht : IsTup s.heap t vs.toArray := News.isTup N hm
  have hl := hi.length
  refine item_tupleT ht (j := k.toNat) (x := .int ns[k.toNat] tk) (by omega) (by omega) ?_ hx ?_ hs
  · unfold seqIndex?
    have : ¬ k < 0 := by omega
    simp [this]
    omega
  · have := h tk
    rw [List.getD_eq_getElem?_getD, List.getElem?_eq_getElem hlt] at this
    exact this
end

theorem fdiv_lo {i ts : Int} (h0 : 0 ≤ i) (hts : 1 ≤ ts) : 0 ≤ i.fdiv ts := by
  rw [Int.fdiv_eq_ediv_of_nonneg _ (by omega)]
  exact Int.ediv_nonneg h0 (by omega)
theorem fdiv_hi {i ts : Int} (h0 : 0 ≤ i) (hts : 1 ≤ ts) : i.fdiv ts ≤ i := by
  rw [Int.fdiv_eq_ediv_of_nonneg _ (by omega)]
  exact Int.ediv_le_self _ h0
theorem fdivOk {i ts c : Int} (h0 : 0 ≤ i) (h1 : i < 2 ^ 62) (hts : 1 ≤ ts) : IntMulOk (i.fdiv ts) c := by
  have := fdiv_lo h0 hts
  have := fdiv_hi h0 hts
  exact .of_left (intBits_le_64 (by omega) (by omega))
noncomputable def lvTerm (cnt : List Int) (ts i : Int) : Int := i.fdiv ts * cnt.getD i.toNat 0
noncomputable def lvSum (cnt : List Int) (ts : Int) (l : List Int) : Int := (l.map (lvTerm cnt ts)).sum
theorem lvSum_snoc (cnt : List Int) (ts : Int) (l : List Int) (i : Int) : lvSum cnt ts (l ++ [i]) = lvSum cnt ts l + i.fdiv ts * cnt.getD i.toNat 0 := by
  unfold lvSum; rw [List.map_append, List.sum_append]; simp [lvTerm]
theorem lvSum_bound (cnt : List Int) (ts : Int) (hts : 1 ≤ ts) (hc : ∀ i : Nat, 0 ≤ cnt.getD i 0 ∧ cnt.getD i 0 ≤ 1000000) : ∀ l : List Int, (∀ i ∈ l, 0 ≤ i ∧ i ≤ 1000000) → 0 ≤ lvSum cnt ts l ∧ lvSum cnt ts l ≤ 1000000000000 * (l.length : Int)
  | [], _ => ⟨Int.le_refl _, Int.le_refl _⟩
  | i :: l, h => by
    have ih := lvSum_bound cnt ts hts hc l (fun j hj => h j (.tail _ hj))
    obtain ⟨h0, h1⟩ := h i (.head _)
    have a1 := fdiv_lo h0 hts
    have a2 := fdiv_hi h0 hts
    obtain ⟨c1, c2⟩ := hc i.toNat
    have b1 : 0 ≤ i.fdiv ts * cnt.getD i.toNat 0 := Int.mul_nonneg a1 c1
    have b2 : i.fdiv ts * cnt.getD i.toNat 0 ≤ 1000000 * 1000000 := Int.mul_le_mul (by omega) c2 c1 (by omega)
    have e : lvSum cnt ts (i :: l) = i.fdiv ts * cnt.getD i.toNat 0 + lvSum cnt ts l := by simp [lvSum, lvTerm]
    rw [e, List.length_cons]
    omega

structure WS.Ok (S : WS) : Prop where
  b0 : 0 ≤ S.b
  b1 : S.b ≤ 1000000
  len : S.cnt.length ≤ 1000000
  n0 : 0 ≤ S.n
  nt0 : 0 ≤ S.nt
  nt1 : S.nt ≤ 1000000
  cs : ∀ i : Nat, 0 ≤ S.cnt.getD i 0 ∧ S.cnt.getD i 0 ≤ 1000000
noncomputable def longest (S : WS) : Int := max ((S.cnt.length : Int) - 1) S.b
noncomputable def level (S : WS) (ts : Int) : Int := S.b + ts * (lvSum S.cnt ts (rangeKs ts ((S.cnt.length : Int) - ts).toNat) + S.nt)
theorem mem_rangeKs {a : Int} {n : Nat} {i : Int} (h : i ∈ rangeKs a n) : a ≤ i ∧ i < a + n := by
  unfold rangeKs at h
  obtain ⟨j, hj, rfl⟩ := List.mem_map.mp h
  have := List.mem_range.mp hj
  omega
theorem lvOk {cnt : List Int} {ts il nt : Int} (hts : 1 ≤ ts) (hl : cnt.length ≤ 1000000) (hc : ∀ i : Nat, 0 ≤ cnt.getD i 0 ∧ cnt.getD i 0 ≤ 1000000) (h0 : 0 ≤ nt) (h1 : nt ≤ 1000000)
    (e : il = lvSum cnt ts (rangeKs ts ((cnt.length : Int) - ts).toNat)) : IntMulOk ts (il + nt) := by
  have h := lvSum_bound cnt ts hts hc (rangeKs ts ((cnt.length : Int) - ts).toNat) (fun i hi => by have := mem_rangeKs hi; omega)
  rw [rangeKs_length, ← e] at h
  exact .of_right (intBits_le_64 (by omega) (by omega))

local macro_rules | `(tactic| mul_fits) => `(tactic| first | assumption | exact fdivOk (by omega) (by omega) (by omega) | exact lvOk (by assumption) (by assumption) (by assumption) (by assumption) (by assumption) (by assumption))

theorem longest_ctr {w mean mg mb} (news : Led) (W : WW) (S : WS) (hm : ∀ e ∈ W.led S, e ∈ news) (hi : IntsAre W.vs S.cnt) (ok : S.Ok) :
    Ctr w mean mg mb 1 (.ref 38) [.ref W.x] news (fun r news' => (∃ t, r = .int (longest S) t) ∧ news' = news) := by
  unfold Ctr
  w_top off
  k_with_none
  k_fill
  intro dp un gd cn cs a ccd cl outer A₀ base h₀ L m s Q E B F X N T hk hd hu hret
  have N1 := newsOf N hm
  clear N
  obtain ⟨x, dx, p, q, raw, h1, h2, h3, h4, h5, k1, k2, k3, k4, k5, u1, u2, u3, u6, vs⟩ := W
  obtain ⟨cnt, b, n, nt⟩ := S
  obtain ⟨ob0, ob1, olen, on0, ont0, ont1, ocs⟩ := ok
  dsimp only [WW.led, WW.dob, WW.pob, List.cons_append, List.nil_append] at *
  have hcl := hi.length
  refine wpAny_call ?_
  k_dflt cell_enter
  have hStop : StopAt "call builtin:len" := ⟨⟩; k_steps; refine Stop.mk ?_; k_here; k_dflt (refine' lenT ?k1 ?k2 ?k3 ?k4 ?_; (case k1 => k_asm); (case k2 => k_mem); (case k3 => assumption); (case k4 => omega); k_whole)
  k_steps
  refine hret _ _ _ _ ⟨⟨_, congrArg (Value.int · _) ?_⟩, rfl⟩ (by k_asm) (newsBack (a := [_, _, _, _]) (by k_asm))
  show _ = max _ _
  dsimp only
  omega

theorem level_ctr {w mean mg mb} (news : Led) (W : WW) (S : WS) (hm : ∀ e ∈ W.led S, e ∈ news) (hi : IntsAre W.vs S.cnt) (ok : S.Ok) (ts : Int) (t : Tok) (hts : 1 ≤ ts) :
    Ctr w mean mg mb 1 (.ref 45) [.ref W.x, .int ts t] news (fun r news' => (∃ t, r = .int (level S ts) t) ∧ news' = news) := by
  unfold Ctr
  w_top off
  k_with_none
  intro dp un gd cn cs a ccd cl outer A₀ base h₀ L m s Q E B F X N T hk hd hu hret
  have N1 := newsOf N hm
  clear N
  obtain ⟨x, dx, p, q, raw, h1, h2, h3, h4, h5, k1, k2, k3, k4, k5, u1, u2, u3, u6, vs⟩ := W
  obtain ⟨cnt, b, n, nt⟩ := S
  obtain ⟨ob0, ob1, olen, on0, ont0, ont1, ocs⟩ := ok
  dsimp only [WW.led, WW.dob, WW.pob, List.cons_append, List.nil_append] at *
  have hcl := hi.length
  refine wpAny_call ?_
  k_dflt cell_enter
  have hStop : StopAt "call builtin:len" := ⟨⟩; k_steps; refine Stop.mk ?_; k_here; k_dflt (refine' lenT ?k1 ?k2 ?k3 ?k4 ?_; (case k1 => k_asm); (case k2 => k_mem); (case k3 => assumption); (case k4 => omega); k_whole)
  k_steps
  rename Fr _ _ _ _ => lF
  rename News _ _ _ _ => lN
  rename IsRange _ _ _ _ _ _ _ _ => lR
  with_unfolding_all refine rangeI (Str.ofString "il") (fun pre il => il = lvSum cnt ts pre) rfl lR lF lN rfl rfl ?turn ?done
  case turn =>
    clear lF lN lR
    intro il tl pre i ti h tok own hi1 hi2 hoff hp F1 N1
    try simp only [List.nil_append, List.cons_append, List.append_nil] at N1
    have i0 : 0 ≤ i := by omega
    (try k_fold)
    have hStop : StopAt "subscriptTail Name Name ref int" := ⟨⟩; k_steps; refine Stop.mk ?_; k_here; (with_unfolding_all refine' itemT ?k1 ?k2 ?k3 ?k4 ?k5 ?k6 ?_ ?k8; (case k1 => k_asm); (case k2 => k_mem); (case k3 => assumption); (case k4 => omega); (case k5 => omega); (case k6 => omega); (case k8 => with_unfolding_all rfl); k_whole); intro _
    k_steps
    rename Fr _ _ _ _ => eF
    rename News _ _ _ _ => eN
    with_unfolding_all refine' endI eF rfl eN ?hp ?hn ?ho ?ha ?hr
    case hp => rw [lvSum_snoc, ← hp]
    case hn => kst_anyIn
    case ho => kst_anyIn
    case ha => exact hoff
    case hr => intro z h1 h2; simp [h1, h2]
  case done =>
    clear lF lN lR
    intro il tl u h tok hp F1 N1
    try dsimp only
    (try k_fold)
    k_steps
    refine hret _ _ _ _ ⟨⟨_, congrArg (Value.int · _) ?_⟩, rfl⟩ (by k_asm) (newsBack (a := [_, _, _, _]) (by k_asm))
    rw [hp]
    rfl

theorem ctr_use {w : World} {mean : ExcName → Option Value} {mg mb : Str → Option Value} {nd : Nat} {f : Value} {vs : List Value} {news : Led} {Out : Value → Led → Prop}
    {dp un : Nat} {gd : Option (List Code)} {cn : Str} {cs : Scope} {a : Addr} {ccd : Value} {cl : List (Str × Addr)} {outer : List Env} {A₀ : Around} {base h₀ : Heap} {L : Addr} {m : Str → Option Value} {s : Shared} {Q E : Value → Shared → Prop}
    (C : Ctr w mean mg mb nd f vs news Out)
    (B : Below A₀ base outer h₀) (F : Fr h₀ L s.heap m) (X : (Mine.hd.heap_39 w.params).In h₀) (N : News h₀ L s.heap news) (T : Top VW LS mean mg mb h₀) (hk : cs.kind = .function) (hd : dp + nd < recursionLimit) (hu : un + 8 * nd < cLine)
    (ret : ∀ r news' h' tk', Out r news' → Fr h₀ L h' m → News h₀ L h' news' → Q r { s with heap := h', toks := tk' }) :
    wpAny (model PySem.Challenge.rw_pe0294_02.row.prog w) (ktrTop dp un gd cn cs L a ccd cl outer) (call f vs) Q E s :=
  C _ _ _ _ _ _ _ _ _ _ _ _ _ _ _ _ _ B F X N T hk hd hu ret


/-! loops that collect data -/
structure DS where
  vs : List Value
  ds : List Dat
  ep : Nat
  tups : Led
noncomputable abbrev dsLed (l : Addr) (rest : Led) (c : DS) : Led := (l, W.listOf c.vs.toArray c.ep) :: (rest ++ c.tups)
noncomputable abbrev dsFacts (l : Addr) (c : DS) : Prop := DatAll c.tups c.vs c.ds ∧ OwnOff c.tups [l]
noncomputable abbrev dsS (l : Addr) (rest : Led) (x : Str) (m₀ : Str → Option Value) (P : List Int → List Dat → Prop) (pre : List Int) : (Str → Option Value) → Led → Prop :=
  KstS (σ := DS) (dsLed l rest) (fun _ => []) (dsFacts l) x [] m₀ (fun pre c => P pre c.ds) pre
section
variable {prog : Program} {w : World} {A : Around} {E : Value → Shared → Prop} {s : Shared} {env : Env} {h₀ : Heap} {x : PySem.Str} {body : List Stmt} {Q : Flow → Shared → Prop}
theorem rangeD {r : Addr} {a₀ b₀ : Int} {t₀ u₀ v₀ : Tok} {m₀ : PySem.Str → Option Value} {l : Addr} {rest : Led} (P : List Int → List Dat → Prop)
    (hh : A.handled = none) (hr : IsRange s.heap r a₀ b₀ 1 t₀ u₀ v₀) (F : Fr h₀ env.locals s.heap m₀) (N : News h₀ env.locals s.heap ((l, W.listOf #[] 0) :: rest)) (hp : P [] [])
    (turn : ∀ (vs : List Value) (ds : List Dat) (ep : Nat) (tups : Led) (pre : List Int) (k : Int) t h tk own, k = a₀ + (pre.length : Int) → k < b₀ → OwnOff own (l :: (rest ++ tups).map (·.1)) → DatAll tups vs ds → OwnOff tups [l] → P pre ds →
      Fr h₀ env.locals h (fun z => if z = x then some (.int k t) else m₀ z) → News h₀ env.locals h ((l, W.listOf vs.toArray ep) :: (rest ++ (tups ++ own))) →
      wpAny (model prog w) A (execs body env) (InvPostG h₀ env.locals (dsS l rest x m₀ P (pre ++ [k])) own { s with heap := h, toks := tk } Q) E { s with heap := h, toks := tk })
    (done : ∀ (vs : List Value) (ds : List Dat) (ep : Nat) (tups : Led) (u : PySem.Str → Option Value) h tk, DatAll tups vs ds → OwnOff tups [l] → P (rangeKs a₀ (b₀ - a₀).toNat) ds → Fr h₀ env.locals h (fun z => if z = x then u z else m₀ z) → News h₀ env.locals h ((l, W.listOf vs.toArray ep) :: (rest ++ tups)) → Q .next { s with heap := h, toks := tk }) :
    wpAny (model prog w) A (pyIter (.ref r)) (fun it s₂ => LoopAtV prog w A h₀ env x body Q E it s₂) E s := by
  refine rangeG (σ := DS) (dsLed l rest) (fun _ => []) (dsFacts l) [] (fun pre c => P pre c.ds) ⟨[], [], 0, []⟩ hh hr F (by simpa [dsLed] using N) ⟨.nil, fun _ h => (nomatch h)⟩ (fun _ h => (nomatch h)) hp ?_ ?_
  · rintro ⟨vs, ds, ep, tups⟩ pre k t u h tk own hk hb hoff ⟨hd, ho⟩ hp' F' N'
    refine turn vs ds ep tups pre k t h tk own hk hb (by simpa [dsLed] using hoff) hd ho hp' F' ?_
    simpa [dsLed, List.append_assoc] using N'
  · rintro ⟨vs, ds, ep, tups⟩ u h tk ⟨hd, ho⟩ hp' F' N'
    exact done vs ds ep tups u h tk hd ho hp' F' N'
theorem endD {l : Addr} {rest : Led} {m₀ : Str → Option Value} {P : List Int → List Dat → Prop} {pre : List Int} {L : Addr} {m' : Str → Option Value} {own news' : Led} {s₁ : Shared} {h' : Heap} {tk : Nat} {vs : List Value} {ds : List Dat} {ep : Nat} (tups : Led)
    (F : Fr h₀ L h' m') (N : News h₀ L h' news') (hm : (l, W.listOf vs.toArray ep) ∈ news') (hd : DatAll tups vs ds) (hT : OwnOff tups [l]) (hp : P pre ds) (hn : ∀ p ∈ rest, p ∈ news') (ht : ∀ p ∈ tups, p ∈ news') (ho : ∀ p ∈ own, p ∈ news') (ha : OwnOff own (l :: (rest ++ tups).map (·.1))) (hr : ∀ z, z ≠ x → m' z = m₀ z) :
    InvEndG h₀ L (dsS l rest x m₀ P pre) own s₁ { s₁ with heap := h', toks := tk } :=
  endG (σ := DS) (Led := dsLed l rest) (ps := fun _ => []) (Facts := dsFacts l) ⟨vs, ds, ep, tups⟩ F N (List.forall_mem_cons.mpr ⟨hm, List.forall_mem_append.mpr ⟨hn, ht⟩⟩) ho ha ⟨hd, hT⟩ (fun _ h => (nomatch h)) (fun z h1 _ _ => hr z h1) hp
end


noncomputable def rowD (r : Int × Int × Int) : Dat := .tuple [.int r.1, .int r.2.1, .int r.2.2]
noncomputable def topOf (S1 S2 : WS) : Int := max (longest S1) (longest S2) + 1
noncomputable def rowAt (S1 S2 : WS) (ts : Int) : Int × Int × Int := (ts, level S1 ts, level S2 ts)
noncomputable def neRows (S1 S2 : WS) (l : List Int) : List (Int × Int × Int) := (l.filter fun ts => level S1 ts != level S2 ts).map (rowAt S1 S2)
noncomputable def geRows (S1 S2 : WS) (l : List Int) : List (Int × Int × Int) := (l.filter fun ts => decide (level S1 ts ≥ level S2 ts)).map (rowAt S1 S2)
theorem longest_lo {S : WS} (ok : S.Ok) : 0 ≤ longest S := by have := ok.b0; unfold longest; omega
theorem longest_hi {S : WS} (ok : S.Ok) : longest S ≤ 1000000 := by have := ok.b1; have := ok.len; unfold longest; omega

theorem neRows_len (S1 S2 : WS) (l : List Int) : (neRows S1 S2 l).length ≤ l.length := by
  unfold neRows; rw [List.length_map]; exact List.length_filter_le _ _
theorem geRows_len (S1 S2 : WS) (l : List Int) : (geRows S1 S2 l).length ≤ l.length := by
  unfold geRows; rw [List.length_map]; exact List.length_filter_le _ _

theorem neRows_yes {S1 S2 : WS} {pre : List Int} {k : Int} (h : ¬ level S1 k = level S2 k) : (neRows S1 S2 (pre ++ [k])).map rowD = (neRows S1 S2 pre).map rowD ++ [rowD (k, level S1 k, level S2 k)] := by
  unfold neRows
  rw [List.filter_append, List.map_append, List.map_append]
  simp [h, rowAt]
theorem neRows_no {S1 S2 : WS} {pre : List Int} {k : Int} (h : level S1 k = level S2 k) : (neRows S1 S2 (pre ++ [k])).map rowD = (neRows S1 S2 pre).map rowD := by
  unfold neRows
  rw [List.filter_append, List.map_append, List.map_append]
  simp [h]
theorem geRows_yes {S1 S2 : WS} {pre : List Int} {k : Int} (h : level S2 k ≤ level S1 k) : (geRows S1 S2 (pre ++ [k])).map rowD = (geRows S1 S2 pre).map rowD ++ [rowD (k, level S1 k, level S2 k)] := by
  unfold geRows
  rw [List.filter_append, List.map_append, List.map_append]
  simp [h, rowAt]
theorem geRows_no {S1 S2 : WS} {pre : List Int} {k : Int} (h : ¬ level S2 k ≤ level S1 k) : (geRows S1 S2 (pre ++ [k])).map rowD = (geRows S1 S2 pre).map rowD := by
  unfold geRows
  rw [List.filter_append, List.map_append, List.map_append]
  simp [h]
theorem datRow {tups : Led} {vs : List Value} {ds : List Dat} {D : Addr} {k a b : Int} {ti ta tb : Tok} (hd : DatAll tups vs ds) :
    DatAll ((D, ({ cls := .type "tuple", data := .seq #[.int k ti, .int a ta, .int b tb] } : Obj)) :: tups) (vs ++ [.ref D]) (ds ++ [rowD (k, a, b)]) :=
  (hd.mono fun p hp => .tail _ hp).append (.one (.tuple (vs := [.int k ti, .int a ta, .int b tb]) (.head _) (.cons (.int _ _) (.cons (.int _ _) (.cons (.int _ _) .nil)))))
theorem offRow {own rest tups : Led} {l D : Addr} {o : Obj} (h : OwnOff own (l :: (rest ++ tups).map (·.1))) (hD : ∀ p ∈ own, p.1 < D) : OwnOff own (l :: (rest ++ (D, o) :: tups).map (·.1)) := by
  intro p hp b hb
  rcases List.mem_cons.mp hb with rfl | hb
  · exact h p hp _ (.head _)
  · obtain ⟨q, hq, rfl⟩ := List.mem_map.mp hb
    rcases List.mem_append.mp hq with hq | hq
    · exact h p hp _ (.tail _ (List.mem_map.mpr ⟨q, List.mem_append.mpr (.inl hq), rfl⟩))
    · rcases List.mem_cons.mp hq with rfl | hq
      · exact Nat.ne_of_lt (hD p hp)
      · exact h p hp _ (.tail _ (List.mem_map.mpr ⟨q, List.mem_append.mpr (.inr hq), rfl⟩))
theorem offTup {tups : Led} {l D : Addr} {o : Obj} (h : OwnOff tups [l]) (hD : l < D) : OwnOff ((D, o) :: tups) [l] := by
  intro p hp b hb
  rcases List.mem_cons.mp hp with rfl | hp
  · rw [List.mem_singleton.mp hb]; exact (Nat.ne_of_lt hD).symm
  · exact h p hp b hb
theorem endRow {h₀ : Heap} {x : PySem.Str} {l D : Addr} {rest : Led} {m₀ : Str → Option Value} {P : List Int → List Dat → Prop} {pre : List Int} {L : Addr} {m' : Str → Option Value} {own news' tups : Led} {s₁ : Shared} {h' : Heap} {tk : Nat} {vs : List Value} {ds : List Dat} {ep : Nat} {k a b : Int} {ti ta tb : Tok}
    (hd : DatAll tups vs ds) (hT : OwnOff tups [l]) (ha : OwnOff own (l :: (rest ++ tups).map (·.1))) (F : Fr h₀ L h' m') (N : News h₀ L h' news') (hm : (l, W.listOf (vs ++ [Value.ref D]).toArray ep) ∈ news') (hD : (D, ({ cls := .type "tuple", data := .seq #[.int k ti, .int a ta, .int b tb] } : Obj)) ∈ news') (hlt : l < D) (hown : ∀ p ∈ own, p.1 < D)
    (hp : P pre (ds ++ [rowD (k, a, b)])) (hn : ∀ p ∈ rest, p ∈ news') (ht : ∀ p ∈ tups, p ∈ news') (ho : ∀ p ∈ own, p ∈ news') (hr : ∀ z, z ≠ x → m' z = m₀ z) :
    InvEndG h₀ L (dsS l rest x m₀ P pre) own s₁ { s₁ with heap := h', toks := tk } :=
  endD ((D, _) :: tups) F N hm (datRow hd) (offTup hT hlt) hp hn (List.forall_mem_cons.mpr ⟨hD, ht⟩) ho (offRow ha hown) hr
theorem ownLt {X Y own : Led} {D : Addr} (h : AllLt D (X ++ (Y ++ own))) : ∀ p ∈ own, p.1 < D := fun p hp => kst_ltOf h p (List.mem_append.mpr (.inr (List.mem_append.mpr (.inr hp))))

theorem new_ctr {w mean mg mb} (news : Led) (W1 W2 : WW) (S1 S2 : WS) (hm1 : ∀ e ∈ W1.led S1, e ∈ news) (hm2 : ∀ e ∈ W2.led S2, e ∈ news) (hi1 : IntsAre W1.vs S1.cnt) (hi2 : IntsAre W2.vs S2.cnt) (ok1 : S1.Ok) (ok2 : S2.Ok) :
    Ctr w mean mg mb 3 (.ref 59) [.ref W1.x, .ref W2.x] news (fun r news' => ∃ l vs ep tups, r = .ref l ∧ DatAll tups vs ((neRows S1 S2 (rangeKs 1 (topOf S1 S2).toNat)).map rowD) ∧ news' = (l, W.listOf vs.toArray ep) :: (news ++ tups)) := by
  unfold Ctr
  w_top off
  k_with_none
  k_fill
  intro dp un gd cn cs a ccd cl outer A₀ base h₀ L m s Q E B F X N T hk hd hu hret
  have N1 := newsOf (newsOf N hm2) (a := W1.led S1) (fun p hp => List.mem_append.mpr (.inr (hm1 p hp)))
  clear N
  dsimp only [WW.led, List.cons_append, List.nil_append] at N1
  have hl1 := longest_lo ok1
  have hl2 := longest_lo ok2
  have hl3 := longest_hi ok1
  have hl4 := longest_hi ok2
  refine wpAny_call ?_
  k_dflt cell_enter
  iterate 2 (have hStop : StopAt "call ref" := ⟨⟩; k_steps; refine Stop.mk ?_; k_here; k_dflt (refine' ctr_use (longest_ctr _ _ _ ?m ?i ?o) ?k1 ?k2 ?k3 ?k4 ?k5 ?kK ?kd ?ku ?_; (case k1 => k_asm); (case k2 => k_asm); (case k3 => k_asm); (case k4 => k_asm); (case k5 => k_asm); (case kK => first | exact rfl | assumption); (case kd => ktr_room); (case ku => ktr_units); (case i => assumption); (case o => assumption); (case m => (dsimp only [WW.led]; kst_allIn)); k_whole); rintro r9 n9 h' tk' ⟨⟨t', e9⟩, e8⟩ F' N'; subst e9; subst e8; (try dsimp only); (try k_sweep))
  have hStop : StopAt "pyIter ref" := ⟨⟩
  k_steps
  refine Stop.mk ?_
  rename Fr _ _ _ _ => lF
  rename News _ _ _ _ => lN
  rename IsRange _ _ _ _ _ _ _ _ => lR
  have kMk := kstMark
  with_unfolding_all refine rangeD (fun pre ds => ds = (neRows S1 S2 pre).map rowD) rfl lR lF lN rfl ?turn ?done
  case turn =>
    clear lF lN lR
    intro vs ds ep tups pre k ti h tok own hk1 hk2 hoff hd hT hp F1 N1
    try simp only [List.nil_append, List.cons_append, List.append_nil] at N1
    have hvl : vs.length ≤ pre.length := by
      rw [hd.length, hp, List.length_map]; exact neRows_len S1 S2 pre
    (try k_fold)
    iterate 2 (have hStop : StopAt "call ref" := ⟨⟩; k_steps; refine Stop.mk ?_; k_here; k_dflt (refine' ctr_use (level_ctr _ _ _ ?m ?i ?o _ _ ?z) ?k1 ?k2 ?k3 ?k4 ?k5 ?kK ?kd ?ku ?_; (case k1 => k_asm); (case k2 => k_asm); (case k3 => k_asm); (case k4 => k_asm); (case k5 => k_asm); (case kK => first | exact rfl | assumption); (case kd => ktr_room); (case ku => ktr_units); (case i => assumption); (case o => assumption); (case z => omega); (case m => (dsimp only [WW.led]; kst_allIn)); k_whole); rintro r9 n9 h' tk' ⟨⟨t', e9⟩, e8⟩ F' N'; subst e9; subst e8; (try dsimp only); (try k_sweep))
    have hStop : StopAt "call ref" := ⟨⟩
    k_steps
    case _ =>
      refine Stop.mk ?_
      k_here; k_dflt (refine' ctr_use (level_ctr _ _ _ ?m ?i ?o _ _ ?z) ?k1 ?k2 ?k3 ?k4 ?k5 ?kK ?kd ?ku ?_; (case k1 => k_asm); (case k2 => k_asm); (case k3 => k_asm); (case k4 => k_asm); (case k5 => k_asm); (case kK => first | exact rfl | assumption); (case kd => ktr_room); (case ku => ktr_units); (case i => assumption); (case o => assumption); (case z => omega); (case m => (dsimp only [WW.led]; kst_allIn)); k_whole); rintro r9 n9 h' tk' ⟨⟨t', e9⟩, e8⟩ F' N'; subst e9; subst e8; (try dsimp only); (try k_sweep)
      iterate 1 (have hStop : StopAt "call ref" := ⟨⟩; k_steps; refine Stop.mk ?_; k_here; k_dflt (refine' ctr_use (level_ctr _ _ _ ?m ?i ?o _ _ ?z) ?k1 ?k2 ?k3 ?k4 ?k5 ?kK ?kd ?ku ?_; (case k1 => k_asm); (case k2 => k_asm); (case k3 => k_asm); (case k4 => k_asm); (case k5 => k_asm); (case kK => first | exact rfl | assumption); (case kd => ktr_room); (case ku => ktr_units); (case i => assumption); (case o => assumption); (case z => omega); (case m => (dsimp only [WW.led]; kst_allIn)); k_whole); rintro r9 n9 h' tk' ⟨⟨t', e9⟩, e8⟩ F' N'; subst e9; subst e8; (try dsimp only); (try k_sweep))
      k_steps
      rename Fr _ _ _ _ => eF
      rename News _ _ _ _ => eN
      rename (_ < _ ∧ _ < _ ∧ _ < _ ∧ _ < _ ∧ _ < _ ∧ _ < _ ∧ _ < _ ∧ _ < _ ∧ _ < _ ∧ AllLt _ _) => eLt
      simp only [List.push_toArray] at eN
      with_unfolding_all refine' endRow hd hT hoff eF eN ?hm ?hD ?hlt ?hown ?hp ?hn ?ht ?ho ?hr
      case hm => k_mem
      case hD => k_mem
      case hlt => exact eLt.1
      case hown => exact ownLt eLt.2.2.2.2.2.2.2.2.2
      case hp => rw [hp]; exact (neRows_yes (by assumption)).symm
      case hn => kst_anyIn
      case ht => kst_anyIn
      case ho => kst_anyIn
      case hr => intro z h1; simp [h1]
    case _ =>
      rename Fr _ _ _ _ => eF
      rename News _ _ _ _ => eN
      with_unfolding_all refine' endD tups eF eN ?hm ?hd ?hT ?hp ?hn ?ht ?ho ?ha ?hr
      case hm => k_mem
      case hd => exact hd
      case hT => exact hT
      case hp => rw [hp]; exact (neRows_no (by assumption)).symm
      case hn => kst_anyIn
      case ht => kst_anyIn
      case ho => kst_anyIn
      case ha => exact hoff
      case hr => intro z h1; simp [h1]
  case done =>
    clear lF lN lR
    intro vs ds ep tups u h tok hd hT hp F1 N1
    try simp only [List.nil_append, List.cons_append, List.append_nil] at N1
    try dsimp only
    (try k_fold)
    k_steps
    rename Fr _ _ _ _ => eF
    rename News _ _ _ _ => eN
    have e9 : topOf S1 S2 = (if longest S2 > longest S1 then longest S2 else longest S1) + 1 + 1 - 1 := by unfold topOf; omega
    rw [← e9] at hp
    refine hret _ _ _ _ ⟨_, vs, ep, tups, rfl, by rw [← hp]; exact hd, rfl⟩ eF (newsSub eN ?_)
    kst_anyIn

theorem nlw_ctr {w mean mg mb} (news : Led) (W1 W2 : WW) (S1 S2 : WS) (hm1 : ∀ e ∈ W1.led S1, e ∈ news) (hm2 : ∀ e ∈ W2.led S2, e ∈ news) (hi1 : IntsAre W1.vs S1.cnt) (hi2 : IntsAre W2.vs S2.cnt) (ok1 : S1.Ok) (ok2 : S2.Ok) :
    Ctr w mean mg mb 3 (.ref 73) [.ref W1.x, .ref W2.x] news (fun r news' => ∃ l vs ep tups, r = .ref l ∧ DatAll tups vs ((geRows S1 S2 (rangeKs 1 (topOf S1 S2).toNat)).map rowD) ∧ news' = (l, W.listOf vs.toArray ep) :: (news ++ tups)) := by
  unfold Ctr
  w_top off
  k_with_none
  k_fill
  intro dp un gd cn cs a ccd cl outer A₀ base h₀ L m s Q E B F X N T hk hd hu hret
  have N1 := newsOf (newsOf N hm2) (a := W1.led S1) (fun p hp => List.mem_append.mpr (.inr (hm1 p hp)))
  clear N
  dsimp only [WW.led, List.cons_append, List.nil_append] at N1
  have hl1 := longest_lo ok1
  have hl2 := longest_lo ok2
  have hl3 := longest_hi ok1
  have hl4 := longest_hi ok2
  refine wpAny_call ?_
  k_dflt cell_enter
  iterate 2 (have hStop : StopAt "call ref" := ⟨⟩; k_steps; refine Stop.mk ?_; k_here; k_dflt (refine' ctr_use (longest_ctr _ _ _ ?m ?i ?o) ?k1 ?k2 ?k3 ?k4 ?k5 ?kK ?kd ?ku ?_; (case k1 => k_asm); (case k2 => k_asm); (case k3 => k_asm); (case k4 => k_asm); (case k5 => k_asm); (case kK => first | exact rfl | assumption); (case kd => ktr_room); (case ku => ktr_units); (case i => assumption); (case o => assumption); (case m => (dsimp only [WW.led]; kst_allIn)); k_whole); rintro r9 n9 h' tk' ⟨⟨t', e9⟩, e8⟩ F' N'; subst e9; subst e8; (try dsimp only); (try k_sweep))
  have hStop : StopAt "pyIter ref" := ⟨⟩
  k_steps
  refine Stop.mk ?_
  rename Fr _ _ _ _ => lF
  rename News _ _ _ _ => lN
  rename IsRange _ _ _ _ _ _ _ _ => lR
  have kMk := kstMark
  with_unfolding_all refine rangeD (fun pre ds => ds = (geRows S1 S2 pre).map rowD) rfl lR lF lN rfl ?turn ?done
  case turn =>
    clear lF lN lR
    intro vs ds ep tups pre k ti h tok own hk1 hk2 hoff hd hT hp F1 N1
    try simp only [List.nil_append, List.cons_append, List.append_nil] at N1
    have hvl : vs.length ≤ pre.length := by
      rw [hd.length, hp, List.length_map]; exact geRows_len S1 S2 pre
    (try k_fold)
    iterate 2 (have hStop : StopAt "call ref" := ⟨⟩; k_steps; refine Stop.mk ?_; k_here; k_dflt (refine' ctr_use (level_ctr _ _ _ ?m ?i ?o _ _ ?z) ?k1 ?k2 ?k3 ?k4 ?k5 ?kK ?kd ?ku ?_; (case k1 => k_asm); (case k2 => k_asm); (case k3 => k_asm); (case k4 => k_asm); (case k5 => k_asm); (case kK => first | exact rfl | assumption); (case kd => ktr_room); (case ku => ktr_units); (case i => assumption); (case o => assumption); (case z => omega); (case m => (dsimp only [WW.led]; kst_allIn)); k_whole); rintro r9 n9 h' tk' ⟨⟨t', e9⟩, e8⟩ F' N'; subst e9; subst e8; (try dsimp only); (try k_sweep))
    have hStop : StopAt "call ref" := ⟨⟩
    k_steps
    case _ =>
      refine Stop.mk ?_
      k_here; k_dflt (refine' ctr_use (level_ctr _ _ _ ?m ?i ?o _ _ ?z) ?k1 ?k2 ?k3 ?k4 ?k5 ?kK ?kd ?ku ?_; (case k1 => k_asm); (case k2 => k_asm); (case k3 => k_asm); (case k4 => k_asm); (case k5 => k_asm); (case kK => first | exact rfl | assumption); (case kd => ktr_room); (case ku => ktr_units); (case i => assumption); (case o => assumption); (case z => omega); (case m => (dsimp only [WW.led]; kst_allIn)); k_whole); rintro r9 n9 h' tk' ⟨⟨t', e9⟩, e8⟩ F' N'; subst e9; subst e8; (try dsimp only); (try k_sweep)
      iterate 1 (have hStop : StopAt "call ref" := ⟨⟩; k_steps; refine Stop.mk ?_; k_here; k_dflt (refine' ctr_use (level_ctr _ _ _ ?m ?i ?o _ _ ?z) ?k1 ?k2 ?k3 ?k4 ?k5 ?kK ?kd ?ku ?_; (case k1 => k_asm); (case k2 => k_asm); (case k3 => k_asm); (case k4 => k_asm); (case k5 => k_asm); (case kK => first | exact rfl | assumption); (case kd => ktr_room); (case ku => ktr_units); (case i => assumption); (case o => assumption); (case z => omega); (case m => (dsimp only [WW.led]; kst_allIn)); k_whole); rintro r9 n9 h' tk' ⟨⟨t', e9⟩, e8⟩ F' N'; subst e9; subst e8; (try dsimp only); (try k_sweep))
      k_steps
      rename Fr _ _ _ _ => eF
      rename News _ _ _ _ => eN
      rename (_ < _ ∧ _ < _ ∧ _ < _ ∧ _ < _ ∧ _ < _ ∧ _ < _ ∧ _ < _ ∧ _ < _ ∧ _ < _ ∧ AllLt _ _) => eLt
      simp only [List.push_toArray] at eN
      with_unfolding_all refine' endRow hd hT hoff eF eN ?hm ?hD ?hlt ?hown ?hp ?hn ?ht ?ho ?hr
      case hm => k_mem
      case hD => k_mem
      case hlt => exact eLt.1
      case hown => exact ownLt eLt.2.2.2.2.2.2.2.2.2
      case hp => rw [hp]; exact (geRows_yes (by assumption)).symm
      case hn => kst_anyIn
      case ht => kst_anyIn
      case ho => kst_anyIn
      case hr => intro z h1; simp [h1]
    case _ =>
      rename Fr _ _ _ _ => eF
      rename News _ _ _ _ => eN
      with_unfolding_all refine' endD tups eF eN ?hm ?hd ?hT ?hp ?hn ?ht ?ho ?ha ?hr
      case hm => k_mem
      case hd => exact hd
      case hT => exact hT
      case hp => rw [hp]; exact (geRows_no (by assumption)).symm
      case hn => kst_anyIn
      case ht => kst_anyIn
      case ho => kst_anyIn
      case ha => exact hoff
      case hr => intro z h1; simp [h1]
  case done =>
    clear lF lN lR
    intro vs ds ep tups u h tok hd hT hp F1 N1
    try simp only [List.nil_append, List.cons_append, List.append_nil] at N1
    try dsimp only
    (try k_fold)
    k_steps
    rename Fr _ _ _ _ => eF
    rename News _ _ _ _ => eN
    have e9 : topOf S1 S2 = (if longest S2 > longest S1 then longest S2 else longest S1) + 1 + 1 - 1 := by unfold topOf; omega
    rw [← e9] at hp
    refine hret _ _ _ _ ⟨_, vs, ep, tups, rfl, by rw [← hp]; exact hd, rfl⟩ eF (newsSub eN ?_)
    kst_anyIn

theorem mem_snoc {pre : List Int} {k : Int} {P : Int → Prop} (h : ∀ i ∈ pre, P i) (hk : P k) : ∀ i ∈ pre ++ [k], P i := by
  intro i hi
  rcases List.mem_append.mp hi with hi | hi
  · exact h i hi
  · rw [List.mem_singleton.mp hi]; exact hk

section
variable {prog : Program} {w : World} {A : Around} {E : Value → Shared → Prop} {s : Shared} {env : Env} {h₀ : Heap} {x : PySem.Str} {body : List Stmt} {Q : Flow → Shared → Prop}
noncomputable abbrev nilS (news : Led) (x : Str) (m₀ : Str → Option Value) (P : List Int → Prop) (pre : List Int) : (Str → Option Value) → Led → Prop :=
  KstS (σ := Unit) (fun _ => news) (fun _ => []) (fun _ => True) x [] m₀ (fun pre _ => P pre) pre
theorem rangeN {r : Addr} {a₀ b₀ : Int} {t₀ u₀ v₀ : Tok} {m₀ : PySem.Str → Option Value} {news : Led} (P : List Int → Prop)
    (hh : A.handled = none) (hr : IsRange s.heap r a₀ b₀ 1 t₀ u₀ v₀) (F : Fr h₀ env.locals s.heap m₀) (N : News h₀ env.locals s.heap news) (hp : P [])
    (turn : ∀ (pre : List Int) (k : Int) t h tk own, k = a₀ + (pre.length : Int) → k < b₀ → OwnOff own (news.map (·.1)) → P pre →
      Fr h₀ env.locals h (fun z => if z = x then some (.int k t) else m₀ z) → News h₀ env.locals h (news ++ own) →
      wpAny (model prog w) A (execs body env) (InvPostG h₀ env.locals (nilS news x m₀ P (pre ++ [k])) own { s with heap := h, toks := tk } Q) E { s with heap := h, toks := tk })
    (done : ∀ (u : PySem.Str → Option Value) h tk, P (rangeKs a₀ (b₀ - a₀).toNat) → Fr h₀ env.locals h (fun z => if z = x then u z else m₀ z) → News h₀ env.locals h news → Q .next { s with heap := h, toks := tk }) :
    wpAny (model prog w) A (pyIter (.ref r)) (fun it s₂ => LoopAtV prog w A h₀ env x body Q E it s₂) E s := by
  refine rangeG (σ := Unit) (fun _ => news) (fun _ => []) (fun _ => True) [] (fun pre _ => P pre) () hh hr F N trivial (fun _ h => (nomatch h)) hp ?_ ?_
  · rintro _ pre k t u h tk own hk hb hoff _ hp' F' N'
    exact turn pre k t h tk own hk hb hoff hp' F' N'
  · rintro _ u h tk _ hp' F' N'
    exact done u h tk hp' F' N'
theorem endN {news : Led} {m₀ : Str → Option Value} {P : List Int → Prop} {pre : List Int} {L : Addr} {m' : Str → Option Value} {own news' : Led} {s₁ : Shared} {h' : Heap} {tk : Nat}
    (F : Fr h₀ L h' m') (N : News h₀ L h' news') (hp : P pre) (hn : ∀ p ∈ news, p ∈ news') (ho : ∀ p ∈ own, p ∈ news') (ha : OwnOff own (news.map (·.1))) (hr : ∀ z, z ≠ x → m' z = m₀ z) :
    InvEndG h₀ L (nilS news x m₀ P pre) own s₁ { s₁ with heap := h', toks := tk } :=
  endG (σ := Unit) (Led := fun _ => news) (ps := fun _ => []) (Facts := fun _ => True) () F N hn ho ha trivial (fun _ h => (nomatch h)) (fun z h1 _ _ => hr z h1) hp
end

noncomputable def LessP (S1 S2 : WS) : Prop := S1.n < S2.n ∧ (if S1.cnt.length ≤ 1 ∧ S2.cnt.length ≤ 1 then S1.nt ≤ S2.nt else ∀ ts ∈ rangeKs 2 (topOf S1 S2 - 1).toNat, level S1 ts < level S2 ts)

theorem mem_rangeKs_of {a : Int} {n : Nat} {i : Int} (h0 : a ≤ i) (h1 : i < a + n) : i ∈ rangeKs a n := by
  unfold rangeKs
  exact List.mem_map.mpr ⟨(i - a).toNat, List.mem_range.mpr (by omega), by omega⟩

theorem less_ctr {w mean mg mb} (news : Led) (W1 W2 : WW) (S1 S2 : WS) (hm1 : ∀ e ∈ W1.led S1, e ∈ news) (hm2 : ∀ e ∈ W2.led S2, e ∈ news) (hi1 : IntsAre W1.vs S1.cnt) (hi2 : IntsAre W2.vs S2.cnt) (ok1 : S1.Ok) (ok2 : S2.Ok) :
    Ctr w mean mg mb 3 (.ref 66) [.ref W1.x, .ref W2.x] news (fun r news' => (∃ b : Bool, r = .bool b ∧ (b = true ↔ LessP S1 S2)) ∧ news' = news) := by
  unfold Ctr
  w_top off
  k_with_none
  k_fill
  intro dp un gd cn cs a ccd cl outer A₀ base h₀ L m s Q E B F X N T hk hd hu hret
  have N1 := newsOf (newsOf N hm2) (a := W1.led S1) (fun p hp => List.mem_append.mpr (.inr (hm1 p hp)))
  clear N
  dsimp only [WW.led, List.cons_append, List.nil_append] at N1
  have hl1 := longest_lo ok1
  have hl2 := longest_lo ok2
  have hl3 := longest_hi ok1
  have hl4 := longest_hi ok2
  refine wpAny_call ?_
  k_dflt cell_enter
  have hStop : StopAt "call ref" := ⟨⟩
  k_steps
  case _ =>
    rename Fr _ _ _ _ => eF
    rename News _ _ _ _ => eN
    rename S2.n ≤ S1.n => e1
    refine hret _ _ _ _ ⟨⟨false, rfl, ?_⟩, rfl⟩ eF (newsSub eN (by kst_anyIn))
    exact ⟨fun h => (nomatch h), fun h => absurd h.1 (by omega)⟩
  case _ =>
    rename Fr _ _ _ _ => eF
    rename News _ _ _ _ => eN
    rename ¬ S2.n ≤ S1.n => e1
    rename (S1.cnt.length : Int) ≤ 1 => e2
    rename (S2.cnt.length : Int) ≤ 1 => e3
    refine hret _ _ _ _ ⟨⟨_, rfl, ?_⟩, rfl⟩ eF (newsSub eN (by kst_anyIn))
    unfold LessP
    rw [if_pos ⟨by omega, by omega⟩, decide_eq_true_eq]
    exact ⟨fun h => ⟨by omega, h⟩, fun h => h.2⟩
  all_goals (
    rename ¬ S2.n ≤ S1.n => e1
    have e2 : ¬ (S1.cnt.length ≤ 1 ∧ S2.cnt.length ≤ 1) := by omega
    refine Stop.mk ?_
    k_here; k_dflt (refine' ctr_use (longest_ctr _ _ _ ?m ?i ?o) ?k1 ?k2 ?k3 ?k4 ?k5 ?kK ?kd ?ku ?_; (case k1 => k_asm); (case k2 => k_asm); (case k3 => k_asm); (case k4 => k_asm); (case k5 => k_asm); (case kK => first | exact rfl | assumption); (case kd => ktr_room); (case ku => ktr_units); (case i => assumption); (case o => assumption); (case m => (dsimp only [WW.led]; kst_allIn)); k_whole); rintro r9 n9 h' tk' ⟨⟨t', e9⟩, e8⟩ F' N'; subst e9; subst e8; (try dsimp only); (try k_sweep)
    iterate 1 (have hStop : StopAt "call ref" := ⟨⟩; k_steps; refine Stop.mk ?_; k_here; k_dflt (refine' ctr_use (longest_ctr _ _ _ ?m ?i ?o) ?k1 ?k2 ?k3 ?k4 ?k5 ?kK ?kd ?ku ?_; (case k1 => k_asm); (case k2 => k_asm); (case k3 => k_asm); (case k4 => k_asm); (case k5 => k_asm); (case kK => first | exact rfl | assumption); (case kd => ktr_room); (case ku => ktr_units); (case i => assumption); (case o => assumption); (case m => (dsimp only [WW.led]; kst_allIn)); k_whole); rintro r9 n9 h' tk' ⟨⟨t', e9⟩, e8⟩ F' N'; subst e9; subst e8; (try dsimp only); (try k_sweep))
    have hStop : StopAt "pyIter ref" := ⟨⟩
    k_steps
    refine Stop.mk ?_
    rename Fr _ _ _ _ => lF
    rename News _ _ _ _ => lN
    rename IsRange _ _ _ _ _ _ _ _ => lR
    have kMk := kstMark
    with_unfolding_all refine rangeN (fun pre => ∀ ts ∈ pre, level S1 ts < level S2 ts) rfl lR lF lN (fun _ h => (nomatch h)) ?turn ?done
    case turn =>
      clear lF lN lR
      intro pre k ti h tok own hk1 hk2 hoff hp F1 N1
      try simp only [List.nil_append, List.cons_append, List.append_nil] at N1
      (try k_fold)
      iterate 2 (have hStop : StopAt "call ref" := ⟨⟩; k_steps; refine Stop.mk ?_; k_here; k_dflt (refine' ctr_use (level_ctr _ _ _ ?m ?i ?o _ _ ?z) ?k1 ?k2 ?k3 ?k4 ?k5 ?kK ?kd ?ku ?_; (case k1 => k_asm); (case k2 => k_asm); (case k3 => k_asm); (case k4 => k_asm); (case k5 => k_asm); (case kK => first | exact rfl | assumption); (case kd => ktr_room); (case ku => ktr_units); (case i => assumption); (case o => assumption); (case z => omega); (case m => (dsimp only [WW.led]; kst_allIn)); k_whole); rintro r9 n9 h' tk' ⟨⟨t', e9⟩, e8⟩ F' N'; subst e9; subst e8; (try dsimp only); (try k_sweep))
      k_steps
      case _ =>
        rename Fr _ _ _ _ => eF
        rename News _ _ _ _ => eN
        rename level S2 k ≤ level S1 k => e3
        refine hret _ _ _ _ ⟨⟨false, rfl, ?_⟩, rfl⟩ eF (newsSub eN (by kst_anyIn))
        refine ⟨fun h => (nomatch h), fun h => ?_⟩
        have h2 := h.2
        rw [if_neg e2] at h2
        have := h2 k (mem_rangeKs_of (by omega) (by unfold topOf; omega))
        omega
      case _ =>
        rename Fr _ _ _ _ => eF
        rename News _ _ _ _ => eN
        with_unfolding_all refine' endN eF eN ?hp ?hn ?ho ?ha ?hr
        case hp => exact mem_snoc hp (by omega)
        case hn => kst_anyIn
        case ho => kst_anyIn
        case ha => exact hoff
        case hr => intro z h1; simp [h1]
    case done =>
      clear lF lN lR
      intro u h tok hp F1 N1
      try dsimp only
      (try k_fold)
      k_steps
      rename Fr _ _ _ _ => eF
      rename News _ _ _ _ => eN
      refine hret _ _ _ _ ⟨⟨true, rfl, ?_⟩, rfl⟩ eF (newsSub eN (by kst_anyIn))
      refine ⟨fun _ => ⟨by omega, ?_⟩, fun _ => rfl⟩
      rw [if_neg e2]
      have e9 : topOf S1 S2 - 1 = (if longest S2 > longest S1 then longest S2 else longest S1) + 1 + 1 - 2 := by unfold topOf; omega
      rw [e9]
      exact hp)

theorem datInts (news : Led) : ∀ {vs : List Value} {ns : List Int}, IntsAre vs ns → DatAll news vs (ns.map Dat.int)
  | _, _, .nil => .nil
  | _, _, .cons n t r => .cons (.int n t) (datInts news r)
theorem okInts (k : Nat) (ns : List Int) : (ns.map Dat.int).all (kqdOk k) = true := by
  rw [List.all_eq_true]
  intro d hd
  obtain ⟨n, _, rfl⟩ := List.mem_map.mp hd
  unfold kqdOk
  rfl
theorem mapInt_inj {a b : List Int} : a.map Dat.int = b.map Dat.int ↔ a = b := by
  constructor
  · intro h
    exact (List.map_inj_right (fun x y e => Dat.int.inj e)).mp h
  · rintro rfl; rfl
section
variable {prog : Program} {w : World} {A : Around} {E : Value → Shared → Prop} {s : Shared} {h₀ : Heap} {L : Addr} {Q : Value → Shared → Prop} {news : Led}
theorem eqDat {v v' : Value} {d e : Dat} (N : News h₀ L s.heap news) (D1 : DatIn news v d) (D2 : DatIn news v' e) (k1 : kqdOk 9 d = true) (k2 : kqdOk 9 e = true) (hu : A.units + 64 < cLine)
    (h : ∀ b : Bool, (b = true ↔ d = e) → Q (.bool b) s) : wpAny (model prog w) A (compareOp .Eq v v') Q E s := by
  obtain ⟨as, ra⟩ := kqd_in N 9 D1 k1
  obtain ⟨bs, rb⟩ := kqd_in N 9 D2 k2
  have la := kqd_lay 9 d k1
  have lb := kqd_lay 9 e k2
  refine eq_dataH ra rb ?_ ?_ hu (h _ (kqd_eqv 9 d e 9 k1 k2))
  · unfold SeqAt.shaped; rw [la.1, Bool.true_and]; exact decide_eq_true (Nat.le_trans la.2 (by decide))
  · unfold SeqAt.shaped; rw [lb.1, Bool.true_and]; exact decide_eq_true (Nat.le_trans lb.2 (by decide))
theorem neDat {v v' : Value} {d e : Dat} (N : News h₀ L s.heap news) (D1 : DatIn news v d) (D2 : DatIn news v' e) (k1 : kqdOk 9 d = true) (k2 : kqdOk 9 e = true) (hu : A.units + 64 < cLine)
    (h : ∀ b : Bool, (b = true ↔ d ≠ e) → Q (.bool b) s) : wpAny (model prog w) A (compareOp .NotEq v v') Q E s := by
  obtain ⟨as, ra⟩ := kqd_in N 9 D1 k1
  obtain ⟨bs, rb⟩ := kqd_in N 9 D2 k2
  have la := kqd_lay 9 d k1
  have lb := kqd_lay 9 e k2
  refine ne_dataH ra rb ?_ ?_ hu (h _ ?_)
  · unfold SeqAt.shaped; rw [la.1, Bool.true_and]; exact decide_eq_true (Nat.le_trans la.2 (by decide))
  · unfold SeqAt.shaped; rw [lb.1, Bool.true_and]; exact decide_eq_true (Nat.le_trans lb.2 (by decide))
  · rw [Bool.not_eq_true', ← Bool.not_eq_true, Ne, kqd_eqv 9 d e 9 k1 k2]
theorem eqTupW {p1 q1 p2 q2 : Addr} {b1 b2 : Int} {u1 u2 : Tok} {vs1 vs2 : List Value} {c1 c2 : List Int} (N : News h₀ L s.heap news)
    (m1 : (p1, ({ cls := .type "tuple", data := .seq #[.ref q1, .int b1 u1] } : Obj)) ∈ news) (m2 : (p2, ({ cls := .type "tuple", data := .seq #[.ref q2, .int b2 u2] } : Obj)) ∈ news) (n1 : (q1, tupObj vs1) ∈ news) (n2 : (q2, tupObj vs2) ∈ news)
    (i1 : IntsAre vs1 c1) (i2 : IntsAre vs2 c2) (hu : A.units + 64 < cLine) (h : ∀ b : Bool, (b = true ↔ c1 = c2 ∧ b1 = b2) → Q (.bool b) s) : wpAny (model prog w) A (compareOp .Eq (.ref p1) (.ref p2)) Q E s := by
  refine eqDat (d := .tuple [.tuple (c1.map .int), .int b1]) (e := .tuple [.tuple (c2.map .int), .int b2]) N
    (.tuple (vs := [.ref q1, .int b1 u1]) m1 (.cons (.tuple n1 (datInts news i1)) (.cons (.int _ _) .nil)))
    (.tuple (vs := [.ref q2, .int b2 u2]) m2 (.cons (.tuple n2 (datInts news i2)) (.cons (.int _ _) .nil))) ?_ ?_ hu fun b hb => h b ?_
  · simp [kqdOk]
  · simp [kqdOk]
  · rw [hb]
    simp only [Dat.tuple.injEq, List.cons.injEq, mapInt_inj, Dat.int.injEq, and_true]
end

noncomputable def EqualP (S1 S2 : WS) : Prop := S1.cnt = S2.cnt ∧ S1.b = S2.b
theorem equal_ctr {w mean mg mb} (news : Led) (W1 W2 : WW) (S1 S2 : WS) (hm1 : ∀ e ∈ W1.led S1, e ∈ news) (hm2 : ∀ e ∈ W2.led S2, e ∈ news) (hi1 : IntsAre W1.vs S1.cnt) (hi2 : IntsAre W2.vs S2.cnt) (ok1 : S1.Ok) (ok2 : S2.Ok) :
    Ctr w mean mg mb 12 (.ref 52) [.ref W1.x, .ref W2.x] news (fun r news' => (∃ b : Bool, r = .bool b ∧ (b = true ↔ EqualP S1 S2)) ∧ news' = news) := by
  unfold Ctr
  w_top off
  k_with_none
  k_fill
  intro dp un gd cn cs a ccd cl outer A₀ base h₀ L m s Q E B F X N T hk hd hu hret
  have N1 := newsOf (newsOf N hm2) (a := W1.led S1) (fun p hp => List.mem_append.mpr (.inr (hm1 p hp)))
  clear N
  dsimp only [WW.led, WW.dob, WW.pob, List.cons_append, List.nil_append] at N1
  refine wpAny_call ?_
  k_dflt cell_enter
  have hStop : StopAt "compareOp Eq ref ref" := ⟨⟩
  k_steps
  refine Stop.mk ?_
  k_dflt (refine' eqTupW ?k1 ?k2 ?k3 ?k4 ?k5 ?k6 ?k7 ?k8 ?_; (case k1 => k_asm); (case k2 => k_mem); (case k3 => k_mem); (case k4 => k_mem); (case k5 => k_mem); (case k6 => assumption); (case k7 => assumption); (case k8 => ((simp only [units_deeper] at *); omega)); k_whole)
  intro b9 e1
  k_steps
  rename Fr _ _ _ _ => eF
  rename News _ _ _ _ => eN
  refine hret _ _ _ _ ⟨⟨_, rfl, e1⟩, rfl⟩ eF (newsSub eN (by kst_anyIn))

/-! comprehensions over a name, without a test: a turn's word -/
section
variable {prog : Program} {w : World} {A : Around} {h₀ : Heap} {L : Addr} {m : Str → Option Value} {env : Env} {elt : PySem.Expr} {x : Str} {scope : Scope} {cl : List (Str × Addr)} {s : Shared} {S : Led → Prop} {P : Nat → Value → Prop} {Fin : List Value → Led → Prop}
theorem compInv {n : Nat} (J : Nat → List Value → Led → Prop)
    (turn : ∀ i ys nx v I oI C oC D m₂ h tk (E' : Value → Shared → Prop), i < n → P i v → J i ys nx → LCg.NsObj oC m₂ → m₂ x = some v → Fr h₀ L h m → News h₀ L h ((I, oI) :: (C, oC) :: (D, LCg.lst ys) :: nx) → LCg.Off3 I C D nx → ((@Ne Nat I C) ∧ (@Ne Nat I D) ∧ (@Ne Nat C D)) →
      wpAny (model prog w) A (eval elt (compEnvC scope cl C env)) (LCg.CompEnd h₀ L m { s with heap := h, toks := tk } I oI C oC D (LCg.lst ys) S (fun y nx' => J (i + 1) (ys ++ [y]) nx')) E' { s with heap := h, toks := tk })
    (done : ∀ ys nx, J n ys nx → Fin ys nx) : ∀ (k i : Nat) (ys : List Value) (nx : Led), i + k = n → J i ys nx → LCg.CompRest prog w A h₀ L m env elt x scope cl s S P Fin k i ys nx := by
  intro k
  induction k with
  | zero => intro i ys nx e hj; have e' : i = n := e; subst e'; exact LCg.CompRest.zero (done ys nx hj)
  | succ k ih =>
    intro i ys nx e hj
    refine LCg.CompRest.succ fun v I oI C oC D m₂ h tk E' hP hC hx F N off ne => ?_
    refine wpAny_mono (turn i ys nx v I oI C oC D m₂ h tk E' (by omega) hP hj hC hx F N off ne) (fun y s₂ hq => ?_) fun _ _ q => q
    obtain ⟨h', tk', nx', e2, F', N', off', hS, hr⟩ := hq
    exact ⟨h', tk', nx', e2, F', N', off', hS, ih (i + 1) (ys ++ [y]) nx' (by omega) hr⟩
end

/-! texts by their codes -/
theorem codes_append (x y : PySem.Str) : KStt.codes (x ++ y) = KStt.codes x ++ KStt.codes y := by
  unfold KStt.codes; rw [Str.cps_append, Array.toList_append, List.map_append]
theorem codes_tab : KStt.codes (Str.ofString "\t") = [9] := by rw [tab_is]; rfl
theorem codes_blank : KStt.codes (Str.ofString " ") = [32] := by rw [blank_is]; rfl
theorem codes_nil : KStt.codes (Str.ofString "") = [] := by
  have : (Str.ofString "") = ⟨#[]⟩ := by decide +kernel
  rw [this]; rfl
theorem cat_fold (c : Nat) : ∀ (n : Nat) (acc : Array Nat), ((List.replicate n #[c]).foldl (· ++ ·) acc).toList = acc.toList ++ List.replicate n c
  | 0, acc => by simp
  | n + 1, acc => by
    rw [List.replicate_succ, List.foldl_cons, cat_fold c n, Array.toList_append, List.replicate_succ, List.append_assoc]
    rfl
theorem codes_mul (n : Int) : KStt.codes (Txt.mul (Str.ofString " ") n) = List.replicate n.toNat 32 := by
  rw [blank_is]
  unfold Txt.mul
  split
  · have e : n.toNat = 0 := by omega
    rw [e]; rfl
  · split
    · rename_i h1 h2
      simp only [Bool.or_eq_true, beq_iff_eq] at h2
      rcases h2 with rfl | h2
      · rfl
      · cases h2
    · unfold KStt.codes
      rw [cat_fold]
      simp
noncomputable def runS (r : Int) : PySem.Str := Txt.mul (Str.ofString " ") r ++ Str.ofString "\t"
theorem codes_runS (r : Int) : KStt.codes (runS r) = List.replicate r.toNat 32 ++ [9] := by
  unfold runS; rw [codes_append, codes_mul, codes_tab]
theorem codes_join : ∀ ys : List PySem.Str, KStt.codes (Txt.join (Str.ofString "") ys) = (ys.map KStt.codes).flatten := by
  intro ys
  unfold Txt.join
  rw [StrLaws.glued_eq_join]
  induction ys with
  | nil => rfl
  | cons y r ih =>
    cases r with
    | nil => simp [Str.join]
    | cons z r =>
      show KStt.codes (y ++ Str.ofString "" ++ Str.join (Str.ofString "") (z :: r)) = _
      rw [codes_append, codes_append, codes_nil, ih]
      simp
noncomputable def leadC (runs : List Int) (blanks : Int) : List Int := (runs.map fun r => List.replicate r.toNat 32 ++ [9]).flatten ++ List.replicate blanks.toNat (32 : Int)
theorem codes_lead (runs : List Int) (blanks : Int) : KStt.codes (Txt.join (Str.ofString "") (runs.map runS) ++ Txt.mul (Str.ofString " ") blanks) = leadC runs blanks := by
  rw [codes_append, codes_join, codes_mul, List.map_map]
  unfold leadC
  congr 2
  refine List.map_congr_left fun r _ => ?_
  exact codes_runS r
theorem len_codes (x : PySem.Str) : x.length = (KStt.codes x).length := (KStt.codes_length x).symm
theorem runs_len (runs : List Int) (hr : ∀ r ∈ runs, 0 ≤ r ∧ r ≤ 100) : ((runs.map fun r => List.replicate r.toNat 32 ++ [(9 : Int)]).flatten).length ≤ 101 * runs.length := by
  induction runs with
  | nil => exact Nat.le_refl _
  | cons r rs ih =>
    have h1 := hr r (.head _)
    have h2 := ih fun q hq => hr q (.tail _ hq)
    rw [List.map_cons, List.flatten_cons, List.length_append, List.length_append, List.length_replicate, List.length_cons, List.length_cons, List.length_nil]
    omega
theorem sum_len (runs : List Int) (hr : ∀ r ∈ runs, 0 ≤ r ∧ r ≤ 100) : ((runs.map runS).map (·.length)).sum ≤ 101 * runs.length := by
  induction runs with
  | nil => exact Nat.le_refl _
  | cons r rs ih =>
    have h1 := hr r (.head _)
    have h2 := ih fun q hq => hr q (.tail _ hq)
    have h3 : (runS r).length = r.toNat + 1 := by rw [len_codes, codes_runS]; simp
    rw [List.map_cons, List.map_cons, List.sum_cons, h3, List.length_cons]
    omega
theorem lead_len {runs : List Int} {blanks : Int} (hlen : runs.length ≤ 1000) (hr : ∀ r ∈ runs, 0 ≤ r ∧ r ≤ 100) (hb0 : 0 ≤ blanks) (hb1 : blanks ≤ 100) : (Txt.join (Str.ofString "") (runs.map runS) ++ Txt.mul (Str.ofString " ") blanks).length ≤ 102000 := by
  rw [len_codes, codes_lead]
  unfold leadC
  have := runs_len runs hr
  rw [List.length_append, List.length_replicate]
  omega
theorem intAt {vs : List Value} {ns : List Int} (hi : IntsAre vs ns) {i : Nat} {v : Value} (h : vs.toArray[i]? = some v) : ∃ n t, ns[i]? = some n ∧ v = .int n t := by
  have h' : vs[i]? = some v := by simpa using h
  have hl : i < ns.length := by rw [← hi.length]; exact (List.getElem?_eq_some_iff.mp h').1
  obtain ⟨t, ht⟩ := hi.get i ns[i] (by simp [hl])
  rw [ht] at h'
  exact ⟨ns[i], t, by simp [hl], (Option.some.inj h').symm⟩
theorem strs_snoc {us : List Value} {runs : List Int} {i : Nat} {r : Int} {t : Tok} (h : StrsAre us ((runs.take i).map runS)) (hr : runs[i]? = some r) : StrsAre (us ++ [.str (runS r) t]) ((runs.take (i + 1)).map runS) := by
  have e : runs.take (i + 1) = runs.take i ++ [r] := by simp [List.take_add_one, hr]
  rw [e, List.map_append]
  exact h.append' (.cons _ _ .nil)

theorem mul_run {r : Int} (h0 : 0 ≤ r) (h1 : r ≤ 100) : MulOk (Str.ofString " ") r := mulOk_of 1 100 (by decide +kernel) (by omega) (by omega) (by decide) (by decide)
theorem mul_len {r : Int} (h0 : 0 ≤ r) (h1 : r ≤ 100) : (Txt.mul (Str.ofString " ") r).length ≤ 100 := by rw [len_codes, codes_mul, List.length_replicate]; omega
theorem tab_len : (Str.ofString "\t").length = 1 := by rw [len_codes, codes_tab]; rfl
theorem join_len {runs : List Int} (hlen : runs.length ≤ 1000) (hr : ∀ r ∈ runs, 0 ≤ r ∧ r ≤ 100) : (Txt.join (Str.ofString "") (runs.map runS)).length ≤ 101000 := by
  rw [len_codes, codes_join, List.map_map]
  have := runs_len runs hr
  have e : (KStt.codes ∘ runS) = fun r => List.replicate r.toNat 32 ++ [(9 : Int)] := by funext r; exact codes_runS r
  rw [e]
  omega

section
variable {prog : Program} {w : World} {A : Around} {E : Value → Shared → Prop} {s : Shared} {h₀ : Heap} {L : Addr} {Q : Value → Shared → Prop} {news : Led}
theorem joinRuns {D : Addr} {ys : List Value} {runs : List Int} {t : Tok} (N : News h₀ L s.heap news) (hm : (D, LCg.lst ys) ∈ news) (hys : StrsAre ys (runs.map runS)) (hlen : runs.length ≤ 1000) (hr : ∀ r ∈ runs, 0 ≤ r ∧ r ≤ 100)
    (h : ∀ t' k, Q (.str (Txt.join (Str.ofString "") (runs.map runS)) t') { s with toks := k }) : wpAny (model prog w) A (call (.builtin "str.join") [.str (Str.ofString "") t, .ref D]) Q E s := by
  refine join_listC (ys := runs.map runS) (News.isList N hm) (by simpa using hys) (by decide +kernel) ?_ h
  have := sum_len runs hr
  rw [List.length_map]
  omega
end

theorem lead_ctr {w mean mg mb} (news : Led) (l : Addr) (vs : List Value) (ep : Nat) (runs : List Int) (blanks : Int) (tb : Tok) (hm : (l, W.listOf vs.toArray ep) ∈ news) (hi : IntsAre vs runs) (hlen : runs.length ≤ 1000) (hr : ∀ r ∈ runs, 0 ≤ r ∧ r ≤ 100) (hb0 : 0 ≤ blanks) (hb1 : blanks ≤ 100) :
    Ctr w mean mg mb 3 (.ref 99) [.ref l, .int blanks tb] news (fun r news' => (∃ X t, r = .str X t ∧ KStt.codes X = leadC runs blanks ∧ X.length ≤ 102000) ∧ news' = news) := by
  unfold Ctr
  w_top off
  k_with_none
  k_fill
  intro dp un gd cn cs a ccd cl outer A₀ base h₀ L m s Q E B F X N T hk hd hu hret
  have N1 : News h₀ L s.heap ((l, W.listOf vs.toArray ep) :: news) := newsOf (a := [_]) N (by intro p hp; rw [List.mem_singleton.mp hp]; exact hm)
  clear N
  have hil := hi.length
  refine wpAny_call ?_
  k_dflt cell_enter
  have hStop : StopAt "eval ListComp" := ⟨⟩
  k_steps
  refine Stop.mk ?_
  k_dflt (refine LCg.ListComp_U (F₀ := by k_asm) (by rfl) (by decide) (by rfl) (by decide) (by rfl) ?_)
  have hStop : StopAt "CompSrc" := ⟨⟩
  k_steps
  refine Stop.mk ?_
  rename Fr _ _ _ _ => lF
  rename News _ _ _ _ => lN
  k_dflt (refine LCg.CompSrc.ledger rfl lF lN (List.Mem.head _) (by rw [List.size_toArray, sizeLine_eq]; omega) ?_)
  clear lF lN
  intro g
  refine compInv (n := vs.toArray.size) (fun i ys nx => nx = (l, W.listOf vs.toArray ep) :: news ∧ StrsAre ys ((runs.take i).map runS)) ?turn ?done _ 0 [] _ (by omega) ⟨rfl, .nil⟩
  case turn =>
    intro i ys nx v I oI C oC D m₂ h tk E' hlt hP hJ hC hx F1 N1 off ne
    obtain ⟨rfl, hys⟩ := hJ
    obtain ⟨r, tr, hri, rfl⟩ := intAt hi hP
    obtain ⟨r0, r1⟩ := hr r (List.mem_of_getElem? hri)
    have hStop : StopAt "binaryOp Mult str int" := ⟨⟩
    k_steps
    refine Stop.mk ?_
    refine SB.mul (mul_run (by omega) (by omega)) ?_
    intro t9 k9
    have hStop : StopAt "binaryOp Add str str" := ⟨⟩
    k_steps
    refine Stop.mk ?_
    refine PyProof.Rows.add_str ?_ ?h9
    case h9 => (have h8 := mul_len (r := _) (by assumption) (by assumption)); (have h7 := tab_len); (rw [sizeLine_eq]); omega
    intro t9 k9
    k_steps
    rename Fr _ _ _ _ => eF
    rename News _ _ _ _ => eN
    exact LCg.CompEnd.intro eF eN _ (fun p hp => hp) off (.inr ⟨_, .head _, rfl, _, rfl⟩) ⟨rfl, strs_snoc hys hri⟩
  case done =>
    rintro ys nx ⟨rfl, hys⟩
    have hsz : vs.toArray.size = runs.length := by rw [List.size_toArray, hil]
    rw [hsz, List.take_length] at hys
    have hStop : StopAt "call builtin:str.join" := ⟨⟩
    k_steps
    refine Stop.mk ?_
    k_dflt (refine' joinRuns ?k1 ?k2 ?k3 ?k4 ?k5 ?_; (case k1 => k_asm); (case k2 => k_mem); (case k3 => assumption); (case k4 => assumption); (case k5 => assumption); k_whole); intro t9 k9
    have hStop : StopAt "binaryOp Mult str int" := ⟨⟩
    k_steps
    refine Stop.mk ?_
    refine SB.mul (mul_run (by omega) (by omega)) ?_
    intro t9 k9
    have hStop : StopAt "binaryOp Add str str" := ⟨⟩
    k_steps
    refine Stop.mk ?_
    refine PyProof.Rows.add_str ?_ ?h8
    case h8 => (have h8 := mul_len hb0 hb1); (have h7 := join_len hlen hr); (rw [sizeLine_eq]); omega
    intro t9 k9
    k_steps
    rename Fr _ _ _ _ => eF
    rename News _ _ _ _ => eN
    refine hret _ _ _ _ ⟨⟨_, _, rfl, codes_lead runs blanks, lead_len hlen hr hb0 hb1⟩, rfl⟩ eF (newsSub eN (by kst_anyIn))
section
noncomputable def stepKs (a c : Int) (n : Nat) : List Int := (List.range n).map fun (i : Nat) => a + (i : Int) * c
theorem stepKs_succ (a c : Int) (n : Nat) : stepKs a c (n + 1) = stepKs a c n ++ [a + (n : Int) * c] := by
  unfold stepKs; rw [List.range_succ, List.map_append]; rfl
theorem stepKs_len (a c : Int) (n : Nat) : (stepKs a c n).length = n := by unfold stepKs; simp

section
variable {prog : Program} {w : World} {A : Around} {E : Value → Shared → Prop} {s : Shared} {env : Env} {h₀ : Heap} {x : PySem.Str} {body : List Stmt} {Q : Flow → Shared → Prop}
theorem rangeC {σ : Type} {r : Addr} {a₀ b₀ c₁ : Int} {t₀ u₀ v₀ : Tok} {n : Nat} {m₀ : PySem.Str → Option Value} (Led : σ → List (Addr × Obj)) (ps : σ → List (PySem.Str × Value)) (Facts : σ → Prop) (stored : List PySem.Str) (P : List Int → σ → Prop) (c₀ : σ)
    (hh : A.handled = none) (hr : IsRange s.heap r a₀ b₀ c₁ t₀ u₀ v₀) (hsm : Builtin.Range.small a₀ b₀ c₁ = true) (hsz : Builtin.Range.rangeSize a₀ b₀ c₁ = (n : Int)) (F : Fr h₀ env.locals s.heap m₀) (N : News h₀ env.locals s.heap (Led c₀)) (hf : Facts c₀) (hk : ∀ p ∈ ps c₀, m₀ p.1 = some p.2) (hp : P [] c₀)
    (turn : ∀ (c : σ) (i : Nat) t (u : PySem.Str → Option Value) h tk own, i < n → OwnOff own ((Led c).map (·.1)) → Facts c → P (stepKs a₀ c₁ i) c →
      Fr h₀ env.locals h (fun y => if y = x then some (.int (a₀ + (i : Int) * c₁) t) else kstB (fun z => if stored.contains z then u z else m₀ z) (ps c) y) → News h₀ env.locals h (Led c ++ own) →
      wpAny (model prog w) A (execs body env) (InvPostG h₀ env.locals (KstS Led ps Facts x stored m₀ P (stepKs a₀ c₁ i ++ [a₀ + (i : Int) * c₁])) own { s with heap := h, toks := tk } Q) E { s with heap := h, toks := tk })
    (done : ∀ (c : σ) (u : PySem.Str → Option Value) h tk, Facts c → P (stepKs a₀ c₁ n) c → Fr h₀ env.locals h (fun y => if y = x then u y else kstB (fun z => if stored.contains z then u z else m₀ z) (ps c) y) → News h₀ env.locals h (Led c) → Q .next { s with heap := h, toks := tk }) :
    wpAny (model prog w) A (pyIter (.ref r)) (fun it s₂ => LoopAtV prog w A h₀ env x body Q E it s₂) E s := by
  refine wpAny_pyIter_range hr hsm ?_
  have W : Walks prog w A s.heap.objs.size [s.heap.objs.size] [s.heap.objs.size] n (fun i v => i < n ∧ ∃ t, v = .int (a₀ + i * c₁) t)
      (fun i h => IsRangeIter h s.heap.objs.size (a₀ + (i : Nat) * c₁) ((n : Int) - (i : Nat)) c₁) := (Walks.range hh _ a₀ c₁ n).bound
  refine kdr_loop (news := Led c₀) (fun i m nx => KstS Led ps Facts x stored m₀ P (stepKs a₀ c₁ i) m nx) W (fun _ h => h) (fun _ h => h) ?_ ?_ ?_ ?_ (by show IsRangeIter _ _ _ _ _; rw [hsz]; simpa using Heap.get?_push_size _ rfl) (F.push _) (fun p hp => ⟨Heap.get?_push_of_some _ (N p hp).1, (N p hp).2⟩) ⟨c₀, rfl, hf, hk, fun _ _ _ _ => rfl, hp⟩ ?_ ?_
  · intro i h hi b hb
    rw [List.mem_singleton.mp hb]
    exact ⟨_, hi⟩
  · intro hm
    exact absurd F.ns.lt ((List.mem_singleton.mp hm) ▸ Nat.lt_irrefl _)
  · intro b hb
    rw [List.mem_singleton.mp hb]
    exact next_is_new F
  · intro p hp hI
    exact absurd (Heap.lt_size (N p hp).1) ((List.mem_singleton.mp hI) ▸ Nat.lt_irrefl _)
  · rintro i v m₁ nx h tk own hi ⟨_, t, rfl⟩ hoff ⟨c, rfl, hf', h1, h2, hp'⟩ F₁ N₁
    rw [stepKs_succ]
    exact turn c i t m₁ h tk own hi hoff hf' hp' (kst_fr h1 h2 F₁) N₁
  · rintro m₁ nx h tk ⟨c, rfl, hf', h1, h2, hp'⟩ F₁ N₁
    exact done c m₁ h tk hf' hp' (kst_frOut h1 h2 F₁) N₁
end

/-! a list of ints that a loop turns -/
structure LS1 where
  vs : List Value
  ns : List Int
  ep : Nat
noncomputable abbrev l1S (M : Addr) (rest : Led) (x : Str) (m₀ : Str → Option Value) (P : List Int → List Int → Prop) (pre : List Int) : (Str → Option Value) → Led → Prop :=
  KstS (σ := LS1) (fun c => (M, W.listOf c.vs.toArray c.ep) :: rest) (fun _ => []) (fun c => IntsAre c.vs c.ns) x [] m₀ (fun pre c => P pre c.ns) pre
section
variable {prog : Program} {w : World} {A : Around} {E : Value → Shared → Prop} {s : Shared} {env : Env} {h₀ : Heap} {x : PySem.Str} {body : List Stmt} {Q : Flow → Shared → Prop}
end

/-! two lists of ints that a loop turns, and names it stores -/
/-! a comprehension over a range by steps -/
section
variable {prog : Program} {w : World} {A : Around} {E : Value → Shared → Prop} {s : Shared} {h₀ : Heap} {L : Addr} {m : Str → Option Value} {env : Env}
structure SrcG (prog : Program) (w : World) (A : Around) (h₀ : Heap) (L : Addr) (m : Str → Option Value) (env : Env) (elt : PySem.Expr) (x : Str) (scope : Scope) (cl : List (Str × Addr)) (Fin : Shared → List Value → Led → Prop) (xv : Value) (s₁ : Shared) : Prop where
  out : ∃ r a b c t u v n news, xv = .ref r ∧ A.handled = none ∧ Fr h₀ L s₁.heap m ∧ News h₀ L s₁.heap news ∧ IsRange s₁.heap r a b c t u v ∧ Builtin.Range.small a b c = true ∧ Builtin.Range.rangeSize a b c = ((n : Nat) : Int) ∧ n ≤ sizeLine ∧
    ∀ g, LCg.CompRest prog w A h₀ L m env elt x scope cl { s₁ with heap := g } (fun _ => True) (fun i v => ∃ t, v = .int (a + (i : Int) * c) t) (Fin { s₁ with heap := g }) n 0 [] news
theorem compStep {elt iter : PySem.Expr} {x : Str} {px : Pos} {scope : Scope} {cl : List (Str × Addr)} {pos : Pos} {Q : Value → Shared → Prop} (F₀ : Fr h₀ L s.heap m)
    (hclos : closureFor scope env = pure cl) (hcell : ∀ y ∈ scope.names, y.2 ≠ .cell) (hkind : scope.kind = .function)
    (hnames : ∀ y ∈ scope.names, y.2 = .local → scope.names.lookup y.1 = some .local) (hx : scope.names.lookup x = some .local)
    (h : wpAny (model prog w) A (eval iter env) (SrcG prog w A h₀ L m env elt x scope cl (fun s₂ => LCg.FinE h₀ L m s₂ Q)) E s)
    (hs : ∀ x, foldedSetIterable iter env x = pure x := by intro _; rfl) :
    wpAny (model prog w) A (eval (.ListComp elt [⟨.Name x px, iter, [], 0⟩] scope pos) env) Q E s := by
  rw [eval_ListComp]
  refine wpAny_comprehension_free (use := none) rfl hs hclos hkind hnames (wpAny_mono h (fun xv s₁ h₁ => ?_) fun _ _ e => e)
  obtain ⟨r, a, b, c, t, u, v, n, news, rfl, hh, F, N, hr, hsm, hn, hsz, R⟩ := h₁.out
  refine wpAny_pyIter_range hr hsm ?_
  have W : Walks prog w A s₁.heap.objs.size [s₁.heap.objs.size] [s₁.heap.objs.size] n (fun i v => ∃ t, v = .int (a + (i : Int) * c) t) (fun i h => IsRangeIter h s₁.heap.objs.size (a + (i : Nat) * c) ((n : Int) - (i : Nat)) c) := Walks.range hh _ a c n
  refine LCg.block_U (S := fun _ => True) W hsz (fun i h st => ⟨_, st⟩) (fun i g g' o nw st e e' _ _ _ => ?_) hcell hkind hx (by show IsRangeIter _ _ _ _ _; rw [hn]; simpa using Heap.get?_push_size _ rfl) (fun b hb => ?_)
    (F.keeps fun _ _ e => Heap.get?_push_of_some _ e) (N.grown fun _ _ e => Heap.get?_push_of_some _ e) (Nat.ne_of_lt F.ns.lt) (next_is_new F) (fun p hp => Nat.ne_of_lt (Heap.lt_size (N p hp).1)) trivial (R _) ?_
  · have st' : g.get? s₁.heap.objs.size = some _ := st
    show g'.get? s₁.heap.objs.size = some _
    rw [e', ← e]; exact st'
  · rw [List.mem_singleton.mp hb]
    show s₁.heap.objs.size < (s₁.heap.push _).objs.size
    rw [Heap.size_push]; exact Nat.lt_succ_self _
  · intro D C h tk m' ys news' F' N' o1 hn hC₀ hD₀ hCL hDL hCD offC fin
    refine ⟨m', hn, fun h'' hs'' => fin D h'' tk (F'.change hs'' hCL hC₀) (fun p hp => ?_) o1⟩
    refine ⟨hs''.extBut _ _ ?_ (N' p hp).1, (N' p hp).2⟩
    rcases List.mem_cons.mp hp with rfl | hp
    · exact Ne.symm hCD
    · exact offC p hp
end

section
variable {prog : Program} {w : World} {A : Around} {h₀ : Heap} {L : Addr} {m : Str → Option Value} {env : Env} {elt : PySem.Expr} {x : Str} {scope : Scope} {cl : List (Str × Addr)} {s : Shared} {S : Led → Prop} {P : Nat → Value → Prop} {Fin : List Value → Led → Prop} {news : Led}
theorem compInvC {n : Nat} (J : Nat → List Value → Prop) (hJ : J 0 [])
    (turn : ∀ i ys v I oI C oC D m₂ h tk (E' : Value → Shared → Prop), i < n → P i v → J i ys → LCg.NsObj oC m₂ → m₂ x = some v → Fr h₀ L h m → News h₀ L h ((I, oI) :: (C, oC) :: (D, LCg.lst ys) :: news) → LCg.Off3 I C D news → ((@Ne Nat I C) ∧ (@Ne Nat I D) ∧ (@Ne Nat C D)) →
      wpAny (model prog w) A (eval elt (compEnvC scope cl C env)) (LCg.CompEnd h₀ L m { s with heap := h, toks := tk } I oI C oC D (LCg.lst ys) S (fun y nx' => nx' = news ∧ J (i + 1) (ys ++ [y]))) E' { s with heap := h, toks := tk })
    (done : ∀ ys, J n ys → Fin ys news) : LCg.CompRest prog w A h₀ L m env elt x scope cl s S P Fin n 0 [] news := by
  refine compInv (n := n) (fun i ys nx => nx = news ∧ J i ys) ?_ ?_ n 0 [] news (Nat.zero_add _) ⟨rfl, hJ⟩
  · rintro i ys nx v I oI C oC D m₂ h tk E' hlt hP ⟨rfl, hj⟩ hC hx F N off ne
    exact turn i ys v I oI C oC D m₂ h tk E' hlt hP hj hC hx F N off ne
  · rintro ys nx ⟨rfl, hj⟩
    exact done ys hj
end
theorem ints_snoc {vs : List Value} {ns : List Int} {n : Int} {t : Tok} (h : IntsAre vs ns) : IntsAre (vs ++ [.int n t]) (ns ++ [n]) := h.append (.cons n t .nil)

section
variable {prog : Program} {w : World} {A : Around} {E : Value → Shared → Prop} {s : Shared} {h₀ : Heap} {L : Addr} {m : Str → Option Value} {Q : Value → Shared → Prop} {news : Led}
theorem itemL {value slice : PySem.Expr} {l : Addr} {vs : List Value} {ns : List Int} {ep : Nat} {k : Int} {u : Tok} (N : News h₀ L s.heap news) (hm : (l, W.listOf vs.toArray ep) ∈ news) (hi : IntsAre vs ns) (h0 : 0 ≤ k) (h1 : k < ns.length) (hfit : ns.length < 2 ^ 62)
    (h : ∀ tk, Q (.int (ns.getD k.toNat 0) tk) s)
    (hs : subscripted slice false (.ref l) (.int k u) = operate [.ref l, .int k u] (getItem (.ref l) (.int k u)) := by with_unfolding_all rfl) :
    wpAny (model prog w) A (subscriptTail value slice (.ref l) (.int k u)) Q E s := by
  have hlt : k.toNat < ns.length := by omega
  obtain ⟨tk, hx⟩ := hi.get k.toNat ns[k.toNat] (by simp [hlt])
  have hl : s.heap.IsList l vs.toArray := News.isList N hm
  refine item_litK hl h0 (by omega) hx ?_ hs
  have := h tk
  rw [List.getD_eq_getElem?_getD, List.getElem?_eq_getElem hlt] at this
  exact this
end

theorem small_any {a b c : Int} (ha : -(2 ^ 40) ≤ a) (ha' : a < 2 ^ 40) (hb : -(2 ^ 40) ≤ b) (hb' : b < 2 ^ 40) (hc : -(2 ^ 40) ≤ c) (hc' : c < 2 ^ 40) : Builtin.Range.small a b c = true := by
  have h1 := rangeSize_toNat a b c
  have h2 := rangeSize_toNat_le a b c
  unfold Builtin.Range.small
  simp only [Builtin.Range.rangeFitsLong, Bool.and_eq_true, Bool.or_eq_true, decide_eq_true_eq, beq_iff_eq]
  refine ⟨⟨⟨⟨⟨?_, ?_⟩, ?_, ?_⟩, ?_, ?_⟩, ?_, ?_⟩, .inr ?_⟩ <;> (try omega)
  split <;> (simp only [Bool.and_eq_true, decide_eq_true_eq]; omega)
section
variable {prog : Program} {w : World} {A : Around} {E : Value → Shared → Prop} {s : Shared} {h₀ : Heap} {L : Addr} {m : Str → Option Value} {Q : Value → Shared → Prop} {news : Led}
end

theorem small_one {a b : Int} (h0 : 0 ≤ a) (h1 : a ≤ 100) (h2 : -100 ≤ b) (h3 : b ≤ 100) : Builtin.Range.small a b 1 = true := small_any (by omega) (by omega) (by omega) (by omega) (by decide) (by decide)
theorem flat_oneK (n : Nat) (k : Int) : ((List.replicate n [k]).flatten).length = n := by simp
end
section
/-! an indent of runs and blanks: what its text is parsed to -/
noncomputable def cntOf (runs : List Int) : List Int := runs.foldl (fun c r => bump (padTo c r) r) []
noncomputable def nOf (runs : List Int) : Int := (runs.map fun r => r + 1).sum
noncomputable def stOf (runs : List Int) (b : Int) : WS := ⟨cntOf runs, b, nOf runs + b, runs.length⟩
theorem parse_blanks (n : Nat) (rest : List Int) : ∀ (c : List Int) (b k t : Int), parse (List.replicate n 32 ++ rest) ⟨c, b, k, t⟩ = parse rest ⟨c, b + n, k + n, t⟩ := by
  induction n with
  | zero => intro c b k t; simp
  | succ n ih =>
    intro c b k t
    rw [List.replicate_succ, List.cons_append, parse, if_pos rfl, ih]
    congr 2 <;> (push_cast; omega)
theorem parse_run (r : Int) (h0 : 0 ≤ r) (rest : List Int) (c : List Int) (k t : Int) : parse (List.replicate r.toNat 32 ++ ([9] ++ rest)) ⟨c, 0, k, t⟩ = parse rest ⟨bump (padTo c r) r, 0, k + (r + 1), t + 1⟩ := by
  rw [parse_blanks]
  have e : (0 : Int) + (r.toNat : Int) = r := by omega
  rw [e, List.singleton_append, parse, if_neg (by decide), if_pos rfl]
  have e2 : k + (r.toNat : Int) + 1 = k + (r + 1) := by omega
  rw [e2]
theorem parse_runs : ∀ (runs : List Int) (_h : ∀ r ∈ runs, 0 ≤ r) (rest : List Int) (c : List Int) (k t : Int), parse ((runs.map fun r => List.replicate r.toNat 32 ++ [9]).flatten ++ rest) ⟨c, 0, k, t⟩ = parse rest ⟨runs.foldl (fun c r => bump (padTo c r) r) c, 0, k + nOf runs, t + runs.length⟩
  | [], _, rest, c, k, t => by simp [nOf]
  | r :: rs, h, rest, c, k, t => by
    rw [List.map_cons, List.flatten_cons, List.append_assoc, List.append_assoc, parse_run r (h r (.head _)), parse_runs rs (fun q hq => h q (.tail _ hq)), List.foldl_cons]
    have e1 : k + (r + 1) + nOf rs = k + nOf (r :: rs) := by unfold nOf; rw [List.map_cons, List.sum_cons]; omega
    have e2 : t + 1 + (rs.length : Int) = t + ((r :: rs).length : Int) := by rw [List.length_cons]; push_cast; omega
    rw [e1, e2]
theorem parse_lead (runs : List Int) (b : Int) (h : ∀ r ∈ runs, 0 ≤ r) (hb : 0 ≤ b) (rest : List Int) : parse (leadC runs b ++ rest) ⟨[], 0, 0, 0⟩ = parse rest (stOf runs b) := by
  unfold leadC
  rw [List.append_assoc, parse_runs runs h, parse_blanks]
  unfold stOf cntOf
  congr 2 <;> omega
theorem parse_stop {c : Int} (rest : List Int) (st : WS) (h1 : c ≠ 32) (h2 : c ≠ 9) : parse (c :: rest) st = st := by rw [parse, if_neg h1, if_neg h2]

/-! its columns -/
noncomputable def colSum (runs : List Int) (ts : Int) : Int := (runs.map fun r => r.fdiv ts + 1).sum
theorem col_blanks (ts : Int) (n : Nat) : ∀ c : Int, (List.replicate n (32 : Int)).foldl (colStep ts) c = c + n := by
  induction n with
  | zero => intro c; simp
  | succ n ih =>
    intro c
    rw [List.replicate_succ, List.foldl_cons, ih, colStep, if_neg (by decide)]
    push_cast; omega
theorem col_runs (ts : Int) (hts : 1 ≤ ts) : ∀ (runs : List Int) (_h : ∀ r ∈ runs, 0 ≤ r) (q : Int), ((runs.map fun r => List.replicate r.toNat 32 ++ [(9 : Int)]).flatten).foldl (colStep ts) (ts * q) = ts * (q + colSum runs ts)
  | [], _, q => by simp [colSum]
  | r :: rs, h, q => by
    have h0 := h r (.head _)
    rw [List.map_cons, List.flatten_cons, List.foldl_append, List.foldl_append, col_blanks, List.foldl_cons, List.foldl_nil, colStep, if_pos rfl]
    have e0 : (r.toNat : Int) = r := by omega
    rw [e0]
    have e1 : (ts * q + r).fmod ts = r.fmod ts := by rw [Int.add_comm, Int.add_mul_fmod_self_left]
    have e2 : r.fmod ts = r - ts * r.fdiv ts := by have := Int.mul_fdiv_add_fmod r ts; omega
    have e3 : ts * q + r + ts - (ts * q + r).fmod ts = ts * (q + (r.fdiv ts + 1)) := by
      rw [e1, e2, Int.mul_add, Int.mul_add]; omega
    rw [e3, col_runs ts hts rs (fun q hq => h q (.tail _ hq))]
    unfold colSum
    rw [List.map_cons, List.sum_cons, Int.add_assoc]
theorem col_lead (ts : Int) (hts : 1 ≤ ts) (runs : List Int) (b : Int) (h : ∀ r ∈ runs, 0 ≤ r) (hb : 0 ≤ b) : colOf ts (leadC runs b) = b + ts * colSum runs ts := by
  unfold colOf leadC
  have e : (0 : Int) = ts * 0 := by omega
  rw [List.foldl_append, e, col_runs ts hts runs h, col_blanks, Int.zero_add]
  omega

/-! the counts -/
noncomputable def lvFrom (ts : Int) : List Int → Int → Int
  | [], _ => 0
  | x :: xs, i => i.fdiv ts * x + lvFrom ts xs (i + 1)
theorem lvFrom_append (ts : Int) : ∀ (xs ys : List Int) (i : Int), lvFrom ts (xs ++ ys) i = lvFrom ts xs i + lvFrom ts ys (i + xs.length)
  | [], ys, i => by simp [lvFrom]
  | x :: xs, ys, i => by
    rw [List.cons_append, lvFrom, lvFrom, lvFrom_append ts xs ys, List.length_cons]
    have e : i + 1 + (xs.length : Int) = i + ((xs.length + 1 : Nat) : Int) := by push_cast; omega
    rw [e, Int.add_assoc]
theorem lvFrom_zeros (ts : Int) : ∀ (n : Nat) (i : Int), lvFrom ts (List.replicate n 0) i = 0
  | 0, _ => rfl
  | n + 1, i => by rw [List.replicate_succ, lvFrom, lvFrom_zeros ts n]; simp
theorem lvFrom_bump (ts : Int) : ∀ (xs : List Int) (k : Nat) (i : Int), k < xs.length → lvFrom ts (xs.set k (xs.getD k 0 + 1)) i = lvFrom ts xs i + (i + k).fdiv ts
  | [], k, i, h => absurd h (Nat.not_lt_zero _)
  | x :: xs, 0, i, _ => by
    simp only [List.set_cons_zero, List.getD_cons_zero, lvFrom]
    rw [Int.mul_add]; simp; omega
  | x :: xs, k + 1, i, h => by
    simp only [List.set_cons_succ, List.getD_cons_succ, lvFrom]
    rw [lvFrom_bump ts xs k (i + 1) (Nat.lt_of_succ_lt_succ h)]
    have e : i + 1 + (k : Int) = i + ((k + 1 : Nat) : Int) := by push_cast; omega
    rw [e, Int.add_assoc]
theorem lvFrom_small (ts : Int) : ∀ (xs : List Int) (i : Int), 0 ≤ i → i + xs.length ≤ ts → lvFrom ts xs i = 0
  | [], _, _, _ => rfl
  | x :: xs, i, h0, h1 => by
    rw [List.length_cons] at h1
    rw [lvFrom, lvFrom_small ts xs (i + 1) (by omega) (by push_cast at h1; omega)]
    have : i.fdiv ts = 0 := by rw [Int.fdiv_eq_ediv_of_nonneg _ (by push_cast at h1; omega)]; exact Int.ediv_eq_zero_of_lt h0 (by push_cast at h1; omega)
    rw [this]; simp
theorem flat_rep (n : Nat) : (List.replicate n [(0 : Int)]).flatten = List.replicate n 0 := by
  induction n with
  | zero => rfl
  | succ n ih => rw [List.replicate_succ, List.flatten_cons, ih, List.replicate_succ]; rfl
theorem padTo_len (c : List Int) (r : Int) (h0 : 0 ≤ r) : (padTo c r).length = max c.length (r + 1).toNat := by
  unfold padTo
  split
  · rw [List.length_append, flat_one]; omega
  · omega
theorem padTo_lv (ts : Int) (c : List Int) (r : Int) : lvFrom ts (padTo c r) 0 = lvFrom ts c 0 := by
  unfold padTo
  split
  · rw [lvFrom_append, flat_rep, lvFrom_zeros, Int.add_zero]
  · rfl
theorem bump_len (c : List Int) (r : Int) : (bump c r).length = c.length := by unfold bump; rw [List.length_set]
theorem lv_step (ts : Int) (c : List Int) (r : Int) (h0 : 0 ≤ r) : lvFrom ts (bump (padTo c r) r) 0 = lvFrom ts c 0 + r.fdiv ts := by
  unfold bump
  rw [lvFrom_bump ts (padTo c r) r.toNat 0 (by rw [padTo_len c r h0]; omega), padTo_lv]
  have e : (0 : Int) + (r.toNat : Int) = r := by omega
  rw [e]
theorem lv_runs (ts : Int) : ∀ (runs : List Int) (_h : ∀ r ∈ runs, 0 ≤ r) (c : List Int), lvFrom ts (runs.foldl (fun c r => bump (padTo c r) r) c) 0 + (runs.length : Int) = lvFrom ts c 0 + colSum runs ts
  | [], _, c => by simp [colSum]
  | r :: rs, h, c => by
    have ih := lv_runs ts rs (fun q hq => h q (.tail _ hq)) (bump (padTo c r) r)
    rw [lv_step ts c r (h r (.head _))] at ih
    rw [List.foldl_cons, List.length_cons]
    unfold colSum at ih ⊢
    rw [List.map_cons, List.sum_cons]
    push_cast
    omega
theorem rangeKs_cons (a : Int) (n : Nat) : rangeKs a (n + 1) = a :: rangeKs (a + 1) n := by
  unfold rangeKs
  rw [List.range_succ_eq_map, List.map_cons, List.map_map]
  congr 1
  · simp
  · refine List.map_congr_left fun i _ => ?_
    simp; omega
theorem lvSum_from (cnt : List Int) (ts : Int) : ∀ (n a : Nat), a + n = cnt.length → lvSum cnt ts (rangeKs a n) = lvFrom ts (cnt.drop a) a
  | 0, a, h => by rw [List.drop_of_length_le (by omega)]; rfl
  | n + 1, a, h => by
    have hl : a < cnt.length := by omega
    rw [rangeKs_cons, List.drop_eq_getElem_cons hl, lvFrom]
    have ih := lvSum_from cnt ts n (a + 1) (by omega)
    have e : lvSum cnt ts ((a : Int) :: rangeKs ((a : Int) + 1) n) = lvTerm cnt ts a + lvSum cnt ts (rangeKs ((a : Int) + 1) n) := by unfold lvSum; rw [List.map_cons, List.sum_cons]
    have e2 : ((a + 1 : Nat) : Int) = (a : Int) + 1 := by push_cast; rfl
    rw [e2] at ih
    rw [e, ih, lvTerm, Int.toNat_natCast, List.getD_eq_getElem?_getD, List.getElem?_eq_getElem hl]
    rfl
theorem lvSum_all (cnt : List Int) (ts : Int) (hts : 1 ≤ ts) : lvSum cnt ts (rangeKs ts ((cnt.length : Int) - ts).toNat) = lvFrom ts cnt 0 := by
  by_cases h : ts ≤ cnt.length
  · have e : ts = ((ts.toNat : Nat) : Int) := by omega
    have h1 := lvSum_from cnt ts ((cnt.length : Int) - ts).toNat ts.toNat (by omega)
    rw [← e] at h1
    rw [h1]
    have h2 := lvFrom_append ts (cnt.take ts.toNat) (cnt.drop ts.toNat) 0
    rw [List.take_append_drop, lvFrom_small ts (cnt.take ts.toNat) 0 (Int.le_refl _) (by rw [List.length_take]; omega), List.length_take] at h2
    rw [h2]
    have e3 : (0 : Int) + ((min ts.toNat cnt.length : Nat) : Int) = ts := by omega
    rw [e3, Int.zero_add]
  · have e : ((cnt.length : Int) - ts).toNat = 0 := by omega
    rw [e, lvFrom_small ts cnt 0 (Int.le_refl _) (by omega)]
    rfl
theorem level_st (runs : List Int) (b ts : Int) (h : ∀ r ∈ runs, 0 ≤ r) (hts : 1 ≤ ts) : level (stOf runs b) ts = b + ts * colSum runs ts := by
  unfold level stOf
  dsimp only
  rw [lvSum_all _ ts hts]
  have := lv_runs ts runs h []
  unfold cntOf
  have e : lvFrom ts ([] : List Int) 0 = 0 := rfl
  rw [this, e, Int.zero_add]
theorem getD_set0 (xs : List Int) (k i : Nat) (v : Int) (hk : k < xs.length) : (xs.set k v).getD i 0 = if i = k then v else xs.getD i 0 := by
  rw [List.getD_eq_getElem?_getD, List.getD_eq_getElem?_getD, List.getElem?_set]
  by_cases h : k = i
  · subst h; simp [hk]
  · rw [if_neg h, if_neg (fun e => h e.symm)]
theorem fdiv_small {k ts : Int} (h0 : 0 ≤ k) (h1 : k < ts) : k.fdiv ts = 0 := by
  rw [Int.fdiv_eq_ediv_of_nonneg _ (by omega)]; exact Int.ediv_eq_zero_of_lt h0 h1
theorem rangeKs_snoc (a : Int) (n : Nat) : rangeKs a (n + 1) = rangeKs a n ++ [a + (n : Int)] := by
  unfold rangeKs; rw [List.range_succ, List.map_append]; rfl
theorem colSum_append (xs ys : List Int) (ts : Int) : colSum (xs ++ ys) ts = colSum xs ts + colSum ys ts := by unfold colSum; rw [List.map_append, List.sum_append]
theorem colSum_rev (xs : List Int) (ts : Int) : colSum xs.reverse ts = colSum xs ts := by
  unfold colSum
  rw [List.map_reverse, List.sum_reverse]
theorem getD_set (xs : List Int) (k i : Nat) (v : Int) (hk : k < xs.length) : (xs.set k v).getD i 0 = if i = k then v else xs.getD i 0 := getD_set0 xs k i v hk
theorem padTo_getD (c : List Int) (r : Int) (i : Nat) : (padTo c r).getD i 0 = c.getD i 0 := by
  unfold padTo
  split
  · rw [flat_rep, List.getD_eq_getElem?_getD, List.getD_eq_getElem?_getD, List.getElem?_append]
    split
    · rfl
    · rename_i hi
      rw [List.getElem?_eq_none (by omega : c.length ≤ i), List.getElem?_replicate]
      split <;> rfl
  · rfl
theorem step_getD (c : List Int) (r : Int) (h0 : 0 ≤ r) (i : Nat) : (bump (padTo c r) r).getD i 0 = c.getD i 0 + if (i : Int) = r then 1 else 0 := by
  unfold bump
  rw [getD_set _ _ _ _ (by rw [padTo_len c r h0]; omega), padTo_getD, padTo_getD]
  by_cases h : (i : Int) = r
  · have : i = r.toNat := by omega
    rw [if_pos h, if_pos this, this]
  · have : ¬ i = r.toNat := by omega
    rw [if_neg h, if_neg this]; omega
theorem cnt_getD (i : Nat) : ∀ (runs : List Int) (_h : ∀ r ∈ runs, 0 ≤ r) (c : List Int), (runs.foldl (fun c r => bump (padTo c r) r) c).getD i 0 = c.getD i 0 + (runs.count (i : Int) : Int)
  | [], _, c => by simp
  | r :: rs, h, c => by
    rw [List.foldl_cons, cnt_getD i rs (fun q hq => h q (.tail _ hq)), step_getD c r (h r (.head _)), List.count_cons]
    by_cases e : (i : Int) = r
    · rw [if_pos e]; simp [e]; omega
    · rw [if_neg e]
      have : ¬ (r == (i : Int)) = true := by simp; exact fun q => e q.symm
      rw [if_neg this]; omega
noncomputable def topRun (runs : List Int) (m : Nat) : Nat := runs.foldl (fun m r => max m (r + 1).toNat) m
theorem cnt_len : ∀ (runs : List Int) (_h : ∀ r ∈ runs, 0 ≤ r) (c : List Int), (runs.foldl (fun c r => bump (padTo c r) r) c).length = topRun runs c.length
  | [], _, c => rfl
  | r :: rs, h, c => by
    rw [List.foldl_cons, cnt_len rs (fun q hq => h q (.tail _ hq)), bump_len, padTo_len c r (h r (.head _))]
    rfl
theorem topRun_le {b : Nat} : ∀ (runs : List Int) (m : Nat), topRun runs m ≤ b ↔ m ≤ b ∧ ∀ r ∈ runs, r < b
  | [], m => by simp [topRun]
  | r :: rs, m => by
    have ih := topRun_le (b := b) rs (max m (r + 1).toNat)
    unfold topRun at ih ⊢
    rw [List.foldl_cons, ih]
    simp only [List.mem_cons, forall_eq_or_imp]
    constructor
    · rintro ⟨h1, h2⟩; exact ⟨by omega, by omega, h2⟩
    · rintro ⟨h1, h2, h3⟩; exact ⟨by omega, h3⟩
theorem nOf_nonneg : ∀ (runs : List Int) (_h : ∀ r ∈ runs, 0 ≤ r), 0 ≤ nOf runs
  | [], _ => Int.le_refl _
  | r :: rs, h => by
    have ih := nOf_nonneg rs fun q hq => h q (.tail _ hq)
    have h0 := h r (.head _)
    unfold nOf at ih ⊢
    rw [List.map_cons, List.sum_cons]; omega
theorem st_len {runs : List Int} {b : Int} (h : ∀ r ∈ runs, 0 ≤ r) : (stOf runs b).cnt.length = topRun runs 0 := by
  unfold stOf cntOf
  exact cnt_len runs h []
theorem st_ok {runs : List Int} {b : Int} (h : ∀ r ∈ runs, 0 ≤ r ∧ r ≤ 100) (hl : runs.length ≤ 1000) (h0 : 0 ≤ b) (h1 : b ≤ 100) : (stOf runs b).Ok := by
  have hn : ∀ r ∈ runs, 0 ≤ r := fun r hr => (h r hr).1
  have e1 := st_len (b := b) hn
  have e2 : topRun runs 0 ≤ 101 := (topRun_le runs 0).mpr ⟨by omega, fun r hr => by have := h r hr; omega⟩
  have e3 := nOf_nonneg runs hn
  refine ⟨h0, by show b ≤ _; omega, by omega, by show 0 ≤ nOf runs + b; omega, by show 0 ≤ (runs.length : Int); omega, by show (runs.length : Int) ≤ _; omega, fun i => ?_⟩
  have e4 : (stOf runs b).cnt.getD i 0 = (runs.count (i : Int) : Int) := by
    have := cnt_getD i runs hn []
    unfold stOf cntOf
    rw [this]; simp
  rw [e4]
  have := List.count_le_length (a := (i : Int)) (l := runs)
  omega
theorem parse_x {X lit : PySem.Str} {runs : List Int} {b c : Int} {rest : List Int} (hX : KStt.codes X = leadC runs b) (hl : KStt.codes lit = c :: rest) (h : ∀ r ∈ runs, 0 ≤ r) (hb : 0 ≤ b) (h1 : c ≠ 32) (h2 : c ≠ 9) :
    parse (KStt.codes (X ++ lit)) ⟨[], 0, 0, 0⟩ = stOf runs b := by
  rw [codes_append, hX, hl, parse_lead runs b h hb, parse_stop rest _ h1 h2]
theorem lit_x : KStt.codes (Str.ofString "x \t") = [120, 32, 9] := by decide +kernel
theorem lit_n : KStt.codes (Str.ofString "\n\t") = [10, 9] := by decide +kernel
theorem lit_x_len : (Str.ofString "x \t").length = 3 := by decide +kernel
theorem lit_n_len : (Str.ofString "\n\t").length = 2 := by decide +kernel
namespace LawF
theorem lt_len {runs : List Int} {r : Int} (h0 : ∀ r ∈ runs, 0 ≤ r) {b : Int} (h : r ∈ runs) : r < ((stOf runs b).cnt.length : Int) := by
  rw [st_len h0]
  exact ((topRun_le (b := topRun runs 0) runs 0).mp (Nat.le_refl _)).2 r h
theorem small_sum {ts : Int} : ∀ (runs : List Int), (∀ r ∈ runs, 0 ≤ r) → (∀ r ∈ runs, r < ts) → colSum runs ts = runs.length
  | [], _, _ => rfl
  | r :: rs, h0, h1 => by
    have ih := small_sum rs (fun q hq => h0 q (.tail _ hq)) (fun q hq => h1 q (.tail _ hq))
    unfold colSum at ih ⊢
    rw [List.map_cons, List.sum_cons, ih, fdiv_small (h0 r (.head _)) (h1 r (.head _)), List.length_cons]
    omega
end LawF
theorem level_one {runs : List Int} {b : Int} (h : ∀ r ∈ runs, 0 ≤ r) : level (stOf runs b) 1 = (stOf runs b).n := by
  rw [level_st runs b 1 h (by omega)]
  have e : colSum runs 1 = nOf runs := by
    unfold colSum nOf
    congr 1
    refine List.map_congr_left fun r _ => ?_
    rw [Int.fdiv_one]
  rw [e]
  show b + 1 * nOf runs = nOf runs + b
  omega
theorem simple_zero {runs : List Int} {b : Int} (h : ∀ r ∈ runs, 0 ≤ r) (hl : (stOf runs b).cnt.length ≤ 1) : ∀ r ∈ runs, r = 0 := by
  intro r hr
  have := LawF.lt_len h (b := b) hr
  have := h r hr
  omega
theorem simple_level {runs : List Int} {b ts : Int} (h : ∀ r ∈ runs, 0 ≤ r) (hl : (stOf runs b).cnt.length ≤ 1) (hts : 1 ≤ ts) : level (stOf runs b) ts = b + ts * (stOf runs b).nt := by
  rw [level_st runs b ts h hts, LawF.small_sum runs h fun r hr => by have := simple_zero h hl r hr; omega]
  rfl
theorem sum_bump : ∀ (xs : List Int) (k : Nat), k < xs.length → (xs.set k (xs.getD k 0 + 1)).sum = xs.sum + 1
  | [], k, h => absurd h (Nat.not_lt_zero _)
  | x :: xs, 0, _ => by simp only [List.set_cons_zero, List.getD_cons_zero, List.sum_cons]; omega
  | x :: xs, k + 1, h => by
    have ih := sum_bump xs k (Nat.lt_of_succ_lt_succ h)
    simp only [List.set_cons_succ, List.getD_cons_succ, List.sum_cons, ih]; omega
theorem sum_zeros (n : Nat) : (List.replicate n (0 : Int)).sum = 0 := by
  induction n with
  | zero => rfl
  | succ n ih => rw [List.replicate_succ, List.sum_cons, ih]; rfl
theorem sum_pad (c : List Int) (r : Int) : (padTo c r).sum = c.sum := by
  unfold padTo
  split
  · rw [List.sum_append, flat_rep, sum_zeros, Int.add_zero]
  · rfl
theorem sum_cnt : ∀ (runs : List Int) (_h : ∀ r ∈ runs, 0 ≤ r) (c : List Int), (runs.foldl (fun c r => bump (padTo c r) r) c).sum = c.sum + runs.length
  | [], _, c => by simp
  | r :: rs, h, c => by
    have h0 := h r (.head _)
    rw [List.foldl_cons, sum_cnt rs (fun q hq => h q (.tail _ hq))]
    have e : (bump (padTo c r) r).sum = c.sum + 1 := by
      unfold bump
      rw [sum_bump _ _ (by rw [padTo_len c r h0]; omega), sum_pad]
    rw [e, List.length_cons]
    omega
theorem cnt_nt {runs : List Int} {b : Int} (h : ∀ r ∈ runs, 0 ≤ r) : (stOf runs b).cnt.sum = (stOf runs b).nt := by
  have := sum_cnt runs h []
  simp only [List.sum_nil, Int.zero_add] at this
  exact this
theorem less_iff {r1 r2 : List Int} {b1 b2 : Int} (h1 : ∀ r ∈ r1, 0 ≤ r) (h2 : ∀ r ∈ r2, 0 ≤ r) (hb1 : 0 ≤ b1) (hb2 : 0 ≤ b2) :
    LessP (stOf r1 b1) (stOf r2 b2) ↔ ∀ z ∈ rangeKs 1 (topOf (stOf r1 b1) (stOf r2 b2)).toNat, level (stOf r1 b1) z < level (stOf r2 b2) z := by
  have htop : 1 ≤ topOf (stOf r1 b1) (stOf r2 b2) ∧ b1 + 1 ≤ topOf (stOf r1 b1) (stOf r2 b2) ∧ b2 + 1 ≤ topOf (stOf r1 b1) (stOf r2 b2) := by
    unfold topOf longest
    have e1 : (stOf r1 b1).b = b1 := rfl
    have e2 : (stOf r2 b2).b = b2 := rfl
    rw [e1, e2]
    omega
  unfold LessP
  rw [← level_one h1, ← level_one h2]
  generalize topOf (stOf r1 b1) (stOf r2 b2) = top at htop
  obtain ⟨t1, t2, t3⟩ := htop
  by_cases hs : (stOf r1 b1).cnt.length ≤ 1 ∧ (stOf r2 b2).cnt.length ≤ 1
  · rw [if_pos hs]
    constructor
    · rintro ⟨g1, g2⟩ z hz
      have hz' := mem_rangeKs hz
      rw [simple_level h1 hs.1 (by omega), simple_level h2 hs.2 (by omega)] at g1 ⊢
      have : (z - 1) * (stOf r1 b1).nt ≤ (z - 1) * (stOf r2 b2).nt := Int.mul_le_mul_of_nonneg_left g2 (by omega)
      rw [Int.sub_mul, Int.sub_mul] at this
      omega
    · intro g
      have g1 := g 1 (mem_rangeKs_of (Int.le_refl _) (by omega))
      have g2 := g top (mem_rangeKs_of (by omega) (by omega))
      refine ⟨g1, ?_⟩
      rw [simple_level h1 hs.1 (by omega), simple_level h2 hs.2 (by omega)] at g2
      apply Classical.byContradiction
      intro hn
      have hn' : (stOf r2 b2).nt + 1 ≤ (stOf r1 b1).nt := by omega
      have : top * ((stOf r2 b2).nt + 1) ≤ top * (stOf r1 b1).nt := Int.mul_le_mul_of_nonneg_left hn' (by omega)
      rw [Int.mul_add] at this
      omega
  · rw [if_neg hs]
    constructor
    · rintro ⟨g1, g2⟩ z hz
      have hz' := mem_rangeKs hz
      by_cases e : z = 1
      · subst e; exact g1
      · exact g2 z (mem_rangeKs_of (by omega) (by omega))
    · intro g
      refine ⟨g 1 (mem_rangeKs_of (Int.le_refl _) (by omega)), fun z hz => ?_⟩
      have hz' := mem_rangeKs hz
      exact g z (mem_rangeKs_of (by omega) (by omega))
theorem topOf_comm (S1 S2 : WS) : topOf S2 S1 = topOf S1 S2 := by unfold topOf; omega
theorem flt_yes {α β : Type} {l : List α} {p : α → Bool} {f : α → β} {i : Nat} {x : α} (h : l[i]? = some x) (hp : p x = true) : ((l.take (i + 1)).filter p).map f = ((l.take i).filter p).map f ++ [f x] := by
  rw [List.take_add_one, h, List.filter_append, List.map_append]
  simp [hp]
theorem flt_no {α β : Type} {l : List α} {p : α → Bool} {f : α → β} {i : Nat} {x : α} (h : l[i]? = some x) (hp : p x = false) : ((l.take (i + 1)).filter p).map f = ((l.take i).filter p).map f := by
  rw [List.take_add_one, h, List.filter_append, List.map_append]
  simp [hp]
theorem row_at {S1 S2 : WS} {l : List Int} {i : Nat} {d : Dat} (h : ((l.map (rowAt S1 S2)).map rowD)[i]? = some d) : ∃ z, l[i]? = some z ∧ d = rowD (z, level S1 z, level S2 z) := by
  rw [List.getElem?_map, List.getElem?_map] at h
  cases e : l[i]? with
  | none => rw [e] at h; cases h
  | some z => rw [e] at h; cases h; exact ⟨z, rfl, rfl⟩
theorem okRows (l : List (Int × Int × Int)) : kqdOk 9 (.list (l.map rowD)) = true := by
  unfold kqdOk
  rw [List.all_eq_true]
  intro d hd
  obtain ⟨r, _, rfl⟩ := List.mem_map.mp hd
  rfl
theorem ne_self {b : Bool} {d : Dat} (h : b = true ↔ d ≠ d) : b = false := by
  cases b with
  | false => rfl
  | true => exact absurd rfl (h.mp rfl)
end
section
section
variable {prog : Program} {w : World} {A : Around} {h₀ : Heap} {L : Addr} {m : Str → Option Value} {env : Env} {ct elt : PySem.Expr} {x : Str} {scope : Scope} {cl : List (Str × Addr)} {s : Shared} {S : Led → Prop} {P : Nat → Value → Prop} {Fin : List Value → Led → Prop} {news : Led}
end
theorem datInt_inv {tups : Led} {v : Value} {n : Int} (h : DatIn tups v (.int n)) : ∃ t, v = .int n t := by
  cases h; exact ⟨_, rfl⟩
theorem datCons_inv {tups : Led} {vs : List Value} {d : Dat} {ds : List Dat} (h : DatAll tups vs (d :: ds)) : ∃ v vs', vs = v :: vs' ∧ DatIn tups v d ∧ DatAll tups vs' ds := by
  cases h with
  | cons h1 h2 => exact ⟨_, _, rfl, h1, h2⟩
theorem datNil_inv {tups : Led} {vs : List Value} (h : DatAll tups vs []) : vs = [] := by
  cases h; rfl
theorem datTup_inv {tups : Led} {v : Value} {ds : List Dat} (h : DatIn tups v (.tuple ds)) : ∃ ad n vs, v = .ref ad ∧ (ad, ({ cls := .type "tuple", data := .seq vs.toArray n } : Obj)) ∈ tups ∧ DatAll tups vs ds := by
  cases h with
  | tuple hm hd => exact ⟨_, _, _, rfl, hm, hd⟩
theorem row_open {tups : Led} {v : Value} {z a b : Int} (h : DatIn tups v (rowD (z, a, b))) : ∃ ad n t1 t2 t3, v = .ref ad ∧ (ad, ({ cls := .type "tuple", data := .seq #[.int z t1, .int a t2, .int b t3] n } : Obj)) ∈ tups := by
  obtain ⟨ad, n, vs, e, hm, d0⟩ := datTup_inv h
  obtain ⟨v1, vs1, rfl, h1, d1⟩ := datCons_inv d0
  obtain ⟨v2, vs2, rfl, h2, d2⟩ := datCons_inv d1
  obtain ⟨v3, vs3, rfl, h3, d3⟩ := datCons_inv d2
  obtain ⟨t1, rfl⟩ := datInt_inv h1
  obtain ⟨t2, rfl⟩ := datInt_inv h2
  obtain ⟨t3, rfl⟩ := datInt_inv h3
  have e0 := datNil_inv d3
  subst e0
  exact ⟨ad, n, t1, t2, t3, e, hm⟩
theorem datGet {tups : Led} {vs : List Value} {ds : List Dat} (h : DatAll tups vs ds) {i : Nat} {v : Value} (hv : vs.toArray[i]? = some v) : ∃ d, ds[i]? = some d ∧ DatIn tups v d := by
  have h' : vs[i]? = some v := by simpa using hv
  have hl : i < ds.length := by rw [← h.length]; exact (List.getElem?_eq_some_iff.mp h').1
  obtain ⟨v', e, hd⟩ := h.get hl
  rw [h'] at e
  cases e
  exact ⟨ds[i], by simp [hl], hd⟩
end
section
/-! the shares -/
noncomputable def shStep (shares : List Int) (t : Int) (share d : Int) : Int := if t.fmod d = 0 then share.fdiv (shares.getD d.toNat 0) else share
noncomputable def shNew (shares : List Int) (t : Int) : Int := (stepKs 1 1 (t - 1).toNat).foldl (shStep shares t) (10000 ^ t.toNat - 1)
noncomputable def shAdd (shares : List Int) (t : Int) : List Int := shares ++ [shNew shares t]
noncomputable def shL (n : Nat) : List Int := (stepKs 1 1 n).foldl shAdd [1]
noncomputable def shareF (z : Int) : Int := (shL z.toNat).getD z.toNat 0
noncomputable def SH : List Int := shL 12
theorem shL_succ (n : Nat) : shL (n + 1) = shAdd (shL n) ((n : Int) + 1) := by
  unfold shL
  rw [stepKs_succ, List.foldl_append, List.foldl_cons, List.foldl_nil]
  have e : (1 : Int) + (n : Int) * 1 = (n : Int) + 1 := by omega
  rw [e]
theorem shL_len : ∀ n : Nat, (shL n).length = n + 1
  | 0 => rfl
  | n + 1 => by rw [shL_succ, shAdd, List.length_append, shL_len n]; rfl
theorem shL_ok : ∀ n ∈ List.range 13, ∀ x ∈ shL n, 0 < x ∧ x < 2 ^ 200 := by decide +kernel
theorem share_is : ∀ n ∈ List.range 13, shareF (n : Int) = SH.getD n 0 := by decide +kernel

/-! the exponent and the book -/
noncomputable def expZ (a b c z : Int) : Int := (a + b + c).fdiv z - a.fdiv z - b.fdiv z - c.fdiv z
noncomputable def Mq (a b c : Int) : Int := (stepKs 1 1 12).foldl (fun p z => p * SH.getD z.toNat 0 ^ (expZ a b c z).toNat) 1
noncomputable def nums5 : List Int := [0, 1, 2, 3, 4]
theorem mem5 {a : Int} (h0 : 0 ≤ a) (h1 : a ≤ 4) : a ∈ nums5 := by
  have : a = 0 ∨ a = 1 ∨ a = 2 ∨ a = 3 ∨ a = 4 := by omega
  rcases this with rfl | rfl | rfl | rfl | rfl <;> decide
noncomputable def waysZ (a b c : Int) : Int := (if a > 0 then Mq (a - 1) b c * 10000 ^ (b + c).toNat else 0) + (if b > 0 then Mq a (b - 1) c * 10000 ^ c.toNat else 0) + (if c > 0 then Mq a b (c - 1) else 0)
theorem Mq_rec : ∀ a ∈ nums5, ∀ b ∈ nums5, ∀ c ∈ nums5, Mq a b c = max 1 (waysZ a b c) := by decide +kernel
theorem Mq_bd : ∀ a ∈ nums5, ∀ b ∈ nums5, ∀ c ∈ nums5, 1 ≤ Mq a b c ∧ Mq a b c < 2 ^ 1000 := by decide +kernel
theorem exp_nn : ∀ a ∈ nums5, ∀ b ∈ nums5, ∀ c ∈ nums5, ∀ z ∈ stepKs 1 1 12, 0 ≤ expZ a b c z ∧ expZ a b c z ≤ 12 := by decide +kernel
theorem Mq_one : ∀ a ∈ nums5, ∀ b ∈ nums5, ∀ c ∈ nums5, (Mq a b c = 1 ↔ ∀ z ∈ stepKs 1 1 12, expZ a b c z = 0) := by decide +kernel
theorem Mq_lone : ∀ a ∈ nums5, ∀ b ∈ nums5, ∀ c ∈ nums5, (Mq a b c = 1 ↔ (a = 0 ∧ b = 0) ∨ (a = 0 ∧ c = 0) ∨ (b = 0 ∧ c = 0)) := by decide +kernel
end
section
section
variable {prog : Program} {w : World} {A : Around} {E : Value → Shared → Prop} {s : Shared} {env : Env} {h₀ : Heap} {x : PySem.Str} {body : List Stmt} {Q : Flow → Shared → Prop}
noncomputable abbrev l1S' (M : Addr) (rest : Led) (x : Str) (stored : List Str) (m₀ : Str → Option Value) (P : List Int → List Int → Prop) (pre : List Int) : (Str → Option Value) → Led → Prop :=
  KstS (σ := LS1) (fun c => (M, W.listOf c.vs.toArray c.ep) :: rest) (fun _ => []) (fun c => IntsAre c.vs c.ns) x stored m₀ (fun pre c => P pre c.ns) pre
/-- a range whose turn changes a list of ints and stores names -/
theorem rangeLs {r : Addr} {a₀ b₀ c₁ : Int} {t₀ u₀ v₀ : Tok} {n : Nat} {m₀ : PySem.Str → Option Value} {M : Addr} {rest : Led} {vs₀ : List Value} {ns₀ : List Int} {ep₀ : Nat} (stored : List Str) (P : List Int → List Int → Prop)
    (hh : A.handled = none) (hr : IsRange s.heap r a₀ b₀ c₁ t₀ u₀ v₀) (hsm : Builtin.Range.small a₀ b₀ c₁ = true) (hsz : Builtin.Range.rangeSize a₀ b₀ c₁ = (n : Int)) (F : Fr h₀ env.locals s.heap m₀) (N : News h₀ env.locals s.heap ((M, W.listOf vs₀.toArray ep₀) :: rest)) (hi : IntsAre vs₀ ns₀) (hp : P [] ns₀)
    (turn : ∀ (vs : List Value) (ns : List Int) (ep : Nat) (i : Nat) t (u : Str → Option Value) h tk own, i < n → OwnOff own (M :: rest.map (·.1)) → IntsAre vs ns → P (stepKs a₀ c₁ i) ns →
      Fr h₀ env.locals h (fun y => if y = x then some (.int (a₀ + (i : Int) * c₁) t) else if stored.contains y then u y else m₀ y) → News h₀ env.locals h ((M, W.listOf vs.toArray ep) :: (rest ++ own)) →
      wpAny (model prog w) A (execs body env) (InvPostG h₀ env.locals (l1S' M rest x stored m₀ P (stepKs a₀ c₁ i ++ [a₀ + (i : Int) * c₁])) own { s with heap := h, toks := tk } Q) E { s with heap := h, toks := tk })
    (done : ∀ (vs : List Value) (ns : List Int) (ep : Nat) (u : PySem.Str → Option Value) h tk, IntsAre vs ns → P (stepKs a₀ c₁ n) ns → Fr h₀ env.locals h (fun y => if y = x then u y else if stored.contains y then u y else m₀ y) → News h₀ env.locals h ((M, W.listOf vs.toArray ep) :: rest) → Q .next { s with heap := h, toks := tk }) :
    wpAny (model prog w) A (pyIter (.ref r)) (fun it s₂ => LoopAtV prog w A h₀ env x body Q E it s₂) E s := by
  refine rangeC (σ := LS1) (fun c => (M, W.listOf c.vs.toArray c.ep) :: rest) (fun _ => []) (fun c => IntsAre c.vs c.ns) stored (fun pre c => P pre c.ns) ⟨vs₀, ns₀, ep₀⟩ hh hr hsm hsz F N hi (fun _ h => (nomatch h)) hp ?_ ?_
  · rintro ⟨vs, ns, ep⟩ i t u h tk own hi hoff hf hp' F' N'
    exact turn vs ns ep i t u h tk own hi (by simpa using hoff) hf hp' F' N'
  · rintro ⟨vs, ns, ep⟩ u h tk hf hp' F' N'
    exact done vs ns ep u h tk hf hp' F' N'
theorem endLs {M : Addr} {rest : Led} {stored : List Str} {m₀ : Str → Option Value} {P : List Int → List Int → Prop} {pre : List Int} {L : Addr} {m' : Str → Option Value} {own news' : Led} {s₁ : Shared} {h' : Heap} {tk : Nat} {vs : List Value} {ns : List Int} {ep : Nat}
    (F : Fr h₀ L h' m') (N : News h₀ L h' news') (hm : (M, W.listOf vs.toArray ep) ∈ news') (hi : IntsAre vs ns) (hp : P pre ns) (hn : ∀ p ∈ rest, p ∈ news') (ho : ∀ p ∈ own, p ∈ news') (ha : OwnOff own (M :: rest.map (·.1))) (hr : ∀ z, z ≠ x → stored.contains z = false → m' z = m₀ z) :
    InvEndG h₀ L (l1S' M rest x stored m₀ P pre) own s₁ { s₁ with heap := h', toks := tk } :=
  endG (σ := LS1) (Led := fun c => (M, W.listOf c.vs.toArray c.ep) :: rest) (ps := fun _ => []) (Facts := fun c => IntsAre c.vs c.ns) ⟨vs, ns, ep⟩ F N (List.forall_mem_cons.mpr ⟨hm, hn⟩) ho ha hi (fun _ h => (nomatch h)) (fun z h1 _ h3 => hr z h1 h3) hp
/-- a range by steps whose turn changes one int -/
theorem rangeIc {r : Addr} {a₀ b₀ c₁ : Int} {t₀ u₀ v₀ : Tok} {n : Nat} {m₀ : PySem.Str → Option Value} {news : Led} {il₀ : Int} {tl₀ : Tok} (y : Str) (P : List Int → Int → Prop)
    (hh : A.handled = none) (hr : IsRange s.heap r a₀ b₀ c₁ t₀ u₀ v₀) (hsm : Builtin.Range.small a₀ b₀ c₁ = true) (hsz : Builtin.Range.rangeSize a₀ b₀ c₁ = (n : Int)) (F : Fr h₀ env.locals s.heap m₀) (N : News h₀ env.locals s.heap news) (hy : m₀ y = some (.int il₀ tl₀)) (hp : P [] il₀)
    (turn : ∀ (il : Int) (tl : Tok) (i : Nat) t h tk own, i < n → OwnOff own (news.map (·.1)) → P (stepKs a₀ c₁ i) il →
      Fr h₀ env.locals h (fun z => if z = x then some (.int (a₀ + (i : Int) * c₁) t) else if z = y then some (.int il tl) else m₀ z) → News h₀ env.locals h (news ++ own) →
      wpAny (model prog w) A (execs body env) (InvPostG h₀ env.locals (oneS news x y m₀ P (stepKs a₀ c₁ i ++ [a₀ + (i : Int) * c₁])) own { s with heap := h, toks := tk } Q) E { s with heap := h, toks := tk })
    (done : ∀ (il : Int) (tl : Tok) (u : PySem.Str → Option Value) h tk, P (stepKs a₀ c₁ n) il → Fr h₀ env.locals h (fun z => if z = x then u z else if z = y then some (.int il tl) else m₀ z) → News h₀ env.locals h news → Q .next { s with heap := h, toks := tk }) :
    wpAny (model prog w) A (pyIter (.ref r)) (fun it s₂ => LoopAtV prog w A h₀ env x body Q E it s₂) E s := by
  refine rangeC (σ := Int × Tok) (fun _ => news) (fun c => [(y, .int c.1 c.2)]) (fun _ => True) [] (fun pre c => P pre c.1) (il₀, tl₀) hh hr hsm hsz F N trivial (by intro p hp; rw [List.mem_singleton.mp hp]; exact hy) hp ?_ ?_
  · rintro ⟨il, tl⟩ i t u h tk own hi hoff _ hp' F' N'
    exact turn il tl i t h tk own hi hoff hp' F' N'
  · rintro ⟨il, tl⟩ u h tk _ hp' F' N'
    exact done il tl u h tk hp' F' N'
end
theorem noPy {y : Int} (h0 : 0 < y) (h1 : y < 2 ^ 200) (x : Int) : Builtin.divisionGoesByPylong x y = false := by
  refine PyProof.noPylong_of_log2 ?_
  have h : y.natAbs < 2 ^ 200 := by omega
  have : y.natAbs.log2 < 200 := (Nat.log2_lt (by omega)).mpr h
  omega
theorem shL_at {n : Nat} (hn : n < 13) {j : Nat} (hj : j < n + 1) : 0 < (shL n).getD j 0 ∧ (shL n).getD j 0 < 2 ^ 200 := by
  have hl : j < (shL n).length := by rw [shL_len]; exact hj
  rw [List.getD_eq_getElem?_getD, List.getElem?_eq_getElem hl]
  exact shL_ok n (List.mem_range.mpr hn) _ (List.getElem_mem hl)
theorem share_ctr {w mean mg mb} (news : Led) (size : Int) (u : Tok) (h0 : 0 ≤ size) (h1 : size ≤ 12) :
    Ctr w mean mg mb 1 (.ref 94) [.int size u] news (fun r news' => (∃ t, r = .int (shareF size) t) ∧ news' = news) := by
  unfold Ctr
  w_top off
  k_with_none
  k_fill
  intro dp un gd cn cs a ccd cl outer A₀ base h₀ L m s Q E B F X N T hk hd hu hret
  refine wpAny_call ?_
  k_dflt cell_enter
  have hStop : StopAt "pyIter ref" := ⟨⟩
  k_steps
  refine Stop.mk ?_
  rename Fr _ _ _ _ => lF
  rename News _ _ _ _ => lN
  rename IsRange _ _ _ _ _ _ _ _ => lR
  have kMk := kstMark
  with_unfolding_all refine rangeLs (n := size.toNat) [Str.ofString "share", Str.ofString "d"] (fun pre ns => ns = pre.foldl shAdd [1]) rfl lR (small_one (by decide) (by decide) (by omega) (by omega)) (by rw [rangeSize_one]; split <;> omega) lF lN (IntsAre.cons 1 _ .nil) rfl ?turn ?done
  case turn =>
    clear lF lN lR
    intro vs shares ep i ti u h tok own hin hoff hi1 hp F1 N1
    replace hp : shares = shL i := hp
    try simp only [List.nil_append, List.cons_append, List.append_nil] at N1
    generalize hk9 : (1 + (i : Int) * 1 : Int) = k at F1
    have hk0 : 1 ≤ k := by omega
    have hk1 : k ≤ 12 := by omega
    have hcl := hi1.length
    have hsl : shares.length = i + 1 := by rw [hp, shL_len]
    (try k_fold)
    have hStop : StopAt "pyIter ref" := ⟨⟩
    k_steps
    refine Stop.mk ?_
    rename Fr _ _ _ _ => lF
    rename News _ _ _ _ => lN
    rename IsRange _ _ _ _ _ _ _ _ => lR
    with_unfolding_all refine rangeIc (n := (k - 1).toNat) (Str.ofString "share") (fun pre sh => sh = pre.foldl (shStep shares k) (10000 ^ k.toNat - 1)) rfl lR (small_one (by decide) (by decide) (by omega) (by omega)) (by rw [rangeSize_one]; split <;> omega) lF lN rfl rfl ?turn2 ?done2
    case turn2 =>
      clear lF lN lR
      intro sh tl j td h2 tok2 own2 hjn hoff2 hp2 F2 N2
      try simp only [List.nil_append, List.cons_append, List.append_nil] at N2
      generalize hd9 : (1 + (j : Int) * 1 : Int) = d at F2
      have hd0 : 1 ≤ d := by omega
      have hd1 : d < k := by omega
      have hpos := shL_at (n := i) (by omega) (j := d.toNat) (by omega)
      rw [← hp] at hpos
      (try k_fold)
      have hStop : StopAt "binaryOp FloorDiv int int" := ⟨⟩
      k_steps
      case _ =>
        refine Stop.mk ?_
        refine floordiv_int (by omega) ?_ (.inl (noPy hpos.1 hpos.2 _))
        k_steps
        rename Fr _ _ _ _ => eF
        rename News _ _ _ _ => eN
        rename (k.fmod d = 0) => e5
        with_unfolding_all refine' endI eF rfl eN ?hp ?hn ?ho ?ha ?hr
        case hp => rw [List.foldl_append, ← hp2, List.foldl_cons, List.foldl_nil, shStep, if_pos e5]
        case hn => kst_anyIn
        case ho => kst_anyIn
        case ha => exact hoff2
        case hr => intro z z1 z2; simp [z1, z2]
      case _ =>
        rename Fr _ _ _ _ => eF
        rename News _ _ _ _ => eN
        rename (k.fmod d ≠ 0) => e5
        with_unfolding_all refine' endI eF rfl eN ?hp ?hn ?ho ?ha ?hr
        case hp => rw [List.foldl_append, ← hp2, List.foldl_cons, List.foldl_nil, shStep, if_neg e5]
        case hn => kst_anyIn
        case ho => kst_anyIn
        case ha => exact hoff2
        case hr => intro z z1 z2; simp [z1, z2]
    case done2 =>
      clear lF lN lR
      intro sh tl u2 h2 tok2 hp2 F2 N2
      try dsimp only
      (try k_fold)
      k_steps
      rename Fr _ _ _ _ => eF
      rename News _ _ _ _ => eN
      try simp only [List.push_toArray] at eN
      with_unfolding_all refine' endLs eF eN ?hm ?hi ?hp ?hn ?ho ?ha ?hr
      case hm => k_mem
      case hi => exact ints_snoc hi1
      case hp =>
        show _ = List.foldl shAdd [1] (_ ++ [_])
        have e : List.foldl shAdd [1] (stepKs 1 1 i) = shares := hp.symm
        rw [List.foldl_append, List.foldl_cons, List.foldl_nil, e, shAdd, shNew, ← hp2]
      case hn => kst_anyIn
      case ho => kst_anyIn
      case ha => exact hoff
      case hr =>
        intro z z1 z3
        simp only [List.contains_cons, List.contains_nil, Bool.or_false, Bool.or_eq_false_iff, beq_eq_false_iff_ne, ne_eq] at z3
        simp [z1, z3]
  case done =>
    clear lF lN lR
    intro vs shares ep u h tok hi1 hp F1 N1
    replace hp : shares = shL size.toNat := hp
    have hcl := hi1.length
    have hsl : shares.length = size.toNat + 1 := by rw [hp, shL_len]
    try dsimp only
    (try k_fold)
    have hStop : StopAt "subscriptTail Name Name ref int" := ⟨⟩
    k_steps
    refine Stop.mk ?_
    with_unfolding_all refine' itemL ?k1 ?k2 ?k3 ?k4 ?k5 ?k6 ?_ ?k8
    case k1 => k_asm
    case k2 => k_mem
    case k3 => exact hi1
    case k4 => omega
    case k5 => omega
    case k6 => omega
    case k8 => with_unfolding_all rfl
    intro t8
    k_steps
    rename Fr _ _ _ _ => eF
    rename News _ _ _ _ => eN
    refine hret _ _ _ _ ⟨⟨_, congrArg (Value.int · _) ?_⟩, rfl⟩ eF (newsSub eN (by kst_anyIn))
    rw [hp]
    rfl
noncomputable abbrev PD := List (PyData × PyData)
/-! the book: what the dict bears -/
structure BookInv (B C i j k : Int) (D : PD) : Prop where
  has : ∀ a b c : Int, 0 ≤ a → 0 ≤ b → b ≤ B → 0 ≤ c → c ≤ C → (a < i ∨ (a = i ∧ (b < j ∨ (b = j ∧ c < k)))) → lookup (.int (100 * a + 10 * b + c)) D = some (.int (Mq a b c))
  len : (D.length : Int) ≤ 25 * i + 5 * j + k
theorem BookInv.nil (B C : Int) : BookInv B C 0 0 0 [] := ⟨fun a b c h1 h2 _ h4 _ h => by omega, Int.le_refl _⟩
theorem BookInv.nextC {B C i j : Int} {D : PD} (hC0 : 0 ≤ C) (hC : C ≤ 4) (h : BookInv B C i j (C + 1) D) : BookInv B C i (j + 1) 0 D :=
  ⟨fun a b c h1 h2 h3 h4 h5 h6 => h.has a b c h1 h2 h3 h4 h5 (by omega), by have := h.len; omega⟩
theorem BookInv.nextB {B C i : Int} {D : PD} (hB : B ≤ 4) (h : BookInv B C i (B + 1) 0 D) : BookInv B C (i + 1) 0 0 D :=
  ⟨fun a b c h1 h2 h3 h4 h5 h6 => h.has a b c h1 h2 h3 h4 h5 (by omega), by have := h.len; omega⟩
theorem BookInv.put {B C i j k v : Int} {D : PD} (hi : 0 ≤ i) (hj : 0 ≤ j) (hk : 0 ≤ k) (hB : B ≤ 4) (hC : C ≤ 4) (hjB : j ≤ B) (hkC : k ≤ C) (h : BookInv B C i j k D) (hv : v = Mq i j k) : BookInv B C i j (k + 1) (putD (.int (100 * i + 10 * j + k)) (.int v) D) := by
  refine ⟨fun a b c h1 h2 h3 h4 h5 h6 => ?_, ?_⟩
  · rw [lookup_putD_int]
    by_cases e : a = i ∧ b = j ∧ c = k
    · obtain ⟨rfl, rfl, rfl⟩ := e
      rw [if_pos rfl, hv]
    · rw [if_neg (by omega)]
      exact h.has a b c h1 h2 h3 h4 h5 (by omega)
  · have := putD_length_le (.int (100 * i + 10 * j + k)) (.int v) D
    have := h.len
    omega
theorem BookInv.gA {B C i j k : Int} {D : PD} (h : BookInv B C i j k D) (hj : 0 ≤ j ∧ j ≤ B) (hk : 0 ≤ k ∧ k ≤ C) (hi : 0 < i) : lookup (.int (100 * (i - 1) + 10 * j + k)) D = some (.int (Mq (i - 1) j k)) :=
  h.has (i - 1) j k (by omega) hj.1 hj.2 hk.1 hk.2 (.inl (by omega))
theorem BookInv.gB {B C i j k : Int} {D : PD} (h : BookInv B C i j k D) (hi : 0 ≤ i) (hj : 0 ≤ j ∧ j ≤ B) (hk : 0 ≤ k ∧ k ≤ C) (h0 : 0 < j) : lookup (.int (100 * i + 10 * (j - 1) + k)) D = some (.int (Mq i (j - 1) k)) :=
  h.has i (j - 1) k hi (by omega) (by omega) hk.1 hk.2 (.inr ⟨rfl, .inl (by omega)⟩)
theorem BookInv.gC {B C i j k : Int} {D : PD} (h : BookInv B C i j k D) (hi : 0 ≤ i) (hj : 0 ≤ j ∧ j ≤ B) (hk : 0 ≤ k ∧ k ≤ C) (h0 : 0 < k) : lookup (.int (100 * i + 10 * j + k - 1)) D = some (.int (Mq i j (k - 1))) := by
  have e := h.has i j (k - 1) hi hj.1 hj.2 (by omega) (by omega) (.inr ⟨rfl, .inr ⟨rfl, by omega⟩⟩)
  have e2 : 100 * i + 10 * j + (k - 1) = 100 * i + 10 * j + k - 1 := by omega
  rw [← e2]
  exact e
structure DB where
  o : Obj
  kvs : List (Int × Value)
  D : PD
section
variable {prog : Program} {w : World} {A : Around} {E : Value → Shared → Prop} {s : Shared} {env : Env} {h₀ : Heap} {x : PySem.Str} {body : List Stmt} {Q : Flow → Shared → Prop}
noncomputable abbrev dbF (prog : Program) (w : World) (c : DB) : Prop := c.o.IsDictOf (intKind prog w) c.kvs ∧ FlatPairs PyData.int c.kvs c.D
noncomputable abbrev dbS (prog : Program) (w : World) (d : Addr) (rest : Led) (x : Str) (stored : List Str) (m₀ : Str → Option Value) (P : List Int → PD → Prop) (pre : List Int) : (Str → Option Value) → Led → Prop :=
  KstS (σ := DB) (fun c => (d, c.o) :: rest) (fun _ => []) (dbF prog w) x stored m₀ (fun pre c => P pre c.D) pre
/-- a range whose turn writes a dict of ints -/
theorem rangeDB {r : Addr} {a₀ b₀ c₁ : Int} {t₀ u₀ v₀ : Tok} {n : Nat} {m₀ : PySem.Str → Option Value} {d : Addr} {rest : Led} {o₀ : Obj} {kvs₀ : List (Int × Value)} {D₀ : PD} (stored : List Str) (P : List Int → PD → Prop)
    (hh : A.handled = none) (hr : IsRange s.heap r a₀ b₀ c₁ t₀ u₀ v₀) (hsm : Builtin.Range.small a₀ b₀ c₁ = true) (hsz : Builtin.Range.rangeSize a₀ b₀ c₁ = (n : Int)) (F : Fr h₀ env.locals s.heap m₀) (N : News h₀ env.locals s.heap ((d, o₀) :: rest)) (hd : o₀.IsDictOf (intKind prog w) kvs₀) (hf : FlatPairs PyData.int kvs₀ D₀) (hp : P [] D₀)
    (turn : ∀ (o : Obj) (kvs : List (Int × Value)) (D : PD) (i : Nat) t (u : Str → Option Value) h tk own, i < n → OwnOff own (d :: rest.map (·.1)) → o.IsDictOf (intKind prog w) kvs → FlatPairs PyData.int kvs D → P (stepKs a₀ c₁ i) D →
      Fr h₀ env.locals h (fun y => if y = x then some (.int (a₀ + (i : Int) * c₁) t) else if stored.contains y then u y else m₀ y) → News h₀ env.locals h ((d, o) :: (rest ++ own)) →
      wpAny (model prog w) A (execs body env) (InvPostG h₀ env.locals (dbS prog w d rest x stored m₀ P (stepKs a₀ c₁ i ++ [a₀ + (i : Int) * c₁])) own { s with heap := h, toks := tk } Q) E { s with heap := h, toks := tk })
    (done : ∀ (o : Obj) (kvs : List (Int × Value)) (D : PD) (u : PySem.Str → Option Value) h tk, o.IsDictOf (intKind prog w) kvs → FlatPairs PyData.int kvs D → P (stepKs a₀ c₁ n) D → Fr h₀ env.locals h (fun y => if y = x then u y else if stored.contains y then u y else m₀ y) → News h₀ env.locals h ((d, o) :: rest) → Q .next { s with heap := h, toks := tk }) :
    wpAny (model prog w) A (pyIter (.ref r)) (fun it s₂ => LoopAtV prog w A h₀ env x body Q E it s₂) E s := by
  refine rangeC (σ := DB) (fun c => (d, c.o) :: rest) (fun _ => []) (dbF prog w) stored (fun pre c => P pre c.D) ⟨o₀, kvs₀, D₀⟩ hh hr hsm hsz F N ⟨hd, hf⟩ (fun _ h => (nomatch h)) hp ?_ ?_
  · rintro ⟨o, kvs, D⟩ i t u h tk own hi hoff hf hp' F' N'
    exact turn o kvs D i t u h tk own hi (by simpa using hoff) hf.1 hf.2 hp' F' N'
  · rintro ⟨o, kvs, D⟩ u h tk hf hp' F' N'
    exact done o kvs D u h tk hf.1 hf.2 hp' F' N'
theorem endDB {d : Addr} {rest : Led} {stored : List Str} {m₀ : Str → Option Value} {P : List Int → PD → Prop} {pre : List Int} {L : Addr} {m' : Str → Option Value} {own news' : Led} {s₁ : Shared} {h' : Heap} {tk : Nat} {o : Obj} {kvs : List (Int × Value)} {D : PD}
    (F : Fr h₀ L h' m') (N : News h₀ L h' news') (hm : (d, o) ∈ news') (hd : o.IsDictOf (intKind prog w) kvs) (hf : FlatPairs PyData.int kvs D) (hp : P pre D) (hn : ∀ p ∈ rest, p ∈ news') (ho : ∀ p ∈ own, p ∈ news') (ha : OwnOff own (d :: rest.map (·.1))) (hr : ∀ z, z ≠ x → stored.contains z = false → m' z = m₀ z) :
    InvEndG h₀ L (dbS prog w d rest x stored m₀ P pre) own s₁ { s₁ with heap := h', toks := tk } :=
  endG (σ := DB) (Led := fun c => (d, c.o) :: rest) (ps := fun _ => []) (Facts := dbF prog w) ⟨o, kvs, D⟩ F N (List.forall_mem_cons.mpr ⟨hm, hn⟩) ho ha ⟨hd, hf⟩ (fun _ h => (nomatch h)) (fun z h1 _ h3 => hr z h1 h3) hp
end
structure WaysEnd (h₀ : Heap) (L : Addr) (m : Str → Option Value) (B : Led) (y : Str) (v : Int) (s : Shared) (f : Flow) (s' : Shared) : Prop where
  out : f = .next ∧ ∃ h tk t, s' = { s with heap := h, toks := tk } ∧ Fr h₀ L h (fun z => if z = y then some (.int v t) else m z) ∧ News h₀ L h B
theorem WaysEnd.of {h₀ h : Heap} {L : Addr} {m m' : Str → Option Value} {B nn : Led} {y : Str} {v v' : Int} {t : Tok} {s : Shared} {tk : Nat} (F : Fr h₀ L h m') (N : News h₀ L h nn) (hy : m' y = some (.int v' t)) (hv : v' = v) (hr : ∀ z, z ≠ y → m' z = m z) (hs : ∀ p ∈ B, p ∈ nn) : WaysEnd h₀ L m B y v s .next { s with heap := h, toks := tk } := by
  refine ⟨rfl, h, tk, t, rfl, ?_, newsSub N hs⟩
  have e : (fun z => if z = y then some (.int v t) else m z) = m' := by
    funext z
    by_cases hz : z = y
    · rw [if_pos hz, hz, hy, hv]
    · rw [if_neg hz, hr z hz]
  rw [e]; exact F
theorem ways_cut {prog : Program} {w : World} {A : Around} {E : Value → Shared → Prop} {s : Shared} {h₀ : Heap} {L : Addr} {m : Str → Option Value} {B : Led} {st : Stmt} {env : Env} {Q : Flow → Shared → Prop} (y : Str) (v : Int)
    (F : Fr h₀ L s.heap m) (N : News h₀ L s.heap B)
    (h1 : Fr h₀ L s.heap m → News h₀ L s.heap B → wpAny (model prog w) A (exec st env) (WaysEnd h₀ L m B y v s) (fun _ _ => False) s)
    (h2 : ∀ h tk t, Fr h₀ L h (fun z => if z = y then some (.int v t) else m z) → News h₀ L h B → Q .next { s with heap := h, toks := tk }) :
    wpAny (model prog w) A (exec st env) Q E s :=
  wpAny_mono (h1 F N) (fun f s' hm => by
    obtain ⟨rfl, h, tk, t, rfl, F, N⟩ := hm.out
    exact h2 h tk t F N) fun _ _ h => h.elim
theorem book_get {prog : Program} {w : World} {A : Around} {E : Value → Shared → Prop} {s : Shared} {h₀ : Heap} {L : Addr} {Q : Value → Shared → Prop} {news : Led} {value slice : PySem.Expr} {d : Addr} {o : Obj} {kvs : List (Int × Value)} {D : PD} {i v : Int} {t : Tok}
    (N : News h₀ L s.heap news) (hm : (d, o) ∈ news) (lo : (d == sysModules) = false) (hd : o.IsDictOf (intKind prog w) kvs) (hf : FlatPairs PyData.int kvs D) (hl : lookup (.int i) D = some (.int v)) (h : ∀ t', Q (.int v t') { s with toks := s.toks + 1 })
    (hs : subscripted slice false (.ref d) (.int i t) = operate [.ref d, .int i t] (getItem (.ref d) (.int i t)) := by with_unfolding_all rfl) (hg : ∀ r, letTemporaryGo value (.ref d) r = pure () := by intro _; with_unfolding_all rfl) :
    wpAny (model prog w) A (subscriptTail value slice (.ref d) (.int i t)) Q E s := by
  refine item_intTab (TabAt.ofNews N hm lo hd hf) hl (fun v' hv => ?_) hs hg
  cases hv s.heap with
  | int _ t' => exact h t'
theorem allLt_mem {d : Addr} : ∀ {l : Led}, AllLt d l → ∀ p ∈ l, p.1 < d
  | [], _, _, h => nomatch h
  | q :: l, h, p, hp => by
    rcases List.mem_cons.mp hp with rfl | hp
    · exact h.1
    · exact allLt_mem h.2 p hp
theorem mulBook {a b c n : Int} (ha : 0 ≤ a ∧ a ≤ 4) (hb : 0 ≤ b ∧ b ≤ 4) (hc : 0 ≤ c ∧ c ≤ 4) (hn : 0 ≤ n ∧ n ≤ 8) : IntMulOk (Mq a b c) (10000 ^ n.toNat) := by
  have h1 := Mq_bd a (mem5 ha.1 ha.2) b (mem5 hb.1 hb.2) c (mem5 hc.1 hc.2)
  refine mulOk_of_bits (m := 1000) (n := 14 * n.toNat + 1) (intBits_le_iff.mpr (by omega)) (intBits_pow_le (intBits_le_iff.mpr (by decide)) _) (by omega)
theorem mulA {a b c : Int} (ha : 0 ≤ a ∧ a ≤ 4) (hb : 0 ≤ b ∧ b ≤ 4) (hc : 0 ≤ c ∧ c ≤ 4) (h : 0 < a) : IntMulOk (Mq (a - 1) b c) (10000 ^ (b + c).toNat) := mulBook (by omega) hb hc (by omega)
theorem mulB {a b c : Int} (ha : 0 ≤ a ∧ a ≤ 4) (hb : 0 ≤ b ∧ b ≤ 4) (hc : 0 ≤ c ∧ c ≤ 4) (h : 0 < b) : IntMulOk (Mq a (b - 1) c) (10000 ^ c.toNat) := mulBook ha (by omega) hc (by omega)
theorem book_ctr {w mean mg mb} (news : Led) (l : Addr) (vs : List Value) (ep : Nat) (a b c : Int) (hm : (l, W.listOf vs.toArray ep) ∈ news) (hi : IntsAre vs [a, b, c]) (ha : 0 ≤ a ∧ a ≤ 4) (hb : 0 ≤ b ∧ b ≤ 4) (hc : 0 ≤ c ∧ c ≤ 4) :
    Ctr w mean mg mb 1 (.ref 87) [.ref l] news (fun r news' => (∃ t, r = .int (Mq a b c) t) ∧ news' = news) := by
  unfold Ctr
  w_top off
  k_with_none
  k_fill
  intro dp un gd cn cs a' ccd cl outer A₀ base h₀ L m s Q E B F X N T hk hd hu hret
  have N1 : News h₀ L s.heap ((l, W.listOf vs.toArray ep) :: news) := newsOf (a := [_]) N (by intro p hp; rw [List.mem_singleton.mp hp]; exact hm)
  clear N
  have hcl := hi.length
  have g0 : [a, b, c].getD (Int.toNat 0) 0 = a := rfl
  have g1 : [a, b, c].getD (Int.toNat 1) 0 = b := rfl
  have g2 : [a, b, c].getD (Int.toNat 2) 0 = c := rfl
  have g3 : [a, b, c].length = 3 := rfl
  refine wpAny_call ?_
  k_dflt cell_enter
  have hStop : StopAt "pyIter ref" := ⟨⟩
  k_steps
  refine Stop.mk ?_
  rename Fr _ _ _ _ => lF
  rename News _ _ _ _ => lN
  rename IsRange _ _ _ _ _ _ _ _ => lR
  rename Obj.IsDictOf (intKind _ _) _ _ => lD
  rename FlatPairs PyData.int _ _ => lP
  rename ((_ == sysModules) = false) => lS
  have kMk := kstMark
  with_unfolding_all refine rangeDB (n := (a + 1).toNat) [Str.ofString "b", Str.ofString "c", Str.ofString "ways"] (fun pre D => BookInv b c (pre.length : Int) 0 0 D) rfl lR (small_one (by decide) (by decide) (by omega) (by omega)) (by rw [rangeSize_one]; split <;> omega) lF lN lD lP (BookInv.nil b c) ?turn ?done
  case turn =>
    clear lF lN lR lD lP
    intro o kvs D i ti u h tok own hin hoff hdo hfo hp F1 N1
    replace hp : BookInv b c ((stepKs 0 1 i).length : Int) 0 0 D := hp
    rw [stepKs_len] at hp
    try simp only [List.nil_append, List.cons_append, List.append_nil] at N1
    generalize hi9 : (0 + (i : Int) * 1 : Int) = i' at F1
    have hi0 : (i : Int) = i' := by omega
    rw [hi0] at hp
    (try k_fold)
    have hStop : StopAt "pyIter ref" := ⟨⟩
    k_steps
    refine Stop.mk ?_
    rename Fr _ _ _ _ => lF
    rename News _ _ _ _ => lN
    rename IsRange _ _ _ _ _ _ _ _ => lR
    with_unfolding_all refine rangeDB (n := (b + 1).toNat) [Str.ofString "c", Str.ofString "ways"] (fun pre D => BookInv b c i' (pre.length : Int) 0 D) rfl lR (small_one (by decide) (by decide) (by omega) (by omega)) (by rw [rangeSize_one]; split <;> omega) lF lN hdo hfo hp ?turn2 ?done2
    case turn2 =>
      clear lF lN lR hdo hfo hp
      intro o kvs D j tj u2 h2 tok2 own2 hjn hoff2 hdo hfo hp F2 N2
      replace hp : BookInv b c i' ((stepKs 0 1 j).length : Int) 0 D := hp
      rw [stepKs_len] at hp
      try simp only [List.nil_append, List.cons_append, List.append_nil] at N2
      generalize hj9 : (0 + (j : Int) * 1 : Int) = j' at F2
      have hj0 : (j : Int) = j' := by omega
      rw [hj0] at hp
      (try k_fold)
      have hStop : StopAt "pyIter ref" := ⟨⟩
      k_steps
      refine Stop.mk ?_
      rename Fr _ _ _ _ => lF
      rename News _ _ _ _ => lN
      rename IsRange _ _ _ _ _ _ _ _ => lR
      with_unfolding_all refine rangeDB (n := (c + 1).toNat) [Str.ofString "ways"] (fun pre D => BookInv b c i' j' (pre.length : Int) D) rfl lR (small_one (by decide) (by decide) (by omega) (by omega)) (by rw [rangeSize_one]; split <;> omega) lF lN hdo hfo hp ?turn3 ?done3
      case turn3 =>
        clear lF lN lR hdo hfo hp
        intro o kvs D k tk u3 h3 tok3 own3 hkn hoff3 hdo hfo hp F3 N3
        replace hp : BookInv b c i' j' ((stepKs 0 1 k).length : Int) D := hp
        rw [stepKs_len] at hp
        try simp only [List.nil_append, List.cons_append, List.append_nil] at N3
        generalize hk9 : (0 + (k : Int) * 1 : Int) = k' at F3
        have hk0 : (k : Int) = k' := by omega
        rw [hk0] at hp
        have hI : 0 ≤ i' ∧ i' ≤ 4 := ⟨by omega, by omega⟩
        have hJ : 0 ≤ j' ∧ j' ≤ b := ⟨by omega, by omega⟩
        have hK : 0 ≤ k' ∧ k' ≤ c := ⟨by omega, by omega⟩
        have hJ4 : 0 ≤ j' ∧ j' ≤ 4 := ⟨hJ.1, Int.le_trans hJ.2 hb.2⟩
        have hK4 : 0 ≤ k' ∧ k' ≤ 4 := ⟨hK.1, Int.le_trans hK.2 hc.2⟩
        (try k_fold)
        have hStop : StopAt "exec If" := ⟨⟩
        k_steps
        refine Stop.mk ?_
        rename Fr _ _ _ _ => lF
        rename News _ _ _ _ => lN
        refine ways_cut (Str.ofString "ways") (0 + (if i' > 0 then Mq (i' - 1) j' k' * 10000 ^ (j' + k').toNat else 0)) lF lN ?w1 ?w2
        case w1 =>
          clear lF lN
          intro F4 N4
          have hget := hp.gA hJ hK
          have hStop : StopAt "subscriptTail Name BinOp ref int" := ⟨⟩
          k_steps
          case _ =>
            refine Stop.mk ?_
            dsimp only
            rename News _ _ _ _ => eN
            with_unfolding_all refine' book_get eN ?w1m lS hdo hfo ?w1g ?_
            case w1m => k_mem
            case w1g => exact hget (by assumption)
            intro t9
            have hmul := mulA hI hJ4 hK4 (by assumption)
            dsimp only
            k_steps
            rename Fr _ _ _ _ => eF
            rename News _ _ _ _ => eN
            refine WaysEnd.of eF eN rfl ?_ (by intro z hz; simp [hz]) (by kst_anyIn)
            rw [if_pos (show i' > 0 by assumption)]
          case _ =>
            rename Fr _ _ _ _ => eF
            rename News _ _ _ _ => eN
            refine WaysEnd.of eF eN rfl ?_ (by intro z hz; simp [hz]) (by kst_anyIn)
            rw [if_neg (show ¬ i' > 0 by omega)]
            try omega
        case w2 =>
          clear lF lN
          intro h5 tk5 t5 F5 N5
          have hStop : StopAt "exec If" := ⟨⟩
          k_steps
          refine Stop.mk ?_
          rename Fr _ _ _ _ => lF
          rename News _ _ _ _ => lN
          refine ways_cut (Str.ofString "ways") (0 + (if i' > 0 then Mq (i' - 1) j' k' * 10000 ^ (j' + k').toNat else 0) + (if j' > 0 then Mq i' (j' - 1) k' * 10000 ^ k'.toNat else 0)) lF lN ?w3 ?w4
          case w3 =>
            clear lF lN
            intro F6 N6
            have hget := hp.gB hI.1 hJ hK
            have hStop : StopAt "subscriptTail Name BinOp ref int" := ⟨⟩
            k_steps
            case _ =>
              refine Stop.mk ?_
              dsimp only
              rename News _ _ _ _ => eN
              with_unfolding_all refine' book_get eN ?w3m lS hdo hfo ?w3g ?_
              case w3m => k_mem
              case w3g => exact hget (by assumption)
              intro t9
              have hmul := mulB hI hJ4 hK4 (by assumption)
              dsimp only
              k_steps
              rename Fr _ _ _ _ => eF
              rename News _ _ _ _ => eN
              refine WaysEnd.of eF eN rfl ?_ (by intro z hz; simp [hz]) (by kst_anyIn)
              rw [if_pos (show j' > 0 by assumption)]
            case _ =>
              rename Fr _ _ _ _ => eF
              rename News _ _ _ _ => eN
              refine WaysEnd.of eF eN rfl ?_ (by intro z hz; simp [hz]) (by kst_anyIn)
              rw [if_neg (show ¬ j' > 0 by omega)]
              try omega
          case w4 =>
            clear lF lN
            intro h7 tk7 t7 F7 N7
            have hStop : StopAt "exec If" := ⟨⟩
            k_steps
            refine Stop.mk ?_
            rename Fr _ _ _ _ => lF
            rename News _ _ _ _ => lN
            refine ways_cut (Str.ofString "ways") (0 + (if i' > 0 then Mq (i' - 1) j' k' * 10000 ^ (j' + k').toNat else 0) + (if j' > 0 then Mq i' (j' - 1) k' * 10000 ^ k'.toNat else 0) + (if k' > 0 then Mq i' j' (k' - 1) else 0)) lF lN ?w5 ?w6
            case w5 =>
              clear lF lN
              intro F8 N8
              have hget := hp.gC hI.1 hJ hK
              have hStop : StopAt "subscriptTail Name BinOp ref int" := ⟨⟩
              k_steps
              case _ =>
                refine Stop.mk ?_
                dsimp only
                rename News _ _ _ _ => eN
                with_unfolding_all refine' book_get eN ?w5m lS hdo hfo ?w5g ?_
                case w5m => k_mem
                case w5g => exact hget (by assumption)
                intro t9
                dsimp only
                k_steps
                rename Fr _ _ _ _ => eF
                rename News _ _ _ _ => eN
                refine WaysEnd.of eF eN rfl ?_ (by intro z hz; simp [hz]) (by kst_anyIn)
                rw [if_pos (show k' > 0 by assumption)]
              case _ =>
                rename Fr _ _ _ _ => eF
                rename News _ _ _ _ => eN
                refine WaysEnd.of eF eN rfl ?_ (by intro z hz; simp [hz]) (by kst_anyIn)
                rw [if_neg (show ¬ k' > 0 by omega)]
                try omega
            case w6 =>
              clear lF lN
              intro h9 tk9 t9 F9 N9
              have hStop : StopAt "setItem" := ⟨⟩
              k_steps
              refine Stop.mk ?_
              dsimp only
              rename Fr _ _ _ _ => eF
              rename News _ _ _ _ => eN
              rename (_ ∧ AllLt _ news) => eL
              refine setItem_made_int (.int _ _) eF eN ?hap hdo hfo ?hgo ?hsz
              case hsz => (have := hp.len; rw [sizeLine_eq]; omega)
              case hap =>
                intro p hp e
                rcases List.mem_cons.mp hp with rfl | hp
                · exact absurd eL.1 (by rw [← e]; exact Nat.lt_irrefl _)
                · rcases List.mem_append.mp hp with hp | hp
                  · rcases List.mem_append.mp hp with hp | hp
                    · rcases List.mem_append.mp hp with hp | hp
                      · exact absurd (allLt_mem eL.2 p hp) (by rw [← e]; exact Nat.lt_irrefl _)
                      · exact hoff p hp _ (.head _) e
                    · exact hoff2 p hp _ (.head _) e
                  · exact hoff3 p hp _ (.head _) e
              case hgo =>
                clear eF eN
                intro h8 o8 F8 N8 d8 f8
                dsimp only
                k_steps
                rename Fr _ _ _ _ => eF
                rename News _ _ _ _ => eN
                with_unfolding_all refine' endDB eF eN ?em d8 f8 ?ep ?en ?eo ?ea ?er
                case em => k_mem
                case en => kst_anyIn
                case eo => kst_anyIn
                case ea => exact hoff3
                case er =>
                  intro z z1 z3
                  simp only [List.contains_cons, List.contains_nil, Bool.or_false, Bool.or_eq_false_iff, beq_eq_false_iff_ne, ne_eq] at z3
                  simp [z1, z3]
                case ep =>
                  show BookInv b c i' j' (((stepKs 0 1 k ++ [k']).length : Nat) : Int) _
                  rw [List.length_append, stepKs_len]
                  have e1 : ((k + [k'].length : Nat) : Int) = k' + 1 := by rw [List.length_singleton]; omega
                  rw [e1]
                  refine hp.put hI.1 hJ.1 hK.1 hb.2 hc.2 hJ.2 hK.2 ?_
                  rw [Mq_rec i' (mem5 hI.1 hI.2) j' (mem5 hJ4.1 hJ4.2) k' (mem5 hK4.1 hK4.2), waysZ]
                  generalize (if i' > 0 then Mq (i' - 1) j' k' * 10000 ^ (j' + k').toNat else 0) = qA
                  generalize (if j' > 0 then Mq i' (j' - 1) k' * 10000 ^ k'.toNat else 0) = qB
                  generalize (if k' > 0 then Mq i' j' (k' - 1) else 0) = qC
                  omega
      case done3 =>
        clear lF lN lR hdo hfo hp
        intro o kvs D u3 h3 tok3 hdo hfo hp F3 N3
        replace hp : BookInv b c i' j' (((stepKs 0 1 (c + 1).toNat).length : Nat) : Int) D := hp
        rw [stepKs_len] at hp
        try dsimp only
        (try k_fold)
        k_steps
        rename Fr _ _ _ _ => eF
        rename News _ _ _ _ => eN
        with_unfolding_all refine' endDB eF eN ?done3m hdo hfo ?done3p ?done3n ?done3o ?done3a ?done3r
        case done3m => k_mem
        case done3n => kst_anyIn
        case done3o => kst_anyIn
        case done3a => exact hoff2
        case done3r =>
          intro z z1 z3
          simp only [List.contains_cons, List.contains_nil, Bool.or_false, Bool.or_eq_false_iff, beq_eq_false_iff_ne, ne_eq] at z3
          simp [z1, z3]
        case done3p =>
          show BookInv b c i' (((stepKs 0 1 j ++ [j']).length : Nat) : Int) 0 _
          rw [List.length_append, stepKs_len]
          have e1 : ((j + [j'].length : Nat) : Int) = j' + 1 := by rw [List.length_singleton]; omega
          have e2 : (((c + 1).toNat : Nat) : Int) = c + 1 := by omega
          rw [e2] at hp
          rw [e1]
          exact hp.nextC (by omega) (by omega)
    case done2 =>
      clear lF lN lR hdo hfo hp
      intro o kvs D u3 h3 tok3 hdo hfo hp F3 N3
      replace hp : BookInv b c i' (((stepKs 0 1 (b + 1).toNat).length : Nat) : Int) 0 D := hp
      rw [stepKs_len] at hp
      try dsimp only
      (try k_fold)
      k_steps
      rename Fr _ _ _ _ => eF
      rename News _ _ _ _ => eN
      with_unfolding_all refine' endDB eF eN ?done2m hdo hfo ?done2p ?done2n ?done2o ?done2a ?done2r
      case done2m => k_mem
      case done2n => kst_anyIn
      case done2o => kst_anyIn
      case done2a => exact hoff
      case done2r =>
        intro z z1 z3
        simp only [List.contains_cons, List.contains_nil, Bool.or_false, Bool.or_eq_false_iff, beq_eq_false_iff_ne, ne_eq] at z3
        simp [z1, z3]
      case done2p =>
        show BookInv b c (((stepKs 0 1 i ++ [i']).length : Nat) : Int) 0 0 _
        rw [List.length_append, stepKs_len]
        have e1 : ((i + [i'].length : Nat) : Int) = i' + 1 := by rw [List.length_singleton]; omega
        have e2 : (((b + 1).toNat : Nat) : Int) = b + 1 := by omega
        rw [e2] at hp
        rw [e1]
        exact hp.nextB (by omega)
  case done =>
    clear lF lN lR lD lP
    intro o kvs D u3 h3 tok3 hdo hfo hp F3 N3
    replace hp : BookInv b c (((stepKs 0 1 (a + 1).toNat).length : Nat) : Int) 0 0 D := hp
    rw [stepKs_len] at hp
    have e2 : (((a + 1).toNat : Nat) : Int) = a + 1 := by omega
    rw [e2] at hp
    have hget := hp.has a b c ha.1 hb.1 (Int.le_refl _) hc.1 (Int.le_refl _) (.inl (by omega))
    try dsimp only
    (try k_fold)
    have hStop : StopAt "subscriptTail Name BinOp ref int" := ⟨⟩
    k_steps
    refine Stop.mk ?_
    dsimp only
    rename News _ _ _ _ => eN
    with_unfolding_all refine' book_get eN ?fm lS hdo hfo ?fg ?_
    case fm => k_mem
    case fg => exact hget
    intro t9
    dsimp only
    k_steps
    rename Fr _ _ _ _ => eF
    rename News _ _ _ _ => eN
    exact hret _ _ _ _ ⟨⟨_, rfl⟩, rfl⟩ eF (newsSub eN (by kst_anyIn))
end
section
open LCg
/-- what a turn is handed -/
inductive Turn3L (prog : Program) (w : World) (A : Around) (h₀ : Heap) (env : Env) (x₁ x₂ x₃ : Str) (body : List Stmt) (Q : Flow → Shared → Prop) (E : Value → Shared → Prop) (s₁ : Shared) (I : (Str → Option Value) → Led → Prop) (v : Value) (m₁ : Str → Option Value) (nx : Led) : Prop
  | mk (t : Addr) (ot : Obj) (v₁ v₂ v₃ : Value) (nt : Nat) (hv : v = .ref t) (hm : (t, ot) ∈ nx) (hc : ot.cls = .type "tuple") (hd : ot.data = .seq #[v₁, v₂, v₃] nt)
      (go : ∀ h tk own, OwnOff own (nx.map (·.1)) → Fr h₀ env.locals h (fun y => if y = x₃ then some v₃ else if y = x₂ then some v₂ else if y = x₁ then some v₁ else m₁ y) → News h₀ env.locals h (nx ++ own) →
        wpAny (model prog w) A (execs body env) (InvPostG h₀ env.locals I own { s₁ with heap := h, toks := tk } Q) E { s₁ with heap := h, toks := tk })
/-- what a for over a list of triples asks, once its list is made -/
inductive Loop3 (prog : Program) (w : World) (A : Around) (h₀ : Heap) (env : Env) (x₁ x₂ x₃ : Str) (body : List Stmt) (Q : Flow → Shared → Prop) (E : Value → Shared → Prop) (xv : Value) (s₁ : Shared) : Prop
  | mk (ax : Addr) (its : Array Value) (news : Led) (m : Str → Option Value) (J : Nat → (Str → Option Value) → Led → Prop) (hx : xv = .ref ax) (hh : A.handled = none) (F : Fr h₀ env.locals s₁.heap m) (N : News h₀ env.locals s₁.heap news) (hS : SrcAt h₀ ax its news) (hJ : J 0 m news)
      (hSJ : ∀ i m₁ nx, J i m₁ nx → SrcAt h₀ ax its nx)
      (turn : ∀ i v m₁ nx, its[i]? = some v → J i m₁ nx → Turn3L prog w A h₀ env x₁ x₂ x₃ body Q E s₁ (J (i + 1)) v m₁ nx)
      (done : ∀ m₁ nx h tk, J its.size m₁ nx → Fr h₀ env.locals h m₁ → News h₀ env.locals h nx → Q .next { s₁ with heap := h, toks := tk })
inductive F3I (h₀ : Heap) (L I ax : Addr) (its : Array Value) (J : Nat → (Str → Option Value) → Led → Prop) (s₁ : Shared) (k : Nat) (s' : Shared) : Prop
  | mk (h' : Heap) (tk i : Nat) (m' : Str → Option Value) (nx : Led) (e : s' = { s₁ with heap := h', toks := tk }) (hi : i ≤ its.size) (hk : k = its.size + 1 - i) (hst : h'.IsListIter I ax i ∧ h'.IsList ax its) (F : Fr h₀ L h' m') (N : News h₀ L h' nx) (hoff : ∀ p ∈ nx, p.1 ≠ I) (hJ : J i m' nx)
theorem f3_next {h₀ : Heap} {L I ax : Addr} {its : Array Value} {J : Nat → (Str → Option Value) → Led → Prop} {s₁ s₃ : Shared} {i tk : Nat} {h₅ : Heap} {oI : Obj} (hin : i < its.size) (hSJ : ∀ i m₁ nx, J i m₁ nx → SrcAt h₀ ax its nx)
    (hrI : oI.cls = .type "list_iterator" ∧ oI.data = .fields #[.ref ax, .int ((i + 1 : Nat) : Int) 0])
    (h : InvEndG h₀ L (J (i + 1)) [(I, oI)] { s₁ with heap := h₅, toks := tk } s₃) : ∃ m, m < its.size + 1 - i ∧ F3I h₀ L I ax its J s₁ m s₃ := by
  obtain ⟨h', tk', m₃, news', nx', rfl, F₆, N₆, hn, ho, ha, hj⟩ := h
  have N₇ : News h₀ L h' nx' := fun p hp => N₆ p (hn p hp)
  exact ⟨its.size + 1 - (i + 1), by omega, h', tk', i + 1, m₃, nx', rfl, hin, rfl, ⟨⟨oI, (N₆ _ (ho _ (.head _))).1, hrI⟩, (hSJ _ _ _ hj).list F₆.keep N₇⟩, F₆, N₇, fun p hp e => ha _ (.head _) p.1 (List.mem_map.mpr ⟨p, hp, rfl⟩) e.symm, hj⟩
section
variable {prog : Program} {w : World} {A : Around} {E : Value → Shared → Prop} {s : Shared} {env : Env} {h₀ : Heap} {Q : Flow → Shared → Prop} {body : List Stmt}
theorem For_3 {x₁ x₂ x₃ : Str} {px px₂ px₃ tp pos : Pos} {x0} {iter : PySem.Expr} {m : Str → Option Value} (_F : Fr h₀ env.locals s.heap m)
    (hx : env.kindOf x₁ = some .local) (hx₂ : env.kindOf x₂ = some .local) (hx₃ : env.kindOf x₃ = some .local)
    (hp : (env.scope.kind == .class || (env.scope.kind == .module && env.locals != env.globals)) = false)
    (h : wpAny (model prog w) A (eval iter env) (Loop3 prog w A h₀ env x₁ x₂ x₃ body Q E) E s)
    (hs : ∀ x, foldedSetIterable iter env x = pure x := by intro _; rfl)
    (hE : PassesOwn (model prog w) A env E := by passes_own) :
    wpAny (model prog w) A (exec (.For (.Tuple [.Name x₁ px, .Name x₂ px₂, .Name x₃ px₃] x0 tp) iter body [] pos) env) Q E s := by
  refine wpAny_For (wpAny_mono h (fun xv s₁ h₁ => ?_) fun _ _ e => e) hs
  obtain ⟨ax, its, news, m, J, rfl, hh, F, N, hS0, hJ0, hSJ, turn, done⟩ := h₁
  have hl := hS0.list F.keep N
  have hlt : ax < s₁.heap.objs.size := by obtain ⟨_, e, _⟩ := hl; exact Heap.lt_size e
  have hIL : env.locals ≠ s₁.heap.objs.size := Nat.ne_of_lt F.ns.lt
  have hI₀ : h₀.get? s₁.heap.objs.size = none := next_is_new F
  refine wpAny_pyIter_list hl ?_
  have up : ∀ b o, s₁.heap.get? b = some o → (s₁.heap.push { cls := .type "list_iterator", data := .fields #[.ref ax, .int 0 0] }).get? b = some o := fun b o e => Heap.get?_push_of_some _ e
  have W := Walks.list (prog := prog) (w := w) (A := A) hh s₁.heap.objs.size ax (Nat.ne_of_lt hlt) its
  have hst0 : (s₁.heap.push { cls := .type "list_iterator", data := .fields #[.ref ax, .int 0 0] }).IsListIter s₁.heap.objs.size ax 0 ∧ (s₁.heap.push { cls := .type "list_iterator", data := .fields #[.ref ax, .int 0 0] }).IsList ax its := ⟨⟨_, Heap.get?_push_size _ rfl, rfl, rfl⟩, hl.push _⟩
  have hF0 := F.keeps up
  have hN0 := N.grown up
  have hoff0 : ∀ p ∈ news, p.1 ≠ s₁.heap.objs.size := fun p hp => Nat.ne_of_lt (Heap.lt_size (N p hp).1)
  generalize (s₁.heap.push { cls := .type "list_iterator", data := .fields #[.ref ax, .int 0 0] }) = H0 at hst0 hF0 hN0 ⊢
  generalize s₁.heap.objs.size = I at hst0 hoff0 hIL hI₀ W hlt ⊢
  refine codeAny_forLoop_any (R := fun r s' => match r with | .ok f => Q f s' | .error e => cameBackBy (model prog w) A env E e s')
    (F3I h₀ env.locals I ax its J s₁) ?_ (its.size + 1)
    ⟨H0, s₁.toks, 0, m, news, rfl, Nat.zero_le _, rfl, hst0, hF0, hN0, hoff0, hJ0⟩
  rintro k s' ⟨H, tk, i, m', nx, rfl, hi, rfl, hst', F', N', hoff', hJ⟩
  by_cases hin : i < its.size
  · refine W.item i _ _ _ hin hst' fun v h₁ tk₁ hP hst₁ hk₁ => ?_
    obtain ⟨t, ot, v₁, v₂, v₃, nt, rfl, hmt, hct, hdt, go⟩ := turn i v m' nx hP hJ
    have F₁ : Fr h₀ env.locals h₁ m' := fr_but F' hk₁ hIL hI₀
    have N₁ : News h₀ env.locals h₁ nx := news_but N' hk₁ hoff'
    have ht : IsTup h₁ t #[v₁, v₂, v₃] := ⟨ot, (N₁ _ hmt).1, hct, nt, hdt⟩
    refine wpAny_letOwnedTupleGo_listiter hst₁.1 ?_
    refine assign_Tuple_tuple hh ht rfl rfl fun h₂ he => ?_
    have he' : ∀ b o, h₁.get? b = some o → h₂.get? b = some o := fun b o e => he b o (Nat.ne_of_lt (Heap.lt_size e)) e
    have F₂ := F₁.keeps he'
    have N₂ := N₁.grown he'
    refine assignInOrder_cons (wpAny_assign_Name (wpAny_storeName_local hx F₂.ns (fun h₃ hn₃ hs₃ => ?_) hp))
    have F₃ := F₂.set hn₃ hs₃
    refine assignInOrder_cons (wpAny_assign_Name (wpAny_storeName_local hx₂ F₃.ns (fun h₄ hn₄ hs₄ => ?_) hp))
    have F₄ := F₃.set hn₄ hs₄
    refine assignInOrder_cons (wpAny_assign_Name (wpAny_storeName_local hx₃ F₄.ns (fun h₅ hn₅ hs₅ => ?_) hp))
    have F₅ := F₄.set hn₅ hs₅
    have N₅ : News h₀ env.locals h₅ nx := ((N₂.set hs₃).set hs₄).set hs₅
    refine assignInOrder_nil ?_
    have hI5 : ∀ o, h₁.get? I = some o → h₅.get? I = some o := fun o e =>
      (hs₅.2 I (Ne.symm hIL)).trans ((hs₄.2 I (Ne.symm hIL)).trans ((hs₃.2 I (Ne.symm hIL)).trans (he' I o e)))
    obtain ⟨oI, hoI, hrI⟩ := hst₁.1
    have hoI5 := hI5 oI hoI
    refine wpAny_mono (wpAny_passesOwn hE (go h₅ _ [(I, oI)] ?_ F₅ ?_)) (fun f s₃ h₃ => ?_) fun _ _ e => e
    · intro p hp b hb e
      rw [List.mem_singleton.mp hp] at e
      obtain ⟨q, hq, rfl⟩ := List.mem_map.mp hb
      exact hoff' q hq e.symm
    · intro p hp
      rcases List.mem_append.mp hp with hp | hp
      · exact N₅ p hp
      · rw [List.mem_singleton.mp hp]
        exact ⟨hoI5, Ne.symm hIL, hI₀⟩
    · cases f with
      | ret v => exact h₃
      | brk => exact h₃
      | next => exact f3_next hin hSJ hrI h₃
      | cont => exact f3_next hin hSJ hrI h₃
  · obtain rfl : i = its.size := Nat.le_antisymm hi (Nat.not_lt.mp hin)
    refine W.done _ _ _ hst' fun h₁ tk₁ hk₁ => wpAny_execs_nil ?_
    exact done m' nx h₁ tk₁ hJ (fr_but F' hk₁ hIL hI₀) (news_but N' hk₁ hoff')
end
end
section
structure RetEnd (h₀ : Heap) (L : Addr) (s : Shared) (f : Flow) (s' : Shared) : Prop where
  out : f = .ret (.bool true) ∧ ∃ h tk m, s' = { s with heap := h, toks := tk } ∧ Fr h₀ L h m
theorem RetEnd.of {h₀ h : Heap} {L : Addr} {m : Str → Option Value} {s : Shared} {tk : Nat} (F : Fr h₀ L h m) : RetEnd h₀ L s (.ret (.bool true)) { s with heap := h, toks := tk } :=
  ⟨rfl, h, tk, m, rfl, F⟩
theorem body_cut {prog : Program} {w : World} {A : Around} {E : Value → Shared → Prop} {s : Shared} {h₀ : Heap} {L : Addr} {m : Str → Option Value} {c : Sem Flow} {Q : Flow → Shared → Prop} (F : Fr h₀ L s.heap m)
    (h1 : Fr h₀ L s.heap m → wpAny (model prog w) A c (RetEnd h₀ L s) (fun _ _ => False) s)
    (h2 : ∀ h tk m', Fr h₀ L h m' → Q (.ret (.bool true)) { s with heap := h, toks := tk }) : wpAny (model prog w) A c Q E s :=
  wpAny_mono (h1 F) (fun f s' hm => by
    obtain ⟨rfl, h, tk, m', rfl, F⟩ := hm.out
    exact h2 h tk m' F) fun _ _ h => h.elim
structure IfEnd (h₀ : Heap) (L : Addr) (m : Str → Option Value) (B : Led) (s : Shared) (f : Flow) (s' : Shared) : Prop where
  out : f = .next ∧ ∃ h tk, s' = { s with heap := h, toks := tk } ∧ Fr h₀ L h m ∧ News h₀ L h B
theorem IfEnd.of {h₀ h : Heap} {L : Addr} {m : Str → Option Value} {B nn : Led} {s : Shared} {tk : Nat} (F : Fr h₀ L h m) (N : News h₀ L h nn) (hs : ∀ p ∈ B, p ∈ nn) : IfEnd h₀ L m B s .next { s with heap := h, toks := tk } :=
  ⟨rfl, h, tk, rfl, F, newsSub N hs⟩
theorem if_cut {prog : Program} {w : World} {A : Around} {E : Value → Shared → Prop} {s : Shared} {h₀ : Heap} {L : Addr} {m : Str → Option Value} {B : Led} {st : Stmt} {env : Env} {Q : Flow → Shared → Prop}
    (F : Fr h₀ L s.heap m) (N : News h₀ L s.heap B)
    (h1 : Fr h₀ L s.heap m → News h₀ L s.heap B → wpAny (model prog w) A (exec st env) (IfEnd h₀ L m B s) (fun _ _ => False) s)
    (h2 : ∀ h tk, Fr h₀ L h m → News h₀ L h B → Q .next { s with heap := h, toks := tk }) :
    wpAny (model prog w) A (exec st env) Q E s :=
  wpAny_mono (h1 F N) (fun f s' hm => by
    obtain ⟨rfl, h, tk, rfl, F, N⟩ := hm.out
    exact h2 h tk F N) fun _ _ h => h.elim
theorem newsDrop {h₀ h : Heap} {L : Addr} {a : Addr × Obj} {t X : Led} (N : News h₀ L h (a :: (t ++ X))) : News h₀ L h X := fun p hp => N p (.tail _ (List.mem_append.mpr (.inr hp)))
theorem same_bool {b : Bool} {P : Prop} [Decidable P] (h : b = true ↔ P) : b = decide P := by
  rw [Bool.eq_iff_iff, h, decide_eq_true_eq]
theorem same_iff {b c : Bool} {P : Prop} (h1 : b = true ↔ P) (h2 : c = true ↔ P) : b = c := by
  rw [Bool.eq_iff_iff, h1, h2]
theorem datNil {l : List (Int × Int × Int)} : Dat.list (l.map rowD) = Dat.list [] ↔ l = [] := by
  simp
section
variable {prog : Program} {w : World} {A : Around} {E : Value → Shared → Prop} {s : Shared} {h₀ : Heap} {L : Addr} {Q : Value → Shared → Prop} {news : Led}
theorem itemLast {value slice : PySem.Expr} {l : Addr} {vs : List Value} {ns : List Int} {ep : Nat} {u : Tok} (N : News h₀ L s.heap news) (hm : (l, W.listOf vs.toArray ep) ∈ news) (hi : IntsAre vs ns) (h1 : 1 ≤ ns.length)
    (h : ∀ tk, Q (.int (ns.getD (ns.length - 1) 0) tk) s)
    (hs : subscripted slice false (.ref l) (.int (-1) u) = operate [.ref l, .int (-1) u] (getItem (.ref l) (.int (-1) u)) := by with_unfolding_all rfl)
    (hg : ∀ r, letTemporaryGo value (.ref l) r = pure () := by intro _; with_unfolding_all rfl) :
    wpAny (model prog w) A (subscriptTail value slice (.ref l) (.int (-1) u)) Q E s := by
  refine item_list_ints_neg (News.isList N hm) hi (by decide) (by omega) (by decide) (fun t => ?_) hs hg
  have e : ((-1 : Int) + (ns.length : Int)).toNat = ns.length - 1 := by omega
  rw [e]
  exact h t
end
theorem fmod_bd (a b : Int) (hb : 0 < b) : 0 ≤ a.fmod b ∧ a.fmod b < b := by
  rw [Int.fmod_eq_emod_of_nonneg _ (Int.le_of_lt hb)]
  exact ⟨Int.emod_nonneg _ (by omega), Int.emod_lt_of_pos _ hb⟩
end
section
theorem counts_is (l : List Int) : ∃ a b c : Int, List.map (fun k' => k'.fmod 5) (List.take 3 (List.take 3 l ++ [3, 2, 1])) = [a, b, c] ∧ (0 ≤ a ∧ a ≤ 4) ∧ (0 ≤ b ∧ b ≤ 4) ∧ (0 ≤ c ∧ c ≤ 4) := by
  have h := fun x : Int => fmod_bd x 5 (by decide)
  have h' : ∀ x : Int, 0 ≤ x.fmod 5 ∧ x.fmod 5 ≤ 4 := fun x => ⟨(h x).1, by have := (h x).2; omega⟩
  match l with
  | [] => exact ⟨_, _, _, rfl, h' _, h' _, h' _⟩
  | [x] => exact ⟨_, _, _, rfl, h' _, h' _, h' _⟩
  | [x, y] => exact ⟨_, _, _, rfl, h' _, h' _, h' _⟩
  | x :: y :: z :: r => exact ⟨_, _, _, rfl, h' _, h' _, h' _⟩
theorem both4_bd (l : List Int) : ∀ r ∈ List.map (fun k' : Int => k'.fmod 4) l, 0 ≤ r ∧ r ≤ 3 := by
  intro r hr
  obtain ⟨k, _, rfl⟩ := List.mem_map.mp hr
  have := fmod_bd k 4 (by decide)
  omega
theorem both4_len (ns : List Int) : (List.map (fun k' : Int => k'.fmod 4) (List.take (min 6 ns.length - 3) (List.drop 3 ns))).length ≤ 3 := by
  simp; omega
theorem parse_more {X lit : PySem.Str} {runs : List Int} {b : Int} {rest : List Int} (hX : KStt.codes X = leadC runs b) (hl : KStt.codes lit = 32 :: rest) (hr : rest = [] ∨ ∃ c r, rest = c :: r ∧ c ≠ 32 ∧ c ≠ 9) (h : ∀ r ∈ runs, 0 ≤ r) (hb : 0 ≤ b) :
    parse (KStt.codes (X ++ lit)) ⟨[], 0, 0, 0⟩ = stOf runs (b + 1) := by
  rw [codes_append, hX, hl, parse_lead runs b h hb]
  have e := parse_blanks 1 rest (stOf runs b).cnt (stOf runs b).b (stOf runs b).n (stOf runs b).nt
  have e2 : (⟨(stOf runs b).cnt, (stOf runs b).b + ((1 : Nat) : Int), (stOf runs b).n + ((1 : Nat) : Int), (stOf runs b).nt⟩ : WS) = stOf runs (b + 1) := by
    unfold stOf
    have h : nOf runs + b + ((1 : Nat) : Int) = nOf runs + (b + 1) := by omega
    show WS.mk (cntOf runs) (b + ((1 : Nat) : Int)) (nOf runs + b + ((1 : Nat) : Int)) (runs.length : Int) = WS.mk (cntOf runs) (b + 1) (nOf runs + (b + 1)) (runs.length : Int)
    rw [h]
    rfl
  rw [e2] at e
  refine Eq.trans e ?_
  rcases hr with rfl | ⟨c, r, rfl, h1, h2⟩
  · rfl
  · exact parse_stop r _ h1 h2
theorem st_lead {X : PySem.Str} {runs : List Int} {b : Int} (hX : KStt.codes X = leadC runs b) (h : ∀ r ∈ runs, 0 ≤ r) (hb : 0 ≤ b) : parse (KStt.codes X) ⟨[], 0, 0, 0⟩ = stOf runs b := by
  have e := parse_lead runs b h hb []
  rw [List.append_nil] at e
  rw [hX, e]
  rfl
theorem col_lev {X : PySem.Str} {runs : List Int} {b z : Int} (hX : KStt.codes X = leadC runs b) (h : ∀ r ∈ runs, 0 ≤ r) (hb : 0 ≤ b) (hz : 1 ≤ z) : colOf z (KStt.codes X) = level (stOf runs b) z := by
  rw [hX, col_lead z hz runs b h hb, level_st _ _ _ h hz]
theorem bl100 {x : Int} (h : 0 ≤ x ∧ x < 4) : x ≤ 100 ∧ 0 ≤ x + 1 ∧ x + 1 ≤ 100 ∧ x ≤ 3 := by omega
theorem n_12 {a b c n : Int} (ha : 0 ≤ a ∧ a ≤ 4) (hb : 0 ≤ b ∧ b ≤ 4) (hc : 0 ≤ c ∧ c ≤ 4) (h : a + (b + (c + 0)) = n) : n = a + b + c ∧ 0 ≤ n ∧ n ≤ 12 := by omega
theorem app_len {X l : PySem.Str} {k : Nat} (h : X.length ≤ 102000) (h8 : l.length = k) (hk : k ≤ 3) : (X ++ l).length ≤ 1000000 := by
  rw [Str.length_append]; omega
theorem add_len {X l : PySem.Str} {k : Nat} (h : X.length ≤ 102000) (h8 : l.length = k) (hk : k ≤ 3) : X.length + l.length ≤ sizeLine := by
  rw [sizeLine_eq]; omega
theorem len1 {a b c : Int} {both : List Int} (h : both.length ≤ 3) : ([a, b, c] ++ both).length ≤ 1000 := by
  rw [List.length_append, List.length_cons, List.length_cons, List.length_singleton]; omega
theorem len2 {n : Int} {both : List Int} (h : both.length ≤ 3) : ([0] ++ both.reverse ++ [n, 0]).length ≤ 1000 := by
  rw [List.length_append, List.length_append, List.length_reverse, List.length_singleton, List.length_cons, List.length_singleton]; omega
theorem idx_ok {N : Nat} {f : Int → Int} {z : Int} (h0 : 1 ≤ z) (h1 : z ≤ N) (h2 : N ≤ 1000) : 0 ≤ z - 1 ∧ z - 1 < (((stepKs 1 1 N).map f).length : Int) ∧ ((stepKs 1 1 N).map f).length < 2 ^ 62 := by
  rw [List.length_map, stepKs_len]; omega
theorem lit_xt : KStt.codes (Str.ofString "x\t") = [120, 9] := by decide +kernel
theorem lit_bx : KStt.codes (Str.ofString " x ") = 32 :: [120, 32] := by decide +kernel
theorem lit_b : KStt.codes (Str.ofString " ") = 32 :: [] := by decide +kernel
theorem lit_xt_len : (Str.ofString "x\t").length = 2 := by decide +kernel
theorem lit_bx_len : (Str.ofString " x ").length = 3 := by decide +kernel
theorem lit_b_len : (Str.ofString " ").length = 1 := by decide +kernel

noncomputable def runs1 (a b c : Int) (both : List Int) : List Int := [a, b, c] ++ both
noncomputable def runs2 (both : List Int) (n : Int) : List Int := 0 :: (both.reverse ++ [n, 0])
structure LawG (a b c n : Int) (both : List Int) (bl M : Int) : Prop where
  ha : 0 ≤ a ∧ a ≤ 4
  hb : 0 ≤ b ∧ b ≤ 4
  hc : 0 ≤ c ∧ c ≤ 4
  hn : n = a + b + c
  hboth : ∀ r ∈ both, 0 ≤ r ∧ r ≤ 3
  hlen : both.length ≤ 3
  hbl : 0 ≤ bl ∧ bl ≤ 3
  hm : M ∈ [n, bl] ++ both
  hx : ∀ r ∈ [n, bl] ++ both, r ≤ M
theorem runs1_bd {a b c : Int} {both : List Int} (ha : 0 ≤ a ∧ a ≤ 4) (hb : 0 ≤ b ∧ b ≤ 4) (hc : 0 ≤ c ∧ c ≤ 4) (hboth : ∀ r ∈ both, 0 ≤ r ∧ r ≤ 3) : ∀ r ∈ runs1 a b c both, 0 ≤ r ∧ r ≤ 100 := by
  intro r hr
  unfold runs1 at hr
  simp only [List.mem_append, List.mem_cons, List.not_mem_nil, or_false] at hr
  rcases hr with (rfl | rfl | rfl) | hr
  · omega
  · omega
  · omega
  · have := hboth r hr; omega
theorem runs2_bd {n : Int} {both : List Int} (hn : 0 ≤ n ∧ n ≤ 12) (hboth : ∀ r ∈ both, 0 ≤ r ∧ r ≤ 3) : ∀ r ∈ runs2 both n, 0 ≤ r ∧ r ≤ 100 := by
  intro r hr
  unfold runs2 at hr
  simp only [List.mem_append, List.mem_cons, List.mem_reverse, List.not_mem_nil, or_false] at hr
  rcases hr with rfl | hr | rfl | rfl
  · omega
  · have := hboth r hr; omega
  · omega
  · omega
theorem expZ_small {a b c z : Int} (ha : 0 ≤ a) (hb : 0 ≤ b) (hc : 0 ≤ c) (h : a + b + c < z) : expZ a b c z = 0 := by
  unfold expZ
  rw [fdiv_small (by omega) h, fdiv_small ha (by omega), fdiv_small hb (by omega), fdiv_small hc (by omega)]
  rfl
theorem expZ_one (a b c : Int) : expZ a b c 1 = 0 := by
  unfold expZ
  rw [Int.fdiv_one, Int.fdiv_one, Int.fdiv_one, Int.fdiv_one]
  omega
theorem mem_12 {z : Int} (h0 : 1 ≤ z) (h1 : z ≤ 12) : z ∈ stepKs 1 1 12 := by
  unfold stepKs
  refine List.mem_map.mpr ⟨(z - 1).toNat, List.mem_range.mpr (by omega), ?_⟩
  omega
theorem mem_12' {z : Int} (h : z ∈ stepKs 1 1 12) : 1 ≤ z ∧ z ≤ 12 := by
  unfold stepKs at h
  obtain ⟨j, hj, rfl⟩ := List.mem_map.mp h
  have := List.mem_range.mp hj
  omega
theorem top_eq {S1 S2 : WS} {bl M : Int} (l1 : (S1.cnt.length : Int) ≤ M + 1) (l2 : (S2.cnt.length : Int) ≤ M + 1) (hb : bl ≤ M) (h1 : bl ≤ S1.b) (h2 : bl ≤ S2.b) (h : M < (S1.cnt.length : Int) ∨ M < (S2.cnt.length : Int) ∨ M = bl) : topOf S1 S2 = 1 + max M (max S1.b S2.b) := by
  have e : max ((S1.cnt.length : Int) - 1) ((S2.cnt.length : Int) - 1) ≤ M := Int.max_le.mpr ⟨by omega, by omega⟩
  have u1 := Int.le_max_left M (max S1.b S2.b)
  have u2 := Int.le_max_right M (max S1.b S2.b)
  have v1 := Int.le_max_left S1.b S2.b
  have v2 := Int.le_max_right S1.b S2.b
  have w1 := Int.le_max_left (longest S1) (longest S2)
  have w2 := Int.le_max_right (longest S1) (longest S2)
  have x1 : (S1.cnt.length : Int) - 1 ≤ longest S1 := Int.le_max_left _ _
  have x2 : (S2.cnt.length : Int) - 1 ≤ longest S2 := Int.le_max_left _ _
  have y1 : S1.b ≤ longest S1 := Int.le_max_right _ _
  have y2 : S2.b ≤ longest S2 := Int.le_max_right _ _
  have z1 : longest S1 ≤ max M (max S1.b S2.b) := Int.max_le.mpr ⟨by omega, Int.le_trans v1 u2⟩
  have z2 : longest S2 ≤ max M (max S1.b S2.b) := Int.max_le.mpr ⟨by omega, Int.le_trans v2 u2⟩
  have z3 : max (longest S1) (longest S2) ≤ max M (max S1.b S2.b) := Int.max_le.mpr ⟨z1, z2⟩
  have z4 : max M (max S1.b S2.b) ≤ max (longest S1) (longest S2) := Int.max_le.mpr ⟨by rcases h with h | h | h <;> omega, Int.max_le.mpr ⟨Int.le_trans y1 w1, Int.le_trans y2 w2⟩⟩
  unfold topOf
  rw [Int.le_antisymm z3 z4, Int.add_comm]
namespace LawG
variable {a b c n bl M : Int} {both : List Int}
theorem n12 (G : LawG a b c n both bl M) : 0 ≤ n ∧ n ≤ 12 := by have := G.ha; have := G.hb; have := G.hc; have := G.hn; omega
theorem nM (G : LawG a b c n both bl M) : n ≤ M := G.hx n (by simp)
theorem blM (G : LawG a b c n both bl M) : bl ≤ M := G.hx bl (by simp)
theorem bothM (G : LawG a b c n both bl M) : ∀ r ∈ both, r ≤ M := fun r hr => G.hx r (by simp [hr])
theorem M12 (G : LawG a b c n both bl M) : 0 ≤ M ∧ M ≤ 12 := by
  have h := G.hm
  have h1 := G.n12
  have h2 := G.hbl
  simp only [List.mem_append, List.mem_cons, List.not_mem_nil, or_false] at h
  rcases h with (rfl | rfl) | h
  · omega
  · omega
  · have := G.hboth M h; omega
theorem r1 (G : LawG a b c n both bl M) : ∀ r ∈ runs1 a b c both, 0 ≤ r ∧ r ≤ 100 := runs1_bd G.ha G.hb G.hc G.hboth
theorem r2 (G : LawG a b c n both bl M) : ∀ r ∈ runs2 both n, 0 ≤ r ∧ r ≤ 100 := runs2_bd G.n12 G.hboth
theorem r1' (G : LawG a b c n both bl M) : ∀ r ∈ runs1 a b c both, 0 ≤ r := fun r hr => (G.r1 r hr).1
theorem r2' (G : LawG a b c n both bl M) : ∀ r ∈ runs2 both n, 0 ≤ r := fun r hr => (G.r2 r hr).1
theorem top (G : LawG a b c n both bl M) {b1 b2 : Int} (h1 : bl ≤ b1) (h2 : bl ≤ b2) : topOf (stOf (runs1 a b c both) b1) (stOf (runs2 both n) b2) = 1 + max M (max b1 b2) := by
  have hM := G.M12
  have l1 : ((stOf (runs1 a b c both) b1).cnt.length : Int) ≤ M + 1 := by
    rw [st_len G.r1']
    have : topRun (runs1 a b c both) 0 ≤ (M + 1).toNat := (topRun_le _ _).mpr ⟨by omega, fun r hr => by
      unfold runs1 at hr
      have := G.ha; have := G.hb; have := G.hc; have := G.hn; have := G.nM
      simp only [List.mem_append, List.mem_cons, List.not_mem_nil, or_false] at hr
      rcases hr with (rfl | rfl | rfl) | hr
      · omega
      · omega
      · omega
      · have := G.bothM r hr; omega⟩
    omega
  have l2 : ((stOf (runs2 both n) b2).cnt.length : Int) ≤ M + 1 := by
    rw [st_len G.r2']
    have : topRun (runs2 both n) 0 ≤ (M + 1).toNat := (topRun_le _ _).mpr ⟨by omega, fun r hr => by
      unfold runs2 at hr
      have := G.nM
      simp only [List.mem_append, List.mem_cons, List.mem_reverse, List.not_mem_nil, or_false] at hr
      rcases hr with rfl | hr | rfl | rfl
      · omega
      · have := G.bothM r hr; omega
      · omega
      · omega⟩
    omega
  have l3 : M < ((stOf (runs1 a b c both) b1).cnt.length : Int) ∨ M < ((stOf (runs2 both n) b2).cnt.length : Int) ∨ M = bl := by
    have h := G.hm
    simp only [List.mem_append, List.mem_cons, List.not_mem_nil, or_false] at h
    rcases h with (h | h) | h
    · exact .inr (.inl (LawF.lt_len G.r2' (by unfold runs2; simp [h])))
    · exact .inr (.inr h)
    · exact .inl (LawF.lt_len G.r1' (by unfold runs1; simp [h]))
  exact top_eq l1 l2 G.blM h1 h2 l3
theorem cols (G : LawG a b c n both bl M) (z : Int) (hz : 1 ≤ z) : colSum (runs2 both n) z = colSum (runs1 a b c both) z + expZ a b c z := by
  have e : runs2 both n = [0] ++ (both.reverse ++ [n, 0]) := rfl
  rw [e, runs1, colSum_append, colSum_append, colSum_rev, colSum_append]
  have e0 : (0 : Int).fdiv z = 0 := fdiv_small (Int.le_refl _) (by omega)
  simp only [colSum, List.map_cons, List.map_nil, List.sum_cons, List.sum_nil, e0]
  unfold expZ
  rw [← G.hn]
  omega
theorem lev (G : LawG a b c n both bl M) {b1 b2 : Int} {z : Int} (hz : 1 ≤ z) : level (stOf (runs2 both n) b2) z = level (stOf (runs1 a b c both) b1) z + z * expZ a b c z + (b2 - b1) := by
  rw [level_st _ _ _ G.r1' hz, level_st _ _ _ G.r2' hz, G.cols z hz, Int.mul_add]
  omega
theorem exp_bd (G : LawG a b c n both bl M) {z : Int} (hz : 1 ≤ z) : 0 ≤ expZ a b c z ∧ expZ a b c z ≤ 12 := by
  by_cases h : z ≤ 12
  · exact exp_nn a (mem5 G.ha.1 G.ha.2) b (mem5 G.hb.1 G.hb.2) c (mem5 G.hc.1 G.hc.2) z (mem_12 hz h)
  · have := G.n12
    rw [expZ_small G.ha.1 G.hb.1 G.hc.1 (by have := G.hn; omega)]
    omega
theorem exp_hi (G : LawG a b c n both bl M) {z : Int} (h : n < z) : expZ a b c z = 0 := expZ_small G.ha.1 G.hb.1 G.hc.1 (by have := G.hn; omega)
/-- all exponents nought, up to any size that is not below the sum -/
theorem exp_all (G : LawG a b c n both bl M) {t : Nat} (ht : n ≤ t) : (∀ z ∈ rangeKs 1 t, expZ a b c z = 0) ↔ Mq a b c = 1 := by
  rw [Mq_one a (mem5 G.ha.1 G.ha.2) b (mem5 G.hb.1 G.hb.2) c (mem5 G.hc.1 G.hc.2)]
  constructor
  · intro h z hz
    have hz' := mem_12' hz
    by_cases hn : n < z
    · exact G.exp_hi hn
    · exact h z (mem_rangeKs_of (by omega) (by omega))
  · intro h z hz
    have hz' := mem_rangeKs hz
    by_cases hn : n < z
    · exact G.exp_hi hn
    · exact h z (mem_12 (by omega) (by have := G.n12; omega))
end LawG
/-- the greater of two, hidden from omega -/
noncomputable def NIs (N M bl : Int) : Prop := (if bl + 2 > 1 + M then bl + 2 else 1 + M) = N
theorem NIs.bd {N M bl : Int} (h : NIs N M bl) (hM : M ≤ 12) (hb : bl ≤ 3) : 1 + M ≤ N ∧ bl + 2 ≤ N ∧ N ≤ 13 := by
  unfold NIs at h
  omega
theorem NIs.toNat_le {N : Int} (h : N ≤ 13) : N.toNat ≤ 1000 := by omega
theorem NIs.up {N M z : Int} (h : 1 + M ≤ N) (hM : 0 ≤ M) (hz : z ≤ ((1 + M).toNat : Int)) : z ≤ (N.toNat : Int) := by omega
theorem NIs.top {N M bl : Int} (h : NIs N M bl) : 1 + max M (max (bl + 1) bl) = N := by
  unfold NIs at h
  omega
/-! the law's cells: objects of their own kind, apart from all else of the ledger -/
noncomputable def NoCell (l : Led) : Prop := ∀ p ∈ l, ∀ v, p.2.data ≠ .cell v
theorem NoCell.cons {p : Addr × Obj} {l : Led} (h : ∀ v, p.2.data ≠ .cell v) (hl : NoCell l) : NoCell (p :: l) := List.forall_mem_cons.mpr ⟨h, hl⟩
theorem NoCell.append {l k : Led} (h : NoCell l) (hk : NoCell k) : NoCell (l ++ k) := List.forall_mem_append.mpr ⟨h, hk⟩
theorem nocell_lst {D : Addr} {ys : List Value} {B : Led} (h : NoCell B) : NoCell ((D, LCg.lst ys) :: B) := .cons (fun _ h => nomatch h) h
theorem nocell_list {D : Addr} {ys : List Value} {ep : Nat} {B : Led} (h : NoCell B) : NoCell ((D, W.listOf ys.toArray ep) :: B) := .cons (fun _ h => nomatch h) h
theorem led_nocell (W : WW) (S : WS) : NoCell (W.led S) := by
  unfold WW.led
  repeat' (refine NoCell.cons (fun v h => ?_) ?_)
  all_goals first | exact (fun _ h => nomatch h) | (cases h)
theorem apart_cell {h₀ h : Heap} {L c : Addr} {o : Obj} {v₀ : Option Value} {X B : Led} (N : News h₀ L h (X ++ B)) (hm : (c, o) ∈ X) (hd : o.data = .cell v₀) (hB : NoCell B) : ∀ p ∈ B, p.1 ≠ c := by
  intro p hp e
  have h1 := (N p (List.mem_append_right _ hp)).1
  have h2 := (N (c, o) (List.mem_append_left _ hm)).1
  rw [e] at h1
  have : p.2 = o := Option.some.inj (h1.symm.trans h2)
  exact hB p hp v₀ (this ▸ hd)
noncomputable abbrev cells4 (b : Nat) (oN oL oR oJ : Obj) : Led := [(b + 1 + 1 + 1 + 1, oN), (b + 1 + 1 + 1, oL), (b + 1 + 1, oR), (b + 1, oJ)]
section
variable {h₀ h : Heap} {L : Addr} {b : Nat} {oN oL oR oJ : Obj} {B : Led} {v₀ : Option Value}
theorem updR (N : News h₀ L h (cells4 b oN oL oR oJ ++ B)) (hB : NoCell B) (hd : oR.data = .cell v₀) : UpdF (b + 1 + 1) oR (cells4 b oN oL oR oJ ++ B) (fun o' => cells4 b oN oL o' oJ ++ B) := by
  have ha := apart_cell N (.tail _ (.tail _ (.head _))) hd hB
  refine .tail ?_ (.tail ?_ (.head (List.forall_mem_cons.mpr ⟨?_, ha⟩)))
  · show b + 1 + 1 + 1 + 1 ≠ b + 1 + 1; omega
  · show b + 1 + 1 + 1 ≠ b + 1 + 1; omega
  · show b + 1 ≠ b + 1 + 1; omega
theorem updL (N : News h₀ L h (cells4 b oN oL oR oJ ++ B)) (hB : NoCell B) (hd : oL.data = .cell v₀) : UpdF (b + 1 + 1 + 1) oL (cells4 b oN oL oR oJ ++ B) (fun o' => cells4 b oN o' oR oJ ++ B) := by
  have ha := apart_cell N (.tail _ (.head _)) hd hB
  refine .tail ?_ (.head (List.forall_mem_cons.mpr ⟨?_, List.forall_mem_cons.mpr ⟨?_, ha⟩⟩))
  · show b + 1 + 1 + 1 + 1 ≠ b + 1 + 1 + 1; omega
  · show b + 1 + 1 ≠ b + 1 + 1 + 1; omega
  · show b + 1 ≠ b + 1 + 1 + 1; omega
theorem updN (N : News h₀ L h (cells4 b oN oL oR oJ ++ B)) (hB : NoCell B) (hd : oN.data = .cell v₀) : UpdF (b + 1 + 1 + 1 + 1) oN (cells4 b oN oL oR oJ ++ B) (fun o' => cells4 b o' oL oR oJ ++ B) := by
  have ha := apart_cell N (.head _) hd hB
  refine .head (List.forall_mem_cons.mpr ⟨?_, List.forall_mem_cons.mpr ⟨?_, List.forall_mem_cons.mpr ⟨?_, ha⟩⟩⟩)
  · show b + 1 + 1 + 1 ≠ b + 1 + 1 + 1 + 1; omega
  · show b + 1 + 1 ≠ b + 1 + 1 + 1 + 1; omega
  · show b + 1 ≠ b + 1 + 1 + 1 + 1; omega
end
end
section
open LCg
/-! the loop over the witness: a list of names grows, a list of columns is changed, an int multiplied -/
noncomputable abbrev tup3 (z a b : Int) (q1 q2 q3 : Tok) (n : Nat) : Obj := { cls := .type "tuple", data := .seq #[.int z q1, .int a q2, .int b q3] n }
inductive LwJ (lD lL : Addr) (rest : Led) (m₀ : Str → Option Value) (nsL : List Int → List Int) (pr : List Int → Int) (pre : List Int) (m : Str → Option Value) (nx : Led) : Prop
  | mk (vsD vsL : List Value) (e1 e2 : Nat) (tp : Tok) (e : nx = (lD, W.listOf vsD.toArray e1) :: (lL, W.listOf vsL.toArray e2) :: rest) (hD : IntsAre vsD (0 :: pre)) (hL : IntsAre vsL (nsL pre))
      (hm : ∀ y, y ≠ Str.ofString "size" → y ≠ Str.ofString "low" → y ≠ Str.ofString "high" → m y = if y = Str.ofString "product" then some (.int (pr pre) tp) else m₀ y)
theorem over3 {p q r : Str} {u v w : Option Value} {f g : Str → Option Value} (h : ∀ y, y ≠ r → y ≠ q → y ≠ p → g y = f y) : (fun y => if y = p then u else if y = q then v else if y = r then w else f y) = (fun y => if y = p then u else if y = q then v else if y = r then w else g y) := by
  funext y
  by_cases y1 : y = p
  · rw [if_pos y1, if_pos y1]
  · rw [if_neg y1, if_neg y1]
    by_cases y2 : y = q
    · rw [if_pos y2, if_pos y2]
    · rw [if_neg y2, if_neg y2]
      by_cases y3 : y = r
      · rw [if_pos y3, if_pos y3]
      · rw [if_neg y3, if_neg y3, h y y3 y2 y1]
theorem self3 {p q r : Str} {f g : Str → Option Value} (h : ∀ y, y ≠ p → y ≠ q → y ≠ r → f y = g y) : (fun y => if y = p then f y else if y = q then f y else if y = r then f y else g y) = f := by
  funext y
  by_cases y1 : y = p
  · rw [if_pos y1]
  · rw [if_neg y1]
    by_cases y2 : y = q
    · rw [if_pos y2]
    · rw [if_neg y2]
      by_cases y3 : y = r
      · rw [if_pos y3]
      · rw [if_neg y3, h y y1 y2 y3]
section
variable {prog : Program} {w : World} {A : Around} {E : Value → Shared → Prop} {s₁ : Shared} {env : Env} {h₀ : Heap} {Q : Flow → Shared → Prop} {body : List Stmt}
theorem wit_loop {lD lL lW : Addr} {rest : Led} {m : Str → Option Value} {vsW vsD₀ vsL₀ : List Value} {epW e₁ e₂ : Nat} {tp₀ : Tok} {zs : List Int} {S1 S2 : WS} (nsL : List Int → List Int) (pr : List Int → Int)
    (hh : A.handled = none) (F : Fr h₀ env.locals s₁.heap m) (N : News h₀ env.locals s₁.heap ((lD, W.listOf vsD₀.toArray e₁) :: (lL, W.listOf vsL₀.toArray e₂) :: rest)) (hW : (lW, W.listOf vsW.toArray epW) ∈ rest) (hlen : vsW.length = zs.length)
    (hrow : ∀ (i : Nat) (v : Value), vsW[i]? = some v → ∃ (z : Int) (ad : Addr) (n : Nat) (q1 q2 q3 : Tok), zs[i]? = some z ∧ v = .ref ad ∧ (ad, tup3 z (level S1 z) (level S2 z) q1 q2 q3 n) ∈ rest)
    (hD : IntsAre vsD₀ [0]) (hL : IntsAre vsL₀ (nsL [])) (hp : m (Str.ofString "product") = some (.int (pr []) tp₀))
    (turn : ∀ (i : Nat) z vsD vsL e1 e2 tp q1 q2 q3 h tk own, zs[i]? = some z → IntsAre vsD (0 :: zs.take i) → IntsAre vsL (nsL (zs.take i)) → OwnOff own (lD :: lL :: rest.map (·.1)) →
      Fr h₀ env.locals h (fun y => if y = Str.ofString "high" then some (.int (level S2 z) q3) else if y = Str.ofString "low" then some (.int (level S1 z) q2) else if y = Str.ofString "size" then some (.int z q1) else if y = Str.ofString "product" then some (.int (pr (zs.take i)) tp) else m y) →
      News h₀ env.locals h ((lD, W.listOf vsD.toArray e1) :: (lL, W.listOf vsL.toArray e2) :: (rest ++ own)) →
      wpAny (model prog w) A (execs body env) (InvPostG h₀ env.locals (LwJ lD lL rest m nsL pr (zs.take i ++ [z])) own { s₁ with heap := h, toks := tk } Q) E { s₁ with heap := h, toks := tk })
    (done : ∀ vsD vsL e1 e2 tp (u : Str → Option Value) h tk, IntsAre vsD (0 :: zs) → IntsAre vsL (nsL zs) → Fr h₀ env.locals h (fun y => if y = Str.ofString "size" then u y else if y = Str.ofString "low" then u y else if y = Str.ofString "high" then u y else if y = Str.ofString "product" then some (.int (pr zs) tp) else m y) →
      News h₀ env.locals h ((lD, W.listOf vsD.toArray e1) :: (lL, W.listOf vsL.toArray e2) :: rest) → Q .next { s₁ with heap := h, toks := tk }) :
    Loop3 prog w A h₀ env (Str.ofString "size") (Str.ofString "low") (Str.ofString "high") body Q E (.ref lW) s₁ := by
  have hsz : vsW.toArray.size = zs.length := by rw [List.size_toArray, hlen]
  refine ⟨lW, vsW.toArray, _, m, fun i m₁ nx => LwJ lD lL rest m nsL pr (zs.take i) m₁ nx, rfl, hh, F, N, .inr ⟨_, .tail _ (.tail _ hW), rfl, _, rfl⟩, ⟨vsD₀, vsL₀, e₁, e₂, tp₀, rfl, hD, hL, fun y _ _ _ => ?_⟩, ?_, ?_, ?_⟩
  · by_cases e : y = Str.ofString "product"
    · rw [if_pos e, e, List.take_zero]; exact hp
    · rw [if_neg e]
  · rintro i m₁ nx ⟨vsD, vsL, e1, e2, tp, rfl, _⟩
    exact .inr ⟨_, .tail _ (.tail _ hW), rfl, _, rfl⟩
  · rintro i v m₁ nx hv ⟨vsD, vsL, e1, e2, tp, rfl, hd, hl, hm⟩
    have hv' : vsW[i]? = some v := by simpa using hv
    obtain ⟨z, ad, n, q1, q2, q3, hz, rfl, hmt⟩ := hrow i v hv'
    refine ⟨ad, _, _, _, _, n, rfl, .tail _ (.tail _ hmt), rfl, rfl, fun h tk own hoff F' N' => ?_⟩
    have hs : zs.take (i + 1) = zs.take i ++ [z] := by rw [List.take_add_one, hz]; rfl
    rw [hs]
    refine turn i z vsD vsL e1 e2 tp q1 q2 q3 h tk own hz hd hl hoff ?_ N'
    have e := over3 (p := Str.ofString "high") (q := Str.ofString "low") (r := Str.ofString "size") (u := some (.int (level S2 z) q3)) (v := some (.int (level S1 z) q2)) (w := some (.int z q1)) hm
    rw [e]
    exact F'
  · rintro m₁ nx h tk ⟨vsD, vsL, e1, e2, tp, rfl, hd, hl, hm⟩ F' N'
    have hz : zs.take vsW.toArray.size = zs := by rw [hsz, List.take_length]
    rw [hz] at hd hl hm
    refine done vsD vsL e1 e2 tp m₁ h tk hd hl ?_ N'
    have e := self3 hm
    rw [e]
    exact F'
theorem wit_end {lD lL L : Addr} {rest own news' : Led} {m₀ m' : Str → Option Value} {nsL : List Int → List Int} {pr : List Int → Int} {pre : List Int} {vsD vsL : List Value} {e1 e2 : Nat} {tp : Tok} {h' : Heap} {tk : Nat}
    (F : Fr h₀ L h' m') (N : News h₀ L h' news') (m1 : (lD, W.listOf vsD.toArray e1) ∈ news') (m2 : (lL, W.listOf vsL.toArray e2) ∈ news') (hn : ∀ p ∈ rest, p ∈ news') (ho : ∀ p ∈ own, p ∈ news') (ha : OwnOff own (lD :: lL :: rest.map (·.1)))
    (hD : IntsAre vsD (0 :: pre)) (hL : IntsAre vsL (nsL pre)) (hm : ∀ y, y ≠ Str.ofString "size" → y ≠ Str.ofString "low" → y ≠ Str.ofString "high" → m' y = if y = Str.ofString "product" then some (.int (pr pre) tp) else m₀ y) :
    InvEndG h₀ L (LwJ lD lL rest m₀ nsL pr pre) own s₁ { s₁ with heap := h', toks := tk } :=
  InvEndG.intro F N ⟨vsD, vsL, e1, e2, tp, rfl, hD, hL, hm⟩ ha (List.forall_mem_cons.mpr ⟨m1, List.forall_mem_cons.mpr ⟨m2, hn⟩⟩) ho
end
/-! apart from a list of ints: a list of rows, a tuple -/
theorem ints_cons {vs : List Value} {n : Int} {ns : List Int} (h : IntsAre vs (n :: ns)) : ∃ t vs', vs = .int n t :: vs' := by
  cases h with
  | cons _ t _ => exact ⟨t, _, rfl⟩
theorem apart_rows {h₀ h : Heap} {L a l : Addr} {all tups : Led} {vs vsD : List Value} {ep e : Nat} {n : Int} {ns : List Int} {rs : List (Int × Int × Int)} (N : News h₀ L h all) (h1 : (l, W.listOf vs.toArray ep) ∈ all) (h2 : (a, W.listOf vsD.toArray e) ∈ all) (hd : DatAll tups vs (rs.map rowD)) (hi : IntsAre vsD (n :: ns)) : l ≠ a := by
  rintro rfl
  have q1 := (N _ h1).1
  have q2 := (N _ h2).1
  have q3 : W.listOf vs.toArray ep = W.listOf vsD.toArray e := Option.some.inj (q1.symm.trans q2)
  have q4 : vs.toArray = vsD.toArray := by injection (congrArg Obj.data q3)
  have q5 : vs = vsD := by simpa using q4
  obtain ⟨t, vs', e1⟩ := ints_cons hi
  cases rs with
  | nil =>
    have := datNil_inv hd
    rw [q5, e1] at this
    cases this
  | cons r rs =>
    obtain ⟨v, vs'', e2, hv, _⟩ := datCons_inv hd
    obtain ⟨ad, _, _, _, _, e3, _⟩ := row_open (z := r.1) (a := r.2.1) (b := r.2.2) hv
    rw [q5, e1] at e2
    cases e2
    cases e3
theorem apart_tup {h₀ h : Heap} {L a : Addr} {all : Led} {vsD : List Value} {e : Nat} {p : Addr × Obj} (N : News h₀ L h all) (h1 : p ∈ all) (h2 : (a, W.listOf vsD.toArray e) ∈ all) (hp : p.2.cls = .type "tuple") : p.1 ≠ a := by
  intro e1
  have q1 := (N _ h1).1
  have q2 := (N _ h2).1
  rw [e1] at q1
  have q3 : p.2 = W.listOf vsD.toArray e := Option.some.inj (q1.symm.trans q2)
  rw [q3] at hp
  have : "list" = "tuple" := by injection hp
  exact absurd this (by decide)
/-- the tuples alone -/
theorem tups_only {tups : Led} {vs : List Value} {zs : List Int} {S1 S2 : WS} (hd : DatAll tups vs ((zs.map (rowAt S1 S2)).map rowD)) : ∃ tups' : Led, (∀ p ∈ tups', p ∈ tups) ∧ (∀ p ∈ tups', p.2.cls = .type "tuple") ∧ vs.length = zs.length ∧
    ∀ (i : Nat) (v : Value), vs[i]? = some v → ∃ (z : Int) (ad : Addr) (n : Nat) (q1 q2 q3 : Tok), zs[i]? = some z ∧ v = .ref ad ∧ (ad, tup3 z (level S1 z) (level S2 z) q1 q2 q3 n) ∈ tups' := by
  classical
  refine ⟨tups.filter fun p => decide (p.2.cls = .type "tuple"), fun p hp => (List.mem_filter.mp hp).1, fun p hp => of_decide_eq_true (List.mem_filter.mp hp).2, by rw [hd.length, List.length_map, List.length_map], fun i v hv => ?_⟩
  obtain ⟨d, hd1, hd2⟩ := datGet hd (by simpa using hv)
  obtain ⟨z, hz, rfl⟩ := row_at hd1
  obtain ⟨ad, n, q1, q2, q3, e, hm⟩ := row_open hd2
  exact ⟨z, ad, n, q1, q2, q3, hz, e, List.mem_filter.mpr ⟨hm, decide_eq_true rfl⟩⟩
end
section
theorem foldl_congr' {f g : Int → Int → Int} : ∀ {l : List Int}, (∀ z ∈ l, ∀ p, f p z = g p z) → ∀ p, l.foldl f p = l.foldl g p
  | [], _, _ => rfl
  | z :: l, h, p => by
    rw [List.foldl_cons, List.foldl_cons, h z (.head _), foldl_congr' fun y hy => h y (.tail _ hy)]
theorem fold_filter {f : Int → Int} {q : Int → Bool} : ∀ {l : List Int}, (∀ z ∈ l, q z = false → f z = 1) → ∀ p, (l.filter q).foldl (fun p z => p * f z) p = l.foldl (fun p z => p * f z) p
  | [], _, _ => rfl
  | z :: l, h, p => by
    have ih := fold_filter (f := f) (q := q) (l := l) fun y hy => h y (.tail _ hy)
    cases e : q z with
    | true => rw [List.filter_cons_of_pos (by simp [e]), List.foldl_cons, List.foldl_cons, ih]
    | false => rw [List.filter_cons_of_neg (by simp [e]), List.foldl_cons, h z (.head _) e, Int.mul_one, ih]
theorem fold_ge {f : Int → Int} : ∀ {l : List Int}, (∀ z ∈ l, 1 ≤ f z) → ∀ p, 1 ≤ p → p ≤ l.foldl (fun p z => p * f z) p
  | [], _, p, _ => Int.le_refl p
  | z :: l, h, p, hp => by
    rw [List.foldl_cons]
    have h1 := h z (.head _)
    have h2 : p * 1 ≤ p * f z := Int.mul_le_mul_of_nonneg_left h1 (by omega)
    have h3 := fold_ge (l := l) (fun y hy => h y (.tail _ hy)) (p * f z) (by omega)
    omega
theorem step_range (n : Nat) : stepKs 1 1 n = rangeKs 1 n := by
  unfold stepKs rangeKs
  refine List.map_congr_left fun i _ => by omega
theorem range_sorted (a : Int) (n : Nat) : (rangeKs a n).Pairwise (· < ·) := by
  unfold rangeKs
  refine List.Pairwise.map _ (fun i j (h : i < j) => ?_) List.pairwise_lt_range
  omega
theorem sorted_take {l : List Int} (h : l.Pairwise (· < ·)) {i : Nat} {z : Int} (hz : l[i]? = some z) : ∀ y ∈ l.take i, y < z := by
  have e := List.take_append_drop i l
  rw [← e] at h
  have hd : z ∈ l.drop i := by
    have : (l.drop i)[0]? = some z := by rw [List.getElem?_drop]; exact hz
    exact List.mem_of_getElem? this
  exact fun y hy => (List.pairwise_append.mp h).2.2 y hy z hd
theorem last_lt {pre : List Int} {z : Int} (h0 : 0 < z) (h : ∀ y ∈ pre, y < z) : (0 :: pre).getD ((0 :: pre).length - 1) 0 < z := by
  have hl : (0 :: pre).length - 1 < (0 :: pre).length := by rw [List.length_cons]; omega
  rw [List.getD_eq_getElem?_getD, List.getElem?_eq_getElem hl]
  have hm := List.getElem_mem hl
  rcases List.mem_cons.mp hm with e | hm
  · show (0 :: pre)[_] < z
    rw [e]; exact h0
  · exact h _ hm
noncomputable def namesF (S1 S2 : WS) (t : Nat) : List Int := (rangeKs 1 t).filter fun z => level S1 z != level S2 z
noncomputable def leftF (S1 S2 : WS) (N : Nat) (pre : List Int) : List Int := (stepKs 1 1 N).map fun z => if z ∈ pre then level S1 z else level S2 z
noncomputable def facF (a b c z : Int) : Int := shareF z ^ (expZ a b c z).toNat
noncomputable def prodF (a b c : Int) (pre : List Int) : Int := pre.foldl (fun p z => p * facF a b c z) 1
theorem names_rows (S1 S2 : WS) (t : Nat) : neRows S1 S2 (rangeKs 1 t) = (namesF S1 S2 t).map (rowAt S1 S2) := rfl
theorem leftF_len (S1 S2 : WS) (N : Nat) (pre : List Int) : (leftF S1 S2 N pre).length = N := by unfold leftF; rw [List.length_map, stepKs_len]
theorem leftF_nil (S1 S2 : WS) (N : Nat) : leftF S1 S2 N [] = (stepKs 1 1 N).map fun z => level S2 z := by
  unfold leftF
  refine List.map_congr_left fun z _ => by rw [if_neg (by simp)]
theorem step_get {N i : Nat} (h : i < N) : (stepKs 1 1 N)[i]? = some (1 + (i : Int)) := by
  unfold stepKs
  rw [List.getElem?_map, List.getElem?_range h]
  show some (1 + (i : Int) * 1) = _
  rw [Int.mul_one]
theorem map_at {N : Nat} {f : Int → Int} {z : Int} (h0 : 1 ≤ z) (h1 : z ≤ N) : ((stepKs 1 1 N).map f).getD (z - 1).toNat 0 = f z := by
  rw [List.getD_eq_getElem?_getD, List.getElem?_map, step_get (by omega)]
  show f (1 + ((z - 1).toNat : Int)) = f z
  congr 1
  omega
theorem leftF_set {S1 S2 : WS} {N : Nat} {pre : List Int} {z : Int} (h0 : 1 ≤ z) (h1 : z ≤ N) : (leftF S1 S2 N pre).set (z - 1).toNat (level S1 z) = leftF S1 S2 N (pre ++ [z]) := by
  refine List.ext_getElem? fun i => ?_
  rw [List.getElem?_set, leftF_len]
  by_cases hi : i < N
  · have g : ∀ q, (leftF S1 S2 N q)[i]? = some (if 1 + (i : Int) ∈ q then level S1 (1 + (i : Int)) else level S2 (1 + (i : Int))) := fun q => by
      unfold leftF
      rw [List.getElem?_map, step_get hi]
      rfl
    rw [g, g]
    by_cases e : (z - 1).toNat = i
    · have e2 : 1 + (i : Int) = z := by omega
      rw [if_pos e, if_pos (by omega), e2, if_pos (by simp)]
    · have e2 : 1 + (i : Int) ≠ z := by omega
      rw [if_neg e]
      congr 1
      by_cases hm : 1 + (i : Int) ∈ pre
      · rw [if_pos hm, if_pos (by simp [hm])]
      · rw [if_neg hm, if_neg (by simp [hm, e2])]
  · have g : ∀ q, (leftF S1 S2 N q)[i]? = none := fun q => List.getElem?_eq_none (by rw [leftF_len]; omega)
    rw [g, g, if_neg (by omega)]
theorem prodF_snoc (a b c : Int) (pre : List Int) (z : Int) : prodF a b c (pre ++ [z]) = prodF a b c pre * facF a b c z := by
  unfold prodF
  rw [List.foldl_append, List.foldl_cons, List.foldl_nil]
theorem share_pos : ∀ n ∈ List.range 13, 1 ≤ SH.getD n 0 ∧ SH.getD n 0 < 2 ^ 200 := by decide +kernel
theorem share_bd {z : Int} (h0 : 0 ≤ z) (h1 : z ≤ 12) : 1 ≤ shareF z ∧ shareF z < 2 ^ 200 ∧ shareF z = SH.getD z.toNat 0 := by
  have hm : z.toNat ∈ List.range 13 := List.mem_range.mpr (by omega)
  have e : ((z.toNat : Nat) : Int) = z := by omega
  have h2 := share_is _ hm
  rw [e] at h2
  have h3 := share_pos _ hm
  rw [← h2] at h3
  exact ⟨h3.1, h3.2, h2⟩
theorem share_pow {z e : Int} (h0 : 0 ≤ z) (h1 : z ≤ 12) (h2 : 0 ≤ e) (h3 : e ≤ 12) : (Builtin.Int.intBits (shareF z) : Int) * e ≤ 2 ^ 27 := by
  have h := share_bd h0 h1
  have h4 : Builtin.Int.intBits (shareF z) ≤ 200 := intBits_le_iff.mpr (by omega)
  have h5 : (Builtin.Int.intBits (shareF z) : Int) * e ≤ 200 * e := Int.mul_le_mul_of_nonneg_right (by omega) h2
  omega
namespace LawG
variable {a b c n bl M : Int} {both : List Int} {b1 b2 : Int}
theorem ne_iff (G : LawG a b c n both bl M) {z : Int} (hz : 1 ≤ z) : level (stOf (runs1 a b c both) bl) z = level (stOf (runs2 both n) bl) z ↔ expZ a b c z = 0 := by
  rw [G.lev (b1 := bl) (b2 := bl) hz]
  have h := G.exp_bd hz
  constructor
  · intro e
    have e2 : z * expZ a b c z = 0 := by omega
    rcases Int.mul_eq_zero.mp e2 with e3 | e3
    · omega
    · exact e3
  · intro e
    rw [e, Int.mul_zero]; omega
theorem fac_one (_G : LawG a b c n both bl M) {z : Int} (h : expZ a b c z = 0) : facF a b c z = 1 := by
  unfold facF
  rw [h]
  exact Int.pow_zero _
theorem fac_ge (G : LawG a b c n both bl M) {z : Int} (h0 : 1 ≤ z) : 1 ≤ facF a b c z := by
  by_cases h : z ≤ n
  · have hn := G.n12
    have hs := (share_bd (z := z) (by omega) (by omega)).1
    unfold facF
    have : (0 : Int) < shareF z ^ (expZ a b c z).toNat := Int.pow_pos (by omega)
    omega
  · rw [G.fac_one (G.exp_hi (by omega))]
    exact Int.le_refl _
theorem get (G : LawG a b c n both bl M) {t i : Nat} {z : Int} (hz : (namesF (stOf (runs1 a b c both) bl) (stOf (runs2 both n) bl) t)[i]? = some z) : 1 ≤ z ∧ z ≤ t ∧ z ≤ n ∧ 0 < expZ a b c z ∧ expZ a b c z ≤ 12 ∧ ∀ y ∈ (namesF (stOf (runs1 a b c both) bl) (stOf (runs2 both n) bl) t).take i, y < z := by
  have hm := List.mem_of_getElem? hz
  unfold namesF at hm
  obtain ⟨h1, h2⟩ := List.mem_filter.mp hm
  have h3 := mem_rangeKs h1
  have h4 : level (stOf (runs1 a b c both) bl) z ≠ level (stOf (runs2 both n) bl) z := by simpa using h2
  rw [Ne, G.ne_iff h3.1] at h4
  have h5 := G.exp_bd h3.1
  refine ⟨h3.1, by omega, ?_, by omega, h5.2, sorted_take ((range_sorted 1 t).filter _) hz⟩
  apply Classical.byContradiction
  intro h6
  exact h4 (G.exp_hi (by omega))
theorem prod_range (G : LawG a b c n both bl M) : ∀ t : Nat, n ≤ t → (rangeKs 1 t).foldl (fun p z => p * facF a b c z) 1 = (rangeKs 1 n.toNat).foldl (fun p z => p * facF a b c z) 1
  | 0, h => by
    have hn := G.n12
    have : n.toNat = 0 := by omega
    rw [this]
  | t + 1, h => by
    by_cases e : n ≤ t
    · rw [rangeKs_snoc, List.foldl_append, G.prod_range t e, List.foldl_cons, List.foldl_nil, G.fac_one (G.exp_hi (by omega)), Int.mul_one]
    · have hn := G.n12
      have : n.toNat = t + 1 := by omega
      rw [this]
theorem prod_all (G : LawG a b c n both bl M) {t : Nat} (ht : n ≤ t) : prodF a b c (namesF (stOf (runs1 a b c both) bl) (stOf (runs2 both n) bl) t) = Mq a b c := by
  unfold prodF namesF
  rw [fold_filter, G.prod_range t ht, ← G.prod_range 12 G.n12.2]
  · unfold Mq
    rw [step_range]
    refine foldl_congr' (fun z hz p => ?_) 1
    have hz' := mem_rangeKs hz
    unfold facF
    rw [(share_bd (z := z) (by omega) (by omega)).2.2]
  · intro z hz h
    have hz' := mem_rangeKs hz
    refine G.fac_one ((G.ne_iff hz'.1).mp ?_)
    simpa using h
theorem prod_bd (G : LawG a b c n both bl M) {t : Nat} (ht : n ≤ t) (i : Nat) : 1 ≤ prodF a b c ((namesF (stOf (runs1 a b c both) bl) (stOf (runs2 both n) bl) t).take i) ∧ prodF a b c ((namesF (stOf (runs1 a b c both) bl) (stOf (runs2 both n) bl) t).take i) < 2 ^ 1000 := by
  have hall := G.prod_all ht
  have hm := Mq_bd a (mem5 G.ha.1 G.ha.2) b (mem5 G.hb.1 G.hb.2) c (mem5 G.hc.1 G.hc.2)
  generalize hl : namesF (stOf (runs1 a b c both) bl) (stOf (runs2 both n) bl) t = l at hall ⊢
  have hf : ∀ z ∈ l, 1 ≤ facF a b c z := fun z hz => by
    rw [← hl] at hz
    unfold namesF at hz
    exact G.fac_ge (mem_rangeKs (List.mem_filter.mp hz).1).1
  have e := List.take_append_drop i l
  have h1 : 1 ≤ prodF a b c (l.take i) := fold_ge (fun z hz => hf z (List.mem_of_mem_take hz)) 1 (Int.le_refl _)
  refine ⟨h1, ?_⟩
  have h2 : prodF a b c (l.take i) ≤ prodF a b c l := by
    conv => rhs; rw [← e]
    unfold prodF
    rw [List.foldl_append]
    exact fold_ge (fun z hz => hf z (List.mem_of_mem_drop hz)) _ h1
  omega
theorem left_all (G : LawG a b c n both bl M) {t N : Nat} (ht : n ≤ t) : leftF (stOf (runs1 a b c both) bl) (stOf (runs2 both n) bl) N (namesF (stOf (runs1 a b c both) bl) (stOf (runs2 both n) bl) t) = (stepKs 1 1 N).map fun z => level (stOf (runs1 a b c both) bl) z := by
  unfold leftF
  refine List.map_congr_left fun z hz => ?_
  rw [step_range] at hz
  have hz' := mem_rangeKs hz
  by_cases hm : z ∈ namesF (stOf (runs1 a b c both) bl) (stOf (runs2 both n) bl) t
  · rw [if_pos hm]
  · rw [if_neg hm]
    refine ((G.ne_iff hz'.1).mpr ?_).symm
    apply Classical.byContradiction
    intro he
    have hzn : z ≤ n := by
      apply Classical.byContradiction
      intro h6
      exact he (G.exp_hi (by omega))
    refine hm (List.mem_filter.mpr ⟨mem_rangeKs_of hz'.1 (by omega), ?_⟩)
    have := mt (G.ne_iff hz'.1).mp he
    simpa using this
theorem mul_ok (G : LawG a b c n both bl M) {t i : Nat} {z : Int} (ht : n ≤ t) (h0 : 1 ≤ z) (h1 : z ≤ n) : IntMulOk (prodF a b c ((namesF (stOf (runs1 a b c both) bl) (stOf (runs2 both n) bl) t).take i)) (shareF z ^ (expZ a b c z).toNat) := by
  have h2 := G.prod_bd ht i
  have hn := G.n12
  have h3 := share_bd (z := z) (by omega) (by omega)
  have h4 := G.exp_bd h0
  refine mulOk_of_bits (m := 1000) (n := 200 * (expZ a b c z).toNat + 1) (intBits_le_iff.mpr (by omega)) (intBits_pow_le (intBits_le_iff.mpr (by omega)) _) (by omega)
end LawG
end
section
open LCg
/-! a range that is kept: an object of the ledger -/
noncomputable abbrev rangeObj (a b : Int) (t u v : Tok) : Obj := { cls := .type "range", dict := none, data := .fields #[.int a t, .int b u, .int 1 v], slots := #[] }
section
variable {prog : Program} {w : World} {A : Around} {E : Value → Shared → Prop} {s : Shared} {h₀ : Heap} {L : Addr} {m : Str → Option Value} {env : Env} {news : Led}
theorem range2_news {Q : Value → Shared → Prop} {a b : Int} {t u : Tok} (F : Fr h₀ L s.heap m) (N : News h₀ L s.heap news)
    (h : ∀ h' tk t₁ u₁ v₁ r, Fr h₀ L h' m → News h₀ L h' ((r, rangeObj a b t₁ u₁ v₁) :: news) → Q (.ref r) { s with heap := h', toks := tk }) :
    wpAny (model prog w) A (call (.type "range") [.int a t, .int b u]) Q E s :=
  range2_rows F N fun h' tk t₁ u₁ v₁ hr F' N' _ => h h' tk t₁ u₁ v₁ _ F' (List.forall_mem_cons.mpr ⟨⟨hr, Ne.symm (Nat.ne_of_lt F.ns.lt), next_is_new F⟩, N'⟩)
end
/-! comprehensions over a range that make rows -/
noncomputable abbrev JR (n : Nat) (p : Int → Bool) (f : Int → Int × Int × Int) (B : Led) (i : Nat) (ys : List Value) (nx : Led) : Prop := ∃ tups, nx = tups ++ B ∧ DatAll tups ys ((((rangeKs 1 n).take i).filter p).map fun z => rowD (f z))
theorem jr_yes {h₀ : Heap} {L I C D D' : Addr} {m : Str → Option Value} {s₁ : Shared} {oI oC : Obj} {h' : Heap} {tk : Nat} {all tups B : Led} {n : Nat} {p : Int → Bool} {f : Int → Int × Int × Int} {i : Nat} {z : Int} {ys : List Value} {t₁ t₂ t₃ : Tok}
    (F : Fr h₀ L h' m) (N : News h₀ L h' all) (hz : (rangeKs 1 n)[i]? = some z) (hj : DatAll tups ys ((((rangeKs 1 n).take i).filter p).map fun z => rowD (f z))) (off : Off3 I C D (tups ++ B)) (hp : p z = true)
    (hD : (D', ({ cls := .type "tuple", data := .seq #[.int (f z).1 t₁, .int (f z).2.1 t₂, .int (f z).2.2 t₃] } : Obj)) ∈ all) (sub : ∀ p ∈ (I, oI) :: (C, oC) :: (D, lst ys) :: (tups ++ B), p ∈ all) (ne : I < D' ∧ C < D' ∧ D < D') :
    CompEnd h₀ L m s₁ I oI C oC D (lst ys) (fun _ => True) (fun y news' => JR n p f B (i + 1) (ys ++ [y]) news') (.ref D') { s₁ with heap := h', toks := tk } := by
  refine CompEnd.intro F N ((D', ({ cls := .type "tuple", data := .seq #[.int (f z).1 t₁, .int (f z).2.1 t₂, .int (f z).2.2 t₃] } : Obj)) :: (tups ++ B)) ?_ ⟨⟨Ne.symm (Nat.ne_of_lt ne.1), Ne.symm (Nat.ne_of_lt ne.2.1), Ne.symm (Nat.ne_of_lt ne.2.2)⟩, off⟩ trivial ⟨_ :: tups, rfl, ?_⟩
  · intro q hq
    rcases List.mem_cons.mp hq with rfl | hq
    · exact sub _ (.head _)
    · rcases List.mem_cons.mp hq with rfl | hq
      · exact sub _ (.tail _ (.head _))
      · rcases List.mem_cons.mp hq with rfl | hq
        · exact sub _ (.tail _ (.tail _ (.head _)))
        · rcases List.mem_cons.mp hq with rfl | hq
          · exact hD
          · exact sub _ (.tail _ (.tail _ (.tail _ hq)))
  · rw [flt_yes hz hp]
    exact datRow hj
theorem jr_no {h₀ : Heap} {L I C D : Addr} {m : Str → Option Value} {s₁ : Shared} {oI oC : Obj} {h' : Heap} {tk : Nat} {all tups B : Led} {n : Nat} {p : Int → Bool} {f : Int → Int × Int × Int} {i : Nat} {z : Int} {ys : List Value} {y : Value}
    (F : Fr h₀ L h' m) (N : News h₀ L h' all) (hz : (rangeKs 1 n)[i]? = some z) (hj : DatAll tups ys ((((rangeKs 1 n).take i).filter p).map fun z => rowD (f z))) (off : Off3 I C D (tups ++ B)) (hp : p z = false)
    (sub : ∀ p ∈ (I, oI) :: (C, oC) :: (D, lst ys) :: (tups ++ B), p ∈ all) :
    CompEnd h₀ L m s₁ I oI C oC D (lst ys) (fun _ => True) (fun _ news' => JR n p f B (i + 1) ys news') y { s₁ with heap := h', toks := tk } := by
  refine CompEnd.intro F N (tups ++ B) sub off trivial ⟨tups, rfl, ?_⟩
  rw [flt_no hz hp]
  exact hj
theorem any_in {l : List Int} {z : Int} : (!(l.any (· == z))) = decide (z ∉ l) := by
  rw [Bool.eq_iff_iff, Bool.not_eq_true', ← Bool.not_eq_true, List.any_eq_true, decide_eq_true_eq]
  constructor
  · intro h hm
    exact h ⟨z, hm, by simp⟩
  · rintro h ⟨y, hy, e⟩
    exact h ((beq_iff_eq.mp e) ▸ hy)
theorem sub_swap {a b c : Addr × Obj} {X Y all : Led} (h : ∀ p ∈ a :: b :: c :: (Y ++ X), p ∈ all) : ∀ p ∈ a :: b :: c :: (X ++ Y), p ∈ all := by
  intro p hp
  refine h p ?_
  simp only [List.mem_cons, List.mem_append] at hp ⊢
  rcases hp with h | h | h | h | h
  · exact .inl h
  · exact .inr (.inl h)
  · exact .inr (.inr (.inl h))
  · exact .inr (.inr (.inr (.inr h)))
  · exact .inr (.inr (.inr (.inl h)))
theorem news_swap {h₀ h : Heap} {L : Addr} {a b c : Addr × Obj} {X Y : Led} (N : News h₀ L h (a :: b :: c :: (X ++ Y))) : News h₀ L h (a :: b :: c :: (Y ++ X)) :=
  newsSub N (sub_swap fun _ hp => hp)
theorem range_get {n i : Nat} (h : i < n) : (rangeKs 1 n)[i]? = some (1 + (i : Int)) := by
  unfold rangeKs
  rw [List.getElem?_map, List.getElem?_range h]
  rfl
section
variable {prog : Program} {w : World} {A : Around} {h₀ : Heap} {L : Addr} {m : Str → Option Value} {env : Env} {ct elt : PySem.Expr} {x : Str} {scope : Scope} {cl : List (Str × Addr)} {s : Shared} {S : Led → Prop} {P : Nat → Value → Prop} {Fin : List Value → Led → Prop}
theorem compInvTJ {n : Nat} (J : Nat → List Value → Led → Prop)
    (turn : ∀ i ys nx v I oI C oC D m₂ h tk (E' : Value → Shared → Prop), i < n → P i v → J i ys nx → NsObj oC m₂ → m₂ x = some v → Fr h₀ L h m → News h₀ L h ((I, oI) :: (C, oC) :: (D, lst ys) :: nx) → Off3 I C D nx → ((@Ne Nat I C) ∧ (@Ne Nat I D) ∧ (@Ne Nat C D)) →
      wpAny (model prog w) A (isTrue ct (compEnvC scope cl C env) (eval ct (compEnvC scope cl C env))) (fun ok s' => if ok = true then
        wpAny (model prog w) A (eval elt (compEnvC scope cl C env)) (CompEnd h₀ L m { s with heap := h, toks := tk } I oI C oC D (lst ys) S (fun y nx' => J (i + 1) (ys ++ [y]) nx')) E' s'
        else CompEnd h₀ L m { s with heap := h, toks := tk } I oI C oC D (lst ys) S (fun _ nx' => J (i + 1) ys nx') Value.none s') E' { s with heap := h, toks := tk })
    (done : ∀ ys nx, J n ys nx → Fin ys nx) : ∀ (k i : Nat) (ys : List Value) (nx : Led), i + k = n → J i ys nx → LCt.CompRestT prog w A h₀ L m env ct elt x scope cl s S P Fin k i ys nx := by
  intro k
  induction k with
  | zero => intro i ys nx e hj; have e' : i = n := e; subst e'; exact LCt.CompRestT.zero (done ys nx hj)
  | succ k ih =>
    intro i ys nx e hj
    refine LCt.CompRestT.succ fun v I oI C oC D m₂ h tk E' hP hC hx F N off ne => ?_
    refine wpAny_mono (turn i ys nx v I oI C oC D m₂ h tk E' (by omega) hP hj hC hx F N off ne) (fun ok s₂ hq => ?_) fun _ _ q => q
    by_cases hok : ok = true
    · rw [if_pos hok] at hq ⊢
      refine wpAny_mono hq (fun y s₃ hr => ?_) fun _ _ q => q
      obtain ⟨h', tk', nx', e2, F', N', off', hS, hj'⟩ := hr
      exact ⟨h', tk', nx', e2, F', N', off', hS, ih (i + 1) (ys ++ [y]) nx' (by omega) hj'⟩
    · rw [if_neg hok] at hq ⊢
      obtain ⟨h', tk', nx', e2, F', N', off', hS, hj'⟩ := hq
      exact ⟨h', tk', nx', e2, F', N', off', hS, ih (i + 1) ys nx' (by omega) hj'⟩
end
section
variable {prog : Program} {w : World} {A : Around} {h₀ : Heap} {L : Addr} {m : Str → Option Value} {env : Env} {ct elt : PySem.Expr} {x : Str} {scope : Scope} {cl : List (Str × Addr)} {s₁ : Shared} {Q : Value → Shared → Prop}
/-- with one test -/
theorem rowsT {r : Addr} {b : Int} {t u v : Tok} {n : Nat} {B : Led} (p : Int → Bool) (f : Int → Int × Int × Int)
    (hh : A.handled = none) (F : Fr h₀ L s₁.heap m) (N : News h₀ L s₁.heap B) (hm : (r, rangeObj 1 b t u v) ∈ B) (hb : b = n + 1) (hn : n ≤ 1000)
    (turn : ∀ (g : Heap) (i : Nat) (ys : List Value) (tups : Led) (z : Int) (q : Tok) I oI C oC D m₂ h tk (E' : Value → Shared → Prop), (rangeKs 1 n)[i]? = some z → 1 ≤ z → z ≤ n → DatAll tups ys ((((rangeKs 1 n).take i).filter p).map fun z => rowD (f z)) → NsObj oC m₂ → m₂ x = some (.int z q) → Fr h₀ L h m → News h₀ L h ((I, oI) :: (C, oC) :: (D, lst ys) :: (tups ++ B)) → Off3 I C D (tups ++ B) → ((@Ne Nat I C) ∧ (@Ne Nat I D) ∧ (@Ne Nat C D)) →
      wpAny (model prog w) A (isTrue ct (compEnvC scope cl C env) (eval ct (compEnvC scope cl C env))) (fun ok s' => if ok = true then
        wpAny (model prog w) A (eval elt (compEnvC scope cl C env)) (CompEnd h₀ L m { { s₁ with heap := g } with heap := h, toks := tk } I oI C oC D (lst ys) (fun _ => True) (fun y nx' => JR n p f B (i + 1) (ys ++ [y]) nx')) E' s'
        else CompEnd h₀ L m { { s₁ with heap := g } with heap := h, toks := tk } I oI C oC D (lst ys) (fun _ => True) (fun _ nx' => JR n p f B (i + 1) ys nx') Value.none s') E' { { s₁ with heap := g } with heap := h, toks := tk })
    (done : ∀ g ys tups, DatAll tups ys (((rangeKs 1 n).filter p).map fun z => rowD (f z)) → FinE h₀ L m { s₁ with heap := g } Q ys (tups ++ B)) :
    LCt.CompSrcT prog w A h₀ L m env ct elt x scope cl (fun s₂ => FinE h₀ L m s₂ Q) (.ref r) s₁ := by
  refine LCt.CompSrcT.range (a := 1) (b := b) (n := n) hh F N (N _ hm).1 (small_any (by omega) (by omega) (by omega) (by omega) (by omega) (by omega)) (by rw [rangeSize_one]; split <;> omega) (by rw [sizeLine_eq]; omega) fun g => ?_
  refine compInvTJ (JR n p f B) ?_ ?_ n 0 [] B (Nat.zero_add _) ⟨[], rfl, .nil⟩
  · rintro i ys nx v I oI C oC D m₂ h tk E' hi ⟨q, rfl⟩ ⟨tups, rfl, hj⟩ hC hx F N off ne
    exact turn g i ys tups _ q I oI C oC D m₂ h tk E' (range_get hi) (by omega) (by omega) hj hC hx F N off ne
  · rintro ys nx ⟨tups, rfl, hj⟩
    have e : (rangeKs 1 n).take n = rangeKs 1 n := List.take_of_length_le (Nat.le_of_eq (rangeKs_length _ _))
    rw [e] at hj
    exact done g ys tups hj
/-- without a test -/
theorem rowsG {r : Addr} {b : Int} {t u v : Tok} {n : Nat} {B : Led} (f : Int → Int × Int × Int)
    (hh : A.handled = none) (F : Fr h₀ L s₁.heap m) (N : News h₀ L s₁.heap B) (hm : (r, rangeObj 1 b t u v) ∈ B) (hb : b = n + 1) (hn : n ≤ 1000)
    (turn : ∀ (g : Heap) (i : Nat) (ys : List Value) (tups : Led) (z : Int) (q : Tok) I oI C oC D m₂ h tk (E' : Value → Shared → Prop), (rangeKs 1 n)[i]? = some z → 1 ≤ z → z ≤ n → DatAll tups ys ((((rangeKs 1 n).take i).filter fun _ => true).map fun z => rowD (f z)) → NsObj oC m₂ → m₂ x = some (.int z q) → Fr h₀ L h m → News h₀ L h ((I, oI) :: (C, oC) :: (D, lst ys) :: (tups ++ B)) → Off3 I C D (tups ++ B) → ((@Ne Nat I C) ∧ (@Ne Nat I D) ∧ (@Ne Nat C D)) →
      wpAny (model prog w) A (eval elt (compEnvC scope cl C env)) (CompEnd h₀ L m { { s₁ with heap := g } with heap := h, toks := tk } I oI C oC D (lst ys) (fun _ => True) (fun y nx' => JR n (fun _ => true) f B (i + 1) (ys ++ [y]) nx')) E' { { s₁ with heap := g } with heap := h, toks := tk })
    (done : ∀ g ys tups, DatAll tups ys ((rangeKs 1 n).map fun z => rowD (f z)) → FinE h₀ L m { s₁ with heap := g } Q ys (tups ++ B)) :
    SrcG prog w A h₀ L m env elt x scope cl (fun s₂ => FinE h₀ L m s₂ Q) (.ref r) s₁ := by
  refine SrcG.mk ⟨r, 1, b, 1, t, u, v, n, B, rfl, hh, F, N, (N _ hm).1, small_any (by omega) (by omega) (by omega) (by omega) (by omega) (by omega), (by rw [rangeSize_one]; split <;> omega), (by rw [sizeLine_eq]; omega), fun g => ?_⟩
  refine compInv (n := n) (JR n (fun _ => true) f B) ?_ ?_ n 0 [] B (Nat.zero_add _) ⟨[], rfl, .nil⟩
  · rintro i ys nx v I oI C oC D m₂ h tk E' hi ⟨q, rfl⟩ ⟨tups, rfl, hj⟩ hC hx F N off ne
    have e : 1 + (i : Int) * 1 = 1 + (i : Int) := by omega
    rw [e] at hx
    exact turn g i ys tups _ q I oI C oC D m₂ h tk E' (range_get hi) (by omega) (by omega) hj hC hx F N off ne
  · rintro ys nx ⟨tups, rfl, hj⟩
    have e : (rangeKs 1 n).take n = rangeKs 1 n := List.take_of_length_le (Nat.le_of_eq (rangeKs_length _ _))
    rw [e, List.filter_eq_self.mpr (fun _ _ => rfl)] at hj
    exact done g ys tups hj
end
end
section
namespace LawG
variable {a b c n bl M : Int} {both : List Int}
theorem hi_lo (G : LawG a b c n both bl M) {z : Int} (hz : 1 ≤ z) : level (stOf (runs1 a b c both) bl) z ≤ level (stOf (runs2 both n) bl) z := by
  rw [G.lev (b1 := bl) (b2 := bl) hz]
  have h := G.exp_bd hz
  have := Int.mul_nonneg (show 0 ≤ z by omega) h.1
  omega
theorem more (G : LawG a b c n both bl M) {z : Int} (hz : 1 ≤ z) : level (stOf (runs1 a b c both) (bl + 1)) z = level (stOf (runs1 a b c both) bl) z + 1 := by
  rw [level_st _ _ _ G.r1' hz, level_st _ _ _ G.r1' hz]
  omega
theorem more2 (G : LawG a b c n both bl M) {z : Int} (hz : 1 ≤ z) : level (stOf (runs2 both n) (bl + 1)) z = level (stOf (runs2 both n) bl) z + 1 := by
  rw [level_st _ _ _ G.r2' hz, level_st _ _ _ G.r2' hz]
  omega
theorem ge_named (G : LawG a b c n both bl M) (t : Nat) : geRows (stOf (runs1 a b c both) bl) (stOf (runs2 both n) bl) (rangeKs 1 t) =
    ((rangeKs 1 t).filter fun z => decide (z ∉ 0 :: namesF (stOf (runs1 a b c both) bl) (stOf (runs2 both n) bl) t)).map fun z => (z, level (stOf (runs2 both n) bl) z, level (stOf (runs2 both n) bl) z) := by
  unfold geRows
  have e : (rangeKs 1 t).filter (fun ts => decide (level (stOf (runs1 a b c both) bl) ts ≥ level (stOf (runs2 both n) bl) ts)) = (rangeKs 1 t).filter fun z => decide (z ∉ 0 :: namesF (stOf (runs1 a b c both) bl) (stOf (runs2 both n) bl) t) := by
    refine List.filter_congr fun z hz => ?_
    have hz' := mem_rangeKs hz
    have h1 := G.hi_lo hz'.1
    rw [decide_eq_decide]
    unfold namesF
    rw [List.mem_cons, List.mem_filter]
    constructor
    · rintro h2 (h3 | ⟨_, h3⟩)
      · omega
      · have h4 : level (stOf (runs1 a b c both) bl) z ≠ level (stOf (runs2 both n) bl) z := by simpa using h3
        omega
    · intro h2
      have h3 : ¬ (level (stOf (runs1 a b c both) bl) z != level (stOf (runs2 both n) bl) z) = true := fun h4 => h2 (.inr ⟨hz, h4⟩)
      have h4 : level (stOf (runs1 a b c both) bl) z = level (stOf (runs2 both n) bl) z := by simpa using h3
      omega
  rw [← e]
  refine List.map_congr_left fun z hz => ?_
  have hz2 := List.mem_filter.mp hz
  have hz' := mem_rangeKs hz2.1
  have h1 := G.hi_lo hz'.1
  have h2 := of_decide_eq_true hz2.2
  have h3 : level (stOf (runs1 a b c both) bl) z = level (stOf (runs2 both n) bl) z := by omega
  unfold rowAt
  rw [h3]
theorem ge_all (G : LawG a b c n both bl M) (t : Nat) : geRows (stOf (runs2 both n) bl) (stOf (runs1 a b c both) bl) (rangeKs 1 t) =
    (rangeKs 1 t).map fun z => (z, level (stOf (runs2 both n) bl) z, level (stOf (runs1 a b c both) bl) z) := by
  unfold geRows
  have e : (rangeKs 1 t).filter (fun ts => decide (level (stOf (runs2 both n) bl) ts ≥ level (stOf (runs1 a b c both) bl) ts)) = rangeKs 1 t :=
    List.filter_eq_self.mpr fun z hz => decide_eq_true (G.hi_lo (mem_rangeKs hz).1)
  rw [e]
  rfl
theorem ne_more (G : LawG a b c n both bl M) (t : Nat) : neRows (stOf (runs1 a b c both) (bl + 1)) (stOf (runs2 both n) bl) (rangeKs 1 t) =
    (rangeKs 1 t).map fun z => (z, level (stOf (runs1 a b c both) bl) z + 1, level (stOf (runs2 both n) bl) z) := by
  unfold neRows
  have e : (rangeKs 1 t).filter (fun ts => level (stOf (runs1 a b c both) (bl + 1)) ts != level (stOf (runs2 both n) bl) ts) = rangeKs 1 t := by
    refine List.filter_eq_self.mpr fun z hz => ?_
    have hz' := mem_rangeKs hz
    have h2 := G.lev (b1 := bl) (b2 := bl) hz'.1
    have h3 := G.exp_bd hz'.1
    have h4 := G.more hz'.1
    have h5 : level (stOf (runs1 a b c both) (bl + 1)) z ≠ level (stOf (runs2 both n) bl) z := by
      intro h6
      have h7 : z * expZ a b c z = 1 := by omega
      by_cases h8 : z = 1
      · rw [h8, expZ_one] at h7
        omega
      · by_cases h9 : expZ a b c z = 0
        · rw [h9] at h7; omega
        · have h10 : z * 1 ≤ z * expZ a b c z := Int.mul_le_mul_of_nonneg_left (by omega) (by omega)
          omega
    simpa using h5
  rw [e]
  refine List.map_congr_left fun z hz => ?_
  unfold rowAt
  rw [G.more (mem_rangeKs hz).1]
end LawG
/-! less and equal -/
theorem cnt_perm {r1 r2 : List Int} (h1 : ∀ r ∈ r1, 0 ≤ r) (h2 : ∀ r ∈ r2, 0 ≤ r) (hp : r1.Perm r2) : cntOf r1 = cntOf r2 := by
  have l1 : (cntOf r1).length = (cntOf r2).length := by
    unfold cntOf
    rw [cnt_len _ h1, cnt_len _ h2]
    refine Nat.le_antisymm ?_ ?_
    · exact (topRun_le _ _).mpr ⟨by simp, fun r hr => ((topRun_le r2 0).mp (Nat.le_refl _)).2 r (hp.mem_iff.mp hr)⟩
    · exact (topRun_le _ _).mpr ⟨by simp, fun r hr => ((topRun_le r1 0).mp (Nat.le_refl _)).2 r (hp.mem_iff.mpr hr)⟩
  refine List.ext_getElem l1 fun i i1 i2 => ?_
  have e1 := cnt_getD i r1 h1 []
  have e2 := cnt_getD i r2 h2 []
  rw [hp.count_eq, ← e2] at e1
  rw [List.getD_eq_getElem?_getD, List.getD_eq_getElem?_getD] at e1
  have q1 : (cntOf r1)[i]? = some ((cntOf r1)[i]) := List.getElem?_eq_getElem i1
  have q2 : (cntOf r2)[i]? = some ((cntOf r2)[i]) := List.getElem?_eq_getElem i2
  unfold cntOf at q1 q2
  rw [q1, q2] at e1
  exact e1
namespace LawG
variable {a b c n bl M : Int} {both : List Int}
theorem top1 (G : LawG a b c n both bl M) {b1 b2 : Int} (h1 : bl ≤ b1) (h2 : bl ≤ b2) : n ≤ ((topOf (stOf (runs1 a b c both) b1) (stOf (runs2 both n) b2)).toNat : Int) ∧ 1 ≤ (topOf (stOf (runs1 a b c both) b1) (stOf (runs2 both n) b2)).toNat := by
  rw [G.top h1 h2]
  have := G.nM
  have := G.M12
  omega
theorem less12 (G : LawG a b c n both bl M) : ¬ LessP (stOf (runs1 a b c both) bl) (stOf (runs2 both n) bl) := by
  rw [less_iff G.r1' G.r2' G.hbl.1 G.hbl.1]
  intro h
  have h1 := h 1 (mem_rangeKs_of (Int.le_refl _) (by have := (G.top1 (b1 := bl) (b2 := bl) (Int.le_refl _) (Int.le_refl _)).2; omega))
  rw [G.lev (b1 := bl) (b2 := bl) (Int.le_refl _), expZ_one] at h1
  omega
theorem less21 (G : LawG a b c n both bl M) : ¬ LessP (stOf (runs2 both n) bl) (stOf (runs1 a b c both) bl) := by
  rw [less_iff G.r2' G.r1' G.hbl.1 G.hbl.1, topOf_comm]
  intro h
  have h1 := h 1 (mem_rangeKs_of (Int.le_refl _) (by have := (G.top1 (b1 := bl) (b2 := bl) (Int.le_refl _) (Int.le_refl _)).2; omega))
  rw [G.lev (b1 := bl) (b2 := bl) (Int.le_refl _), expZ_one] at h1
  omega
theorem less14 (G : LawG a b c n both bl M) : LessP (stOf (runs1 a b c both) bl) (stOf (runs2 both n) (bl + 1)) := by
  have hb := G.hbl
  rw [less_iff G.r1' G.r2' G.hbl.1 (by omega)]
  intro z hz
  have hz' := mem_rangeKs hz
  rw [G.more2 hz'.1]
  have := G.hi_lo hz'.1
  omega
theorem less23 (G : LawG a b c n both bl M) : LessP (stOf (runs2 both n) bl) (stOf (runs1 a b c both) (bl + 1)) ↔ Mq a b c = 1 := by
  have hb := G.hbl
  rw [less_iff G.r2' G.r1' G.hbl.1 (by omega), topOf_comm, ← G.exp_all (G.top1 (b1 := bl + 1) (b2 := bl) (by omega) (Int.le_refl _)).1]
  constructor
  · intro h z hz
    have hz' := mem_rangeKs hz
    have h1 := h z hz
    rw [G.more hz'.1, G.lev (b1 := bl) (b2 := bl) hz'.1] at h1
    have h2 := G.exp_bd hz'.1
    apply Classical.byContradiction
    intro h3
    have h4 : 0 < z * expZ a b c z := Int.mul_pos (by omega) (by omega)
    omega
  · intro h z hz
    have hz' := mem_rangeKs hz
    rw [G.more hz'.1, G.lev (b1 := bl) (b2 := bl) hz'.1, h z hz, Int.mul_zero]
    omega
theorem equal12 (G : LawG a b c n both bl M) : EqualP (stOf (runs1 a b c both) bl) (stOf (runs2 both n) bl) ↔ Mq a b c = 1 := by
  constructor
  · rintro ⟨h1, _⟩
    rw [← G.exp_all (G.top1 (b1 := bl) (b2 := bl) (Int.le_refl _) (Int.le_refl _)).1]
    intro z hz
    have hz' := mem_rangeKs hz
    rw [← G.ne_iff hz'.1]
    have e1 := cnt_nt (b := bl) G.r1'
    have e2 := cnt_nt (b := bl) G.r2'
    unfold level
    rw [← e1, ← e2, h1]
    rfl
  · intro h
    refine ⟨?_, rfl⟩
    show cntOf (runs1 a b c both) = cntOf (runs2 both n)
    refine cnt_perm G.r1' G.r2' ?_
    have hl := (Mq_lone a (mem5 G.ha.1 G.ha.2) b (mem5 G.hb.1 G.hb.2) c (mem5 G.hc.1 G.hc.2)).mp h
    have hn := G.hn
    have hrev : (both.reverse ++ [n, 0]).Perm (both ++ [n, 0]) := (List.reverse_perm both).append_right _
    have hcom : (both ++ [n, 0]).Perm ([n, 0] ++ both) := List.perm_append_comm
    have h2 : (runs2 both n).Perm (0 :: n :: 0 :: both) := (hrev.trans hcom).cons 0
    refine List.Perm.trans ?_ h2.symm
    unfold runs1
    show (a :: b :: c :: both).Perm _
    rcases hl with ⟨rfl, rfl⟩ | ⟨rfl, rfl⟩ | ⟨rfl, rfl⟩
    · have : n = c := by omega
      subst this
      exact (List.Perm.swap _ _ _).cons 0
    · have : n = b := by omega
      subst this
      exact List.Perm.refl _
    · have : n = a := by omega
      subst this
      exact List.Perm.swap _ _ _
end LawG
end
section

theorem main_02 : PySem.Challenge.rw_pe0294_02.Holds := Mine.hd (by
  k_go0
  (all_goals try k_fold)
  rename Fr _ _ _ _ => lF0
  refine body_cut lF0 ?body ?endq
  case endq =>
    clear lF0
    intro h6 tk6 m6 F6
    k_steps
  clear lF0
  intro F7
  rename Heap.CodeRec _ _ _ => lX1
  rename Dflts _ _ _ _ _ _ => lX2
  clear lX1 lX2
  have hStop : StopAt "exec Assign cons ListComp" := ⟨⟩
  k_steps
  refine Stop.mk ?_
  k_dflt (refine LCg.Assign_ListComp_U (F₀ := by k_asm) (by rfl) (by with_unfolding_all rfl) (by with_unfolding_all rfl) (by decide) (by rfl) (by decide) (by rfl) (by rfl) (by rfl) ?_)
  have hStop : StopAt "subscriptTail BinOp Subscript Add List Slice ref ref" := ⟨⟩
  k_steps
  refine Stop.mk ?_
  refine kba_turn (value' := PySem.Expr.Name (PySem.Str.ofString "_") ⟨0, 0, 0, 0⟩) (fun _ => rfl) ?_
  have hStop : StopAt "call ref" := ⟨⟩
  k_steps
  refine Stop.mk ?_
  rename (List Int) => sc
  rename IntsAre _ (List.map _ (List.take 3 (List.take 3 _ ++ [3, 2, 1]))) => hiC
  rename IntsAre _ (List.map _ (List.take (min 6 _ - 3) _)) => hiB
  rename IntsAre _ (_ ++ List.map _ _) => hiA
  obtain ⟨a, b, c, hCe, ha, hb, hc⟩ := counts_is sc
  rw [hCe] at hiC hiA
  have hBb := both4_bd (List.take (min 6 sc.length - 3) (List.drop 3 sc))
  have hBl := both4_len sc
  rename Fr _ _ _ _ => lF
  dsimp only at lF
  have hBk := fmod_bd (List.take 63 sc).sum 4 (by decide)
  generalize List.map (fun k' => k'.fmod 4) (List.take (min 6 sc.length - 3) (List.drop 3 sc)) = both at hiB hBb hBl hiA
  generalize (List.take 63 sc).sum.fmod 4 = bl at lF hBk ⊢
  have hbl := bl100 hBk
  have hR1 := runs1_bd ha hb hc hBb
  have hL1 : ([a, b, c] ++ both).length ≤ 1000 := len1 hBl
  rename Fr _ _ _ _ => lF
  rename News _ _ _ _ => lN
  k_dflt (refine' ctr_use (lead_ctr _ _ _ _ _ _ _ ?ma ?ia ?la ?ra ?b0a ?b1a) ?k1a lF ?k3a lN ?k5a ?kKa ?kda ?kua ?_; (case k1a => k_asm); (case k3a => k_asm); (case k5a => k_asm); (case kKa => first | exact rfl | assumption); (case kda => ktr_room); (case kua => ktr_units); (case ma => k_mem); (case ia => assumption); (case la => exact hL1); (case ra => exact hR1); (case b0a => exact hBk.1); (case b1a => exact hbl.1))
  intro r9 n9 h7 tk7 ho F7 N7
  obtain ⟨⟨X1, tX1, e1, hX1, hX1l⟩, e2⟩ := ho
  subst e1
  subst e2
  clear lF lN
  try dsimp only
  have hlb := hiB.length
  have kMk := kstMark
  have hStop : StopAt "subscriptTail Name Slice ref ref" := ⟨⟩
  k_steps
  refine Stop.mk ?_
  k_dflt (refine' krv_ints ?Fu1 ?Nu1 ?lu1 ?ku1 ?iu1 ?_ ?su1 ?tu1 ?zu1; (case Fu1 => k_asm); (case Nu1 => k_asm); (case lu1 => exact News.isList (by k_asm) (by k_mem)); (case ku1 => exact IsPart.int _ _); (case iu1 => assumption); (case su1 => with_unfolding_all rfl); (case tu1 => kmk_pure); (case zu1 => (rw [List.size_toArray, sizeLine_eq]; omega)))
  intro D' ws' h' F' N' l1 hI' hC'
  have hl' := IntsAre.length hI'
  (try k_lt l1)
  (try k_sweep)
  have hStop : StopAt "call ref" := ⟨⟩
  k_steps
  refine Stop.mk ?_
  rename IntsAre _ ([0] ++ both.reverse ++ [a + (b + (c + 0)), 0]) => hiJ
  generalize hn9 : a + (b + (c + 0)) = n at hiJ
  have hnn := n_12 ha hb hc hn9
  have hn := hnn.1
  have hn12 := hnn.2
  have hR2 := runs2_bd hn12 hBb
  have hL2 : ([0] ++ both.reverse ++ [n, 0]).length ≤ 1000 := len2 hBl
  have hR2' : ∀ r ∈ [0] ++ both.reverse ++ [n, 0], 0 ≤ r ∧ r ≤ 100 := hR2
  rename Fr _ _ _ _ => lF
  rename News _ _ _ _ => lN
  k_dflt (refine' ctr_use (lead_ctr _ _ _ _ _ _ _ ?mb ?ib ?lb ?rb ?b0b ?b1b) ?k1b lF ?k3b lN ?k5b ?kKb ?kdb ?kub ?_; (case k1b => k_asm); (case k3b => k_asm); (case k5b => k_asm); (case kKb => first | exact rfl | assumption); (case kdb => ktr_room); (case kub => ktr_units); (case mb => k_mem); (case ib => assumption); (case lb => exact hL2); (case rb => exact hR2'); (case b0b => exact hBk.1); (case b1b => exact hbl.1))
  intro r9 n9 h7 tk7 ho F7 N7
  obtain ⟨⟨X2, tX2, e1, hX2, hX2l⟩, e2⟩ := ho
  subst e1
  subst e2
  clear lF lN
  try dsimp only
  have hStop : StopAt "call ref" := ⟨⟩
  k_steps
  refine Stop.mk ?_
  rename Fr _ _ _ _ => lF
  rename News _ _ _ _ => lN
  k_dflt (refine' ctr_use (make_ctr _ _ _ ?mc) ?k1c lF ?k3c lN ?k5c ?kKc ?kdc ?kuc ?_; (case k1c => k_asm); (case k3c => k_asm); (case k5c => k_asm); (case kKc => first | exact rfl | assumption); (case kdc => ktr_room); (case kuc => ktr_units); (case mc => exact Nat.le_trans hX1l (by decide)))
  intro r9 n9 h7 tk7 ho F7 N7
  obtain ⟨W1, S1, hS1, e1, hi1, e2⟩ := ho
  subst e1
  subst e2
  clear lF lN
  rw [st_lead hX1 (fun r hr => (hR1 r hr).1) hBk.1] at hS1
  dsimp only [WW.led, List.cons_append, List.nil_append] at N7
  try dsimp only
  have hStop : StopAt "binaryOp Add str str" := ⟨⟩
  k_steps
  refine Stop.mk ?_
  refine PyProof.Rows.add_str ?_ ?h9ud
  case h9ud => first | exact add_len hX2l lit_xt_len (by decide) | (have h8 := lit_xt_len; rw [sizeLine_eq]; omega)
  intro t9 k9
  have hStop : StopAt "call ref" := ⟨⟩
  k_steps
  refine Stop.mk ?_
  rename Fr _ _ _ _ => lF
  rename News _ _ _ _ => lN
  k_dflt (refine' ctr_use (make_ctr _ _ _ ?me) ?k1e lF ?k3e lN ?k5e ?kKe ?kde ?kue ?_; (case k1e => k_asm); (case k3e => k_asm); (case k5e => k_asm); (case kKe => first | exact rfl | assumption); (case kde => ktr_room); (case kue => ktr_units); (case me => exact app_len hX2l lit_xt_len (by decide)))
  intro r9 n9 h7 tk7 ho F7 N7
  obtain ⟨W2, S2, hS2, e1, hi2, e2⟩ := ho
  subst e1
  subst e2
  clear lF lN
  rw [parse_x hX2 lit_xt (fun r hr => (hR2 r hr).1) hBk.1 (by decide) (by decide)] at hS2
  dsimp only [WW.led, List.cons_append, List.nil_append] at N7
  try dsimp only
  have hStop : StopAt "binaryOp Add str str" := ⟨⟩
  k_steps
  refine Stop.mk ?_
  refine PyProof.Rows.add_str ?_ ?h9uf
  case h9uf => first | exact add_len hX1l lit_bx_len (by decide) | (have h8 := lit_bx_len; rw [sizeLine_eq]; omega)
  intro t9 k9
  have hStop : StopAt "call ref" := ⟨⟩
  k_steps
  refine Stop.mk ?_
  rename Fr _ _ _ _ => lF
  rename News _ _ _ _ => lN
  k_dflt (refine' ctr_use (make_ctr _ _ _ ?mg) ?k1g lF ?k3g lN ?k5g ?kKg ?kdg ?kug ?_; (case k1g => k_asm); (case k3g => k_asm); (case k5g => k_asm); (case kKg => first | exact rfl | assumption); (case kdg => ktr_room); (case kug => ktr_units); (case mg => exact app_len hX1l lit_bx_len (by decide)))
  intro r9 n9 h7 tk7 ho F7 N7
  obtain ⟨W3, S3, hS3, e1, hi3, e2⟩ := ho
  subst e1
  subst e2
  clear lF lN
  rw [parse_more hX1 lit_bx (.inr ⟨_, _, rfl, by decide, by decide⟩) (fun r hr => (hR1 r hr).1) hBk.1] at hS3
  dsimp only [WW.led, List.cons_append, List.nil_append] at N7
  try dsimp only
  have hStop : StopAt "binaryOp Add str str" := ⟨⟩
  k_steps
  refine Stop.mk ?_
  refine PyProof.Rows.add_str ?_ ?h9uh
  case h9uh => first | exact add_len hX2l lit_b_len (by decide) | (have h8 := lit_b_len; rw [sizeLine_eq]; omega)
  intro t9 k9
  have hStop : StopAt "call ref" := ⟨⟩
  k_steps
  refine Stop.mk ?_
  rename Fr _ _ _ _ => lF
  rename News _ _ _ _ => lN
  k_dflt (refine' ctr_use (make_ctr _ _ _ ?mi) ?k1i lF ?k3i lN ?k5i ?kKi ?kdi ?kui ?_; (case k1i => k_asm); (case k3i => k_asm); (case k5i => k_asm); (case kKi => first | exact rfl | assumption); (case kdi => ktr_room); (case kui => ktr_units); (case mi => exact app_len hX2l lit_b_len (by decide)))
  intro r9 n9 h7 tk7 ho F7 N7
  obtain ⟨W4, S4, hS4, e1, hi4, e2⟩ := ho
  subst e1
  subst e2
  clear lF lN
  rw [parse_more hX2 lit_b (.inl rfl) (fun r hr => (hR2 r hr).1) hBk.1] at hS4
  dsimp only [WW.led, List.cons_append, List.nil_append] at N7
  try dsimp only
  have hStop : StopAt "exec Assign cons ListComp" := ⟨⟩
  k_steps
  refine Stop.mk ?_
  rename Fr _ _ _ _ => lF
  rename News _ _ _ _ => eN
  rename (_ ∈ [a + (b + (c + 0)), bl] ++ both) => hm
  rename (∀ r, r ∈ [a + (b + (c + 0)), bl] ++ both → r ≤ _) => hx
  rw [hn9] at hm hx
  rename Obj.data _ = Data.cell (some (Value.str X2 _)) => hcJ
  rename Obj.data _ = Data.cell (bindC _ _ _ _) => q1
  clear q1
  rename Obj.data _ = Data.cell (bindC _ _ _ _) => q2
  have hcR : _ = Data.cell none := q2
  clear q2
  rename Obj.data _ = Data.cell (bindC _ _ _ _) => q3
  have hcL : _ = Data.cell none := q3
  clear q3
  rename Obj.data _ = Data.cell (bindC _ _ _ _) => q4
  have hcN : _ = Data.cell none := q4
  clear q4
  rename Shared => s1
  rename _ ∈ [n, bl] ++ both => hm
  obtain ⟨M, hm, hx, mB, t1, t2, t3, lB, lC, vsC, oR, oL, oN, oJ, B, eF, eN', hiC, hcR, hcL, hcN, hcJ, hBn, hBC, hB1, hB2, hB3, hB4⟩ : ∃ (M : Int), M ∈ [n, bl] ++ both ∧ (∀ r, r ∈ [n, bl] ++ both → r ≤ M) ∧ ∃ (mB : Str → Option Value) (t1 t2 t3 : Tok) (lB lC : Addr) (vsC : List Value) (oR oL oN oJ : Obj) (B : Led),
      Fr s1.heap s1.heap.objs.size _ (fun y : Str => if y = Str.ofString "top" then some (.int (1 + M) t1) else if y = Str.ofString "two_more" then some (.ref W4.x) else if y = Str.ofString "one_more" then some (.ref W3.x) else if y = Str.ofString "two" then some (.ref W2.x) else if y = Str.ofString "one" then some (.ref W1.x) else if y = Str.ofString "apart" then some (.str X1 t2) else if y = Str.ofString "blanks" then some (.int bl t3) else if y = Str.ofString "both" then some (.ref lB) else if y = Str.ofString "counts" then some (.ref lC) else mB y) ∧
      News s1.heap s1.heap.objs.size _ (cells4 s1.heap.objs.size oN oL oR oJ ++ B) ∧
      IntsAre vsC [a, b, c] ∧ oR.data = .cell none ∧ oL.data = .cell none ∧ oN.data = .cell none ∧ oJ.data = .cell (some (.str X2 tX2)) ∧ NoCell B ∧ (lC, LCg.lst vsC) ∈ B ∧ (∀ e ∈ W1.led S1, e ∈ B) ∧ (∀ e ∈ W2.led S2, e ∈ B) ∧ (∀ e ∈ W3.led S3, e ∈ B) ∧ (∀ e ∈ W4.led S4, e ∈ B) :=
    ⟨_, hm, hx, _, _, _, _, _, _, _, _, _, _, _, (_, LCg.lst _) :: (W1.led S1 ++ (W2.led S2 ++ (W3.led S3 ++ W4.led S4))), lF, newsSub eN (by dsimp only [WW.led, cells4, List.cons_append, List.nil_append]; kst_anyIn), hiC, hcR, hcL, hcN, hcJ, .cons (fun _ h => nomatch h) ((led_nocell _ _).append ((led_nocell _ _).append ((led_nocell _ _).append (led_nocell _ _)))), .head _,
      fun e he => .tail _ (List.mem_append_left _ he), fun e he => .tail _ (List.mem_append_right _ (List.mem_append_left _ he)), fun e he => .tail _ (List.mem_append_right _ (List.mem_append_right _ (List.mem_append_left _ he))), fun e he => .tail _ (List.mem_append_right _ (List.mem_append_right _ (List.mem_append_right _ he)))⟩
  dsimp only [cells4, List.cons_append, List.nil_append] at eN'
  clear lF eN
  have G : LawG a b c n both bl M := ⟨ha, hb, hc, hn, hBb, hBl, ⟨hBk.1, hbl.2.2.2⟩, hm, hx⟩
  replace hS1 : stOf (runs1 a b c both) bl = S1 := hS1
  replace hS2 : stOf (runs2 both n) bl = S2 := hS2
  replace hS3 : stOf (runs1 a b c both) (bl + 1) = S3 := hS3
  replace hS4 : stOf (runs2 both n) (bl + 1) = S4 := hS4
  repeat (rename (@Eq Nat _ (min _ _)) => qmin; clear qmin)
  repeat (rename (@LT.lt Nat _ _ _ ∧ _) => qlt; clear qlt)
  have ok1 : S1.Ok := by rw [← hS1]; exact st_ok hR1 hL1 hBk.1 hbl.1
  have ok2 : S2.Ok := by rw [← hS2]; exact st_ok hR2 hL2 hBk.1 hbl.1
  have ok3 : S3.Ok := by rw [← hS3]; exact st_ok hR1 hL1 hbl.2.1 hbl.2.2.1
  have ok4 : S4.Ok := by rw [← hS4]; exact st_ok hR2 hL2 hbl.2.1 hbl.2.2.1
  refine wpAny_Assign_Name ?_
  k_dflt (refine compStep (F₀ := by k_asm) (by with_unfolding_all rfl) (by decide) (by rfl) (by decide) (by rfl) ?_)
  k_steps
  rename Fr _ _ _ _ => lF
  rename News _ _ _ _ => lN
  rename IsRange _ _ _ _ _ _ _ _ => lR
  have hM := G.M12
  generalize hN9 : (if bl + 2 > 1 + M then bl + 2 else 1 + M) = N at lR
  have hNI : NIs N M bl := hN9
  have hNb := hNI.bd hM.2 hbl.2.2.2
  clear hN9
  have hNk : N.toNat ≤ 1000 := NIs.toNat_le hNb.2.2
  k_dflt (refine SrcG.mk ⟨_, _, _, _, _, _, _, N.toNat, _, rfl, rfl, lF, lN, lR, small_one (by decide) (by decide) (by omega) (by omega), (by rw [rangeSize_one]; split <;> omega), (by rw [sizeLine_eq]; omega), fun g => compInvC (fun i ys => IntsAre ys ((stepKs 1 1 i).map fun z => level S2 z)) .nil ?turn ?done⟩)
  case turn =>
    clear lF lN lR
    rintro j ys v I oI C oC D m₂ h9 tk9 E9 hj ⟨t9, rfl⟩ hys hC hx9 F9 N9 off9 ne9
    rw [stepKs_succ, List.map_append]
    generalize hq9 : 1 + (j : Int) * 1 = q at *
    have hStop : StopAt "call ref" := ⟨⟩
    k_steps
    refine Stop.mk ?_
    rename Fr _ _ _ _ => lF
    rename News _ _ _ _ => lN
    k_dflt (refine' ctr_use (column_ctr _ _ _ _ _ ?m) ?k1 lF ?k3 lN ?k5 ?kK ?kd ?ku ?_; (case k1 => k_asm); (case k3 => k_asm); (case k5 => k_asm); (case kK => first | exact rfl | assumption); (case kd => ktr_room); (case ku => ktr_units); (case m => omega))
    intro r9 n9 h7 tk7 ho F7 N7
    obtain ⟨⟨v7, e1⟩, e2⟩ := ho
    subst e1
    subst e2
    clear lF lN
    have e8 : colOf q (KStt.codes X2) = level S2 q := by
      rw [← hS2]
      exact col_lev hX2 (fun r hr => (hR2' r hr).1) hBk.1 (by omega)
    rw [e8]
    k_steps
    rename Fr _ _ _ _ => eF
    rename News _ _ _ _ => eN
    exact LCg.CompEnd.intro eF eN _ (fun p hp => hp) off9 trivial ⟨rfl, ints_snoc hys⟩
  case done =>
    clear lF lN lR
    intro ys hys
    have hStop : StopAt "storeName" := ⟨⟩
    k_steps
    refine Stop.mk ?_
    rename Fr _ _ _ _ => lF
    rename News _ _ _ _ => lN
    have lN2 := newsSub (b := cells4 s1.heap.objs.size oN oL oR oJ ++ ((_, LCg.lst ys) :: B)) lN (by dsimp only [cells4, List.cons_append, List.nil_append]; kst_anyIn)
    k_dflt (refine' storeX_C ?Fs1 ?Ns1 ?cs1 ?Us1 ?ds1 ?_ ?as1 ?bs1; (case as1 => rfl); (case bs1 => rfl); (case Fs1 => exact lF); (case Ns1 => exact lN2); (case cs1 => rfl); (case Us1 => exact updR lN2 (nocell_lst hBn) hcR); (case ds1 => exact hcR))
    clear lF lN lN2 hcR
    intro h8 oR' F8 N8o hcRo
    obtain ⟨lR, hcR, N8⟩ : ∃ (lR : Addr), oR'.data = .cell (some (.ref lR)) ∧ News s1.heap s1.heap.objs.size h8 (cells4 s1.heap.objs.size oN oL oR' oJ ++ ((lR, LCg.lst ys) :: B)) := ⟨_, hcRo, N8o⟩
    clear N8o hcRo
    dsimp only [cells4, List.cons_append, List.nil_append] at N8
    have hysl := hys.length
    rw [List.length_map, stepKs_len] at hysl
    dsimp only
    have hStop : StopAt "subscriptTail Name Slice ref ref" := ⟨⟩
    k_steps
    refine Stop.mk ?_
    k_dflt (refine' kmk_slice_ints ?Fv1 ?Nv1 ?lv1 ?pv1 ?qv1 ?iv1 ?mv1 ?cv1 ?_ ?sv1 ?tv1 ?zv1; (case Fv1 => k_asm); (case Nv1 => k_asm); (case lv1 => exact News.isList (by k_asm) (by k_mem)); (case pv1 => exact IsPart.none); (case qv1 => exact IsPart.none); (case iv1 => exact hys); (case mv1 => exact kmk_all hys); (case cv1 => exact rfl); (case sv1 => with_unfolding_all rfl); (case tv1 => kmk_pure); (case zv1 => (rw [List.size_toArray, sizeLine_eq]; omega)))
    intro lL vsL h7 F7 N7 l1 hiL _ _
    (try k_lt l1)
    (try k_sweep)
    have lF := F7
    have lN2 := newsSub (b := cells4 s1.heap.objs.size oN oL oR' oJ ++ ((lL, W.listOf vsL.toArray 0) :: (lR, LCg.lst ys) :: B)) N7 (by dsimp only [cells4, List.cons_append, List.nil_append]; kst_anyIn)
    have hStop : StopAt "storeName" := ⟨⟩
    k_steps
    refine Stop.mk ?_
    k_dflt (refine' storeX_C ?Fs2 ?Ns2 ?cs2 ?Us2 ?ds2 ?_ ?as2 ?bs2; (case as2 => rfl); (case bs2 => rfl); (case Fs2 => exact lF); (case Ns2 => exact lN2); (case cs2 => rfl); (case Us2 => exact updL lN2 (nocell_list (nocell_lst hBn)) hcL); (case ds2 => exact hcL))
    clear lF lN2 hcL F7 N7
    intro h8 oL' F8 N8 hcL
    dsimp only [cells4, List.cons_append, List.nil_append] at N8
    dsimp only
    have hStop : StopAt "storeName" := ⟨⟩
    k_steps
    refine Stop.mk ?_
    k_dflt (refine' storeX_L ?Fs3 ?Ns3 ?_ ?as3 ?bs3; (case Fs3 => k_asm); (case Ns3 => k_asm); (case as3 => rfl); (case bs3 => rfl))
    clear F8 N8
    intro h8 F8 N8
    dsimp only
    have hStop : StopAt "storeName" := ⟨⟩
    k_steps
    refine Stop.mk ?_
    rename Fr _ _ _ _ => lF
    rename News _ _ _ _ => lN
    rename _ ∧ _ ∧ _ ∧ _ ∧ lL < _ ∧ lR < _ ∧ AllLt _ B => l2o
    have lN2 := newsSub (b := cells4 s1.heap.objs.size oN oL' oR' oJ ++ ((_, W.listOf #[Value.int 0 _] 0) :: (lL, W.listOf vsL.toArray 0) :: (lR, LCg.lst ys) :: B)) lN (by dsimp only [cells4, List.cons_append, List.nil_append]; kst_anyIn)
    k_dflt (refine' storeX_C ?Fs4 ?Ns4 ?cs4 ?Us4 ?ds4 ?_ ?as4 ?bs4; (case as4 => rfl); (case bs4 => rfl); (case Fs4 => exact lF); (case Ns4 => exact lN2); (case cs4 => rfl); (case Us4 => exact updN lN2 (nocell_list (ys := [_]) (nocell_list (nocell_lst hBn))) hcN); (case ds4 => exact hcN))
    clear lF lN2 hcN lN
    intro h8 oN' F8o N8o hcNo
    obtain ⟨lD, t4, t5, hcN, l2, F8, N8⟩ : ∃ (lD : Addr) (t4 t5 : Tok), oN'.data = .cell (some (.ref lD)) ∧ (s1.heap.objs.size + 1 + 1 + 1 + 1 < lD ∧ s1.heap.objs.size + 1 + 1 + 1 < lD ∧ s1.heap.objs.size + 1 + 1 < lD ∧ s1.heap.objs.size + 1 < lD ∧ lL < lD ∧ lR < lD ∧ AllLt lD B) ∧ Fr s1.heap s1.heap.objs.size h8 (fun y : Str => if y = Str.ofString "product" then some (.int 1 t4) else if y = Str.ofString "top" then some (.int (1 + M) t1) else if y = Str.ofString "two_more" then some (.ref W4.x) else if y = Str.ofString "one_more" then some (.ref W3.x) else if y = Str.ofString "two" then some (.ref W2.x) else if y = Str.ofString "one" then some (.ref W1.x) else if y = Str.ofString "apart" then some (.str X1 t2) else if y = Str.ofString "blanks" then some (.int bl t3) else if y = Str.ofString "both" then some (.ref lB) else if y = Str.ofString "counts" then some (.ref lC) else mB y) ∧ News s1.heap s1.heap.objs.size h8 (cells4 s1.heap.objs.size oN' oL' oR' oJ ++ ((lD, W.listOf [Value.int 0 t5].toArray 0) :: (lL, W.listOf vsL.toArray 0) :: (lR, LCg.lst ys) :: B)) := ⟨_, _, _, hcNo, l2o, F8o, N8o⟩
    clear l2o F8o N8o hcNo
    dsimp only [cells4, List.cons_append, List.nil_append] at N8
    dsimp only
    have hStop : StopAt "exec For Tuple Call cons nil" := ⟨⟩
    k_steps
    refine Stop.mk ?_
    k_dflt (refine For_3 (by k_asm) (by rfl) (by rfl) (by rfl) (by rfl) ?_)
    rename News _ _ _ _ => lN
    have lN2 := newsOf (a := W1.led S1 ++ W2.led S2) lN (by intro e he; repeat (first | exact (List.mem_append.mp he).elim (hB1 e) (hB2 e) | refine List.Mem.tail _ ?_))
    clear lN
    dsimp only [WW.led, List.cons_append, List.nil_append] at lN2
    have hStop : StopAt "call ref" := ⟨⟩
    k_steps
    refine Stop.mk ?_
    rename Fr _ _ _ _ => lF
    rename News _ _ _ _ => lN
    have lN2 := newsSub (b := (lD, W.listOf #[Value.int 0 t5] 0) :: (lL, W.listOf vsL.toArray 0) :: (cells4 s1.heap.objs.size oN' oL' oR' oJ ++ ((lR, LCg.lst ys) :: B))) lN (by dsimp only [cells4, List.cons_append, List.nil_append]; kst_anyIn)
    clear lN
    k_dflt (refine' ctr_use (new_ctr _ W1 W2 S1 S2 ?mx1 ?mx2 hi1 hi2 ok1 ok2) ?kx1 lF ?kx3 lN2 ?kx5 ?kKx ?kdx ?kux ?_; (case kx1 => k_asm); (case kx3 => k_asm); (case kx5 => k_asm); (case kKx => first | exact rfl | assumption); (case kdx => ktr_room); (case kux => ktr_units); (case mx1 => (intro e he; have := hB1 e he; repeat (first | exact this | refine List.Mem.tail _ ?_))); (case mx2 => (intro e he; have := hB2 e he; repeat (first | exact this | refine List.Mem.tail _ ?_))))
    intro r9 n9 h7 tk7 ho F7 N7
    obtain ⟨lW, vsW, epW, tupW, e1, hdW, e2⟩ := ho
    subst e1
    subst e2
    clear lF lN2
    k_steps
    rename Fr _ _ _ _ => lF
    rename News _ _ _ _ => lN
    have hT : topOf S1 S2 = 1 + M := by
      have h := G.top (b1 := bl) (b2 := bl) (Int.le_refl _) (Int.le_refl _)
      rw [hS1, hS2] at h
      have := G.blM
      omega
    have hnT : n ≤ ((topOf S1 S2).toNat : Int) := by have := G.nM; omega
    rw [names_rows] at hdW
    obtain ⟨tupZ, hZ1, hZ2, hZl, hZr⟩ := tups_only hdW
    have hWD : lW ≠ lD := apart_rows lN (.head _) (.tail _ (.head _)) hdW (IntsAre.cons 0 t5 .nil)
    have hNN : 1 ≤ N := by omega
    obtain ⟨l0, ls0, hl0⟩ : ∃ l0 ls0, (List.map (fun z => level S2 z) (stepKs 1 1 N.toNat)) = l0 :: ls0 := List.exists_cons_of_length_pos (by rw [List.length_map, stepKs_len]; omega)
    have hWL : lW ≠ lL := apart_rows lN (.head _) (.tail _ (.tail _ (.head _))) hdW (by rw [← hl0]; exact hiL)
    obtain ⟨C, hCW, hCB, hCt, hCD, hCL, lN3⟩ : ∃ C : Led, (lW, W.listOf vsW.toArray epW) ∈ C ∧ (∀ e ∈ B, e ∈ C) ∧ (∀ e ∈ tupZ, e ∈ C) ∧ (∀ p ∈ C, p.1 ≠ lD) ∧ (∀ p ∈ C, p.1 ≠ lL) ∧
        News s1.heap s1.heap.objs.size _ ((lD, W.listOf [Value.int 0 t5].toArray 0) :: (lL, W.listOf vsL.toArray 0) :: (cells4 s1.heap.objs.size oN' oL' oR' oJ ++ ((lR, LCg.lst ys) :: C))) := by
      refine ⟨(lW, W.listOf vsW.toArray epW) :: (B ++ tupZ), .head _, fun e he => .tail _ (List.mem_append_left _ he), fun e he => .tail _ (List.mem_append_right _ he), ?_, ?_, newsSub lN ?_⟩
      · refine List.forall_mem_cons.mpr ⟨hWD, List.forall_mem_append.mpr ⟨fun p hp => Nat.ne_of_lt (allLt_mem l2.2.2.2.2.2.2 p hp), fun p hp => apart_tup lN (.tail _ (List.mem_append_right _ (hZ1 p hp))) (.tail _ (.head _)) (hZ2 p hp)⟩⟩
      · refine List.forall_mem_cons.mpr ⟨hWL, List.forall_mem_append.mpr ⟨fun p hp => Nat.ne_of_lt (allLt_mem l1.2.2.2.2.2 p hp), fun p hp => apart_tup lN (.tail _ (List.mem_append_right _ (hZ1 p hp))) (.tail _ (.tail _ (.head _))) (hZ2 p hp)⟩⟩
      · intro p hp
        simp only [cells4, List.mem_cons, List.mem_append, List.cons_append, List.nil_append] at hp ⊢
        rcases hp with hp | hp | hp | hp | hp | hp | hp | hp | hp | hp
        all_goals first | (exact .inl hp) | (simp only [hp, true_or, or_true]; done) | (have := hZ1 p hp; simp only [this, or_true]; done)
    clear lN
    with_unfolding_all refine wit_loop (epW := epW) (zs := namesF S1 S2 (topOf S1 S2).toNat) (S1 := S1) (S2 := S2) (leftF S1 S2 N.toNat) (prodF a b c) rfl lF lN3 ?hW hZl ?hrow (IntsAre.cons 0 t5 .nil) ?hL rfl ?turn ?done
    case hW => exact List.mem_append_right _ (.tail _ hCW)
    case hrow =>
      intro i v hv
      obtain ⟨z, ad, n, q1, q2, q3, e1, e2, e3⟩ := hZr i v hv
      exact ⟨z, ad, n, q1, q2, q3, e1, e2, List.mem_append_right _ (.tail _ (hCt _ e3))⟩
    case hL => rw [leftF_nil]; exact hiL
    case turn =>
      clear lF lN3
      intro i z vsD vsL' e1 e2 tp q1 q2 q3 h tk own hz hiD hiL' hoff F9 N9
      have hG := G.get (t := (topOf S1 S2).toNat) (i := i) (z := z) (by rw [hS1, hS2]; exact hz)
      rw [hS1, hS2] at hG
      obtain ⟨hz1, hzT, hzn, he0, he1, hlt⟩ := hG
      have hlast := last_lt (show 0 < z by omega) hlt
      have hn12' := G.n12
      have hlev : level S2 z = level S1 z + z * expZ a b c z := by
        have h := G.lev (b1 := bl) (b2 := bl) hz1
        rw [hS1, hS2] at h
        omega
      have hright := map_at (N := N.toNat) (f := fun z => level S2 z) hz1 (by omega)
      have hlen := hiD.length
      dsimp only [cells4, List.cons_append, List.nil_append] at N9
      have hStop : StopAt "subscriptTail Name UnaryOp ref int" := ⟨⟩
      k_steps
      refine Stop.mk ?_
      try dsimp only
      rename News _ _ _ _ => eN
      with_unfolding_all refine' itemLast eN ?pm1 hiD ?pl1 ?_
      case pm1 => k_mem
      case pl1 => (rw [List.length_cons]; omega)
      intro tk8
      have hStop : StopAt "subscriptTail Name BinOp ref int" := ⟨⟩
      k_steps
      refine Stop.mk ?_
      try dsimp only
      rename News _ _ _ _ => eN
      with_unfolding_all refine' itemL eN ?qm1 hys ?qa1 ?qb1 ?qc1 ?_ ?qd1
      case qm1 => k_mem
      case qa1 => omega
      case qb1 => (rw [List.length_map, stepKs_len]; omega)
      case qc1 => (rw [List.length_map, stepKs_len]; omega)
      case qd1 => with_unfolding_all rfl
      intro tk8
      rw [hright]
      have hpos : 0 < z * expZ a b c z := Int.mul_pos (by omega) he0
      have hdiff : level S2 z - level S1 z = z * expZ a b c z := by omega
      have hmod : (level S2 z - level S1 z).fmod z = 0 := by rw [hdiff]; exact Int.mul_fmod_right _ _
      have hdiv : (level S2 z - level S1 z).fdiv z = expZ a b c z := by rw [hdiff]; exact Int.mul_fdiv_cancel_left _ (by omega)
      have hStop : StopAt "call builtin:list.append" := ⟨⟩
      k_steps
      case _ => (rename (level S2 z ≠ level S2 z) => q9; exact absurd rfl q9)
      case _ => (exfalso; omega)
      refine Stop.mk ?_
      try dsimp only
      rename Fr _ _ _ _ => eF
      rename News _ _ _ _ => eN
      have hcD : ∀ p ∈ cells4 s1.heap.objs.size oN' oL' oR' oJ ++ ((lR, LCg.lst ys) :: (C ++ own)), p.1 ≠ lD := by
        obtain ⟨a1, a2, a3, a4, a5, a6, _⟩ := l2
        exact List.forall_mem_cons.mpr ⟨Nat.ne_of_lt a1, List.forall_mem_cons.mpr ⟨Nat.ne_of_lt a2, List.forall_mem_cons.mpr ⟨Nat.ne_of_lt a3, List.forall_mem_cons.mpr ⟨Nat.ne_of_lt a4, List.forall_mem_cons.mpr ⟨Nat.ne_of_lt a6, List.forall_mem_append.mpr ⟨hCD, fun p hp => hoff p hp _ (.head _)⟩⟩⟩⟩⟩⟩
      have hcL' : ∀ p ∈ cells4 s1.heap.objs.size oN' oL' oR' oJ ++ ((lR, LCg.lst ys) :: (C ++ own)), p.1 ≠ lL := by
        obtain ⟨a1, a2, a3, a4, a5, _⟩ := l1
        exact List.forall_mem_cons.mpr ⟨Nat.ne_of_lt a1, List.forall_mem_cons.mpr ⟨Nat.ne_of_lt a2, List.forall_mem_cons.mpr ⟨Nat.ne_of_lt a3, List.forall_mem_cons.mpr ⟨Nat.ne_of_lt a4, List.forall_mem_cons.mpr ⟨Nat.ne_of_lt a5, List.forall_mem_append.mpr ⟨hCL, fun p hp => hoff p hp _ (.tail _ (.head _))⟩⟩⟩⟩⟩⟩
      have hDL : lL < lD := l2.2.2.2.2.1
      have hzlen : (namesF S1 S2 (topOf S1 S2).toNat).length ≤ (topOf S1 S2).toNat := by
        unfold namesF
        exact Nat.le_trans (List.length_filter_le _ _) (by rw [rangeKs_length]; exact Nat.le_refl _)
      k_dflt (refine' append_K ?u1 ?u2 ?u3 ?_ ?u4; (case u1 => exact eF); (case u2 => exact eN); (case u3 => exact Upd.head (List.forall_mem_cons.mpr ⟨Nat.ne_of_lt hDL, hcD⟩)); (case u4 => (rw [List.size_toArray, hlen, List.length_cons, List.length_take, sizeLine_eq]; omega)))
      clear eF eN
      intro h8 F8 N8
      try dsimp only
      have hStop : StopAt "setItem ref int" := ⟨⟩
      k_steps
      refine Stop.mk ?_
      try dsimp only
      rename Fr _ _ _ _ => eF
      rename News _ _ _ _ => eN
      simp only [List.push_toArray] at eN
      k_dflt (refine' ksa_set ?v1 ?v2 ?v3 hiL' ?v5 ?v6 ?v7 ?_; (case v1 => exact eF); (case v2 => exact eN); (case v3 => exact Upd.tail (Ne.symm (Nat.ne_of_lt hDL)) (Upd.head hcL')); (case v5 => omega); (case v6 => (rw [leftF_len]; omega)); (case v7 => omega))
      clear eF eN
      intro h8 F8 N8 hiL8 _ _
      rw [leftF_set hz1 (by omega)] at hiL8
      try dsimp only
      have hStop : StopAt "call ref" := ⟨⟩
      k_steps
      refine Stop.mk ?_
      rename Fr _ _ _ _ => lF
      rename News _ _ _ _ => lN
      k_dflt (refine' ctr_use (share_ctr _ _ _ ?sh1 ?sh2) ?sk1 lF ?sk3 lN ?sk5 ?sK ?sd ?su ?_; (case sk1 => k_asm); (case sk3 => k_asm); (case sk5 => k_asm); (case sK => first | exact rfl | assumption); (case sd => ktr_room); (case su => ktr_units); (case sh1 => omega); (case sh2 => omega))
      intro r9 n9 h7 tk7 ho F7 N7
      obtain ⟨⟨t9, e1⟩, e2⟩ := ho
      subst e1
      subst e2
      clear lF lN
      try dsimp only
      have hStop : StopAt "binaryOp FloorDiv int int" := ⟨⟩
      k_steps
      refine Stop.mk ?_
      try dsimp only
      refine floordiv_int (by omega) ?_ (.inl (noPy (by omega) (by omega) _))
      rw [hdiv]
      have hStop : StopAt "binaryOp Pow int int" := ⟨⟩
      k_steps
      refine Stop.mk ?_
      refine pow_int (by omega) (share_pow (by omega) (by omega) (by omega) he1) ?_
      have hmul : IntMulOk (prodF a b c (List.take i (namesF S1 S2 (topOf S1 S2).toNat))) (shareF z ^ (expZ a b c z).toNat) := by
        have h := G.mul_ok (t := (topOf S1 S2).toNat) (i := i) hnT hz1 hzn
        rw [hS1, hS2] at h
        exact h
      k_steps
      rename Fr _ _ _ _ => eF
      rename News _ _ _ _ => eN
      with_unfolding_all refine' wit_end (pre := List.take i (namesF S1 S2 (topOf S1 S2).toNat) ++ [z]) eF eN ?wm1 ?wm2 ?wn ?wo ?wa ?wD ?wL ?wp
      case wm1 => k_mem
      case wm2 => k_mem
      case wn => kst_anyIn
      case wo => kst_anyIn
      case wa => exact hoff
      case wD => exact ints_snoc hiD
      case wL => exact hiL8
      case wp =>
        intro y y1 y2 y3
        simp only [y1, y2, y3, if_false]
        by_cases y4 : y = Str.ofString "product"
        · rw [if_pos y4, if_pos y4, prodF_snoc]
          rfl
        · simp only [y4, if_false]
    case done =>
      clear lF lN3
      intro vsD vsL' e1 e2 tp u h tk hiD hiL' F9 N9
      have hprod := G.prod_all hnT
      rw [hS1, hS2] at hprod
      have hleft := G.left_all (N := N.toNat) hnT
      rw [hS1, hS2] at hleft
      rw [hleft] at hiL'
      rw [hprod] at F9
      have hC1 : ∀ e ∈ W1.led S1, e ∈ C := fun e he => hCB e (hB1 e he)
      have hC2 : ∀ e ∈ W2.led S2, e ∈ C := fun e he => hCB e (hB2 e he)
      have hC3 : ∀ e ∈ W3.led S3, e ∈ C := fun e he => hCB e (hB3 e he)
      have hC4 : ∀ e ∈ W4.led S4, e ∈ C := fun e he => hCB e (hB4 e he)
      have hCC : (lC, LCg.lst vsC) ∈ C := hCB _ hBC
      clear hiL hWD hWL hNN hl0 hCW hCt hCD hCL hZ1 hZ2 hZl hZr hdW l1 l2 hB1 hB2 hB3 hB4 hBC hBn hCB
      try dsimp only
      have hStop : StopAt "call ref" := ⟨⟩
      k_steps
      refine Stop.mk ?_
      rename Fr _ _ _ _ => lF
      rename News _ _ _ _ => lN
      k_dflt (refine' ctr_use (book_ctr _ _ _ _ a b c ?bm1 hiC ha hb hc) ?bk1 lF ?bk3 lN ?bk5 ?bK ?bd ?bu ?_; (case bk1 => k_asm); (case bk3 => k_asm); (case bk5 => k_asm); (case bK => first | exact rfl | assumption); (case bd => ktr_room); (case bu => ktr_units); (case bm1 => (repeat (first | exact hCC | refine List.Mem.tail _ ?_))))
      intro r9 n9 h7 tk7 ho F7 N7
      obtain ⟨⟨t6, e1⟩, e2⟩ := ho
      subst e1
      subst e2
      clear lF lN
      try dsimp only
      have hStop : StopAt "call type:range" := ⟨⟩
      k_steps
      case _ => (rename (Mq a b c ≠ Mq a b c) => q9; exact absurd rfl q9)
      refine Stop.mk ?_
      rename Fr _ _ _ _ => lF
      rename News _ _ _ _ => lN
      refine range2_news lF lN ?_
      clear lF lN
      intro h8 tk8 w1 w2 w3 rS F8 N8
      try dsimp only
      have hStop : StopAt "exec If" := ⟨⟩
      k_steps
      refine Stop.mk ?_
      rename Fr _ _ _ _ => lF
      rename News _ _ _ _ => lN
      refine if_cut lF lN ?i1 ?i2
      case i1 =>
        clear lF lN
        intro F8 N8
        have N9 := newsOf (a := W1.led S1 ++ W2.led S2) N8 (by intro e he; repeat (first | exact (List.mem_append.mp he).elim (hC1 e) (hC2 e) | refine List.Mem.tail _ ?_))
        clear N8
        dsimp only [WW.led, cells4, List.cons_append, List.nil_append] at N9
        have hStop : StopAt "call ref" := ⟨⟩
        k_steps
        refine Stop.mk ?_
        rename Fr _ _ _ _ => lF
        rename News _ _ _ _ => lN
        have lN2 := newsSub (b := (rS, rangeObj 1 (1 + M + 1) w1 w2 w3) :: (lD, W.listOf vsD.toArray e1) :: (lL, W.listOf vsL'.toArray e2) :: (cells4 s1.heap.objs.size oN' oL' oR' oJ ++ ((lR, LCg.lst ys) :: C))) lN (by dsimp only [cells4, List.cons_append, List.nil_append]; kst_anyIn)
        clear lN
        k_dflt (refine' ctr_use (nlw_ctr _ W1 W2 S1 S2 ?mx1 ?mx2 hi1 hi2 ok1 ok2) ?kx1 lF ?kx3 lN2 ?kx5 ?kKx ?kdx ?kux ?_; (case kx1 => k_asm); (case kx3 => k_asm); (case kx5 => k_asm); (case kKx => first | exact rfl | assumption); (case kdx => ktr_room); (case kux => ktr_units); (case mx1 => (intro e he; have := hC1 e he; repeat (first | exact this | refine List.Mem.tail _ ?_))); (case mx2 => (intro e he; have := hC2 e he; repeat (first | exact this | refine List.Mem.tail _ ?_))))
        intro r9 n9 h7 tk7 ho F7 N7
        obtain ⟨lA, vsA, epA, tupA, e1, hdA, e2⟩ := ho
        subst e1
        subst e2
        clear lF lN2
        dsimp only [cells4, List.cons_append, List.nil_append] at N7
        try dsimp only
        have hStop : StopAt "eval ListComp" := ⟨⟩
        k_steps
        refine Stop.mk ?_
        k_dflt (refine LCt.ListComp_T (F₀ := by k_asm) (by with_unfolding_all rfl) (by decide) (by rfl) (by decide) (by rfl) ?_)
        k_steps
        rename Fr _ _ _ _ => lF
        rename News _ _ _ _ => lN
        with_unfolding_all refine' rowsT (n := (1 + M).toNat) (fun z => decide (z ∉ 0 :: namesF S1 S2 (topOf S1 S2).toNat)) (fun z => (z, level S2 z, level S2 z)) rfl lF lN ?rm ?rb ?rn ?turn ?done
        case rm => k_mem
        case rb => omega
        case rn => omega
        case turn =>
          clear lF lN
          intro g i ys8 tups z q I oI Ca oC D8 m₂ h tk E' hz hz1 hzn hJ hC hx F1 N1 off ne
          have hzN : z ≤ (N.toNat : Int) := NIs.up hNb.1 hM.1 hzn
          have hright := map_at (N := N.toNat) (f := fun z => level S2 z) hz1 hzN
          have hix := idx_ok (f := fun z => level S2 z) hz1 hzN hNk
          have hiy := idx_ok (f := fun z => level S1 z) hz1 hzN hNk
          have N2 := news_swap N1
          clear N1
          dsimp only [List.cons_append, List.nil_append] at N2
          have hStop : StopAt "compareOp NotIn int ref" := ⟨⟩
          k_steps
          refine Stop.mk ?_
          try dsimp only
          rename News _ _ _ _ => eN
          refine notin_list_ints (vs := vsD) ?nm1 hiD ?_
          case nm1 => exact News.isList eN (by k_mem)
          rw [any_in]
          cases hb9 : decide (z ∉ 0 :: namesF S1 S2 (topOf S1 S2).toNat) with
          | false =>
            k_steps
            rename Fr _ _ _ _ => eF
            rename News _ _ _ _ => eN
            exact jr_no eF eN hz hJ off hb9 (sub_swap (by dsimp only [List.cons_append, List.nil_append]; kst_anyIn))
          | true =>
            have hStop : StopAt "subscriptTail Name BinOp ref int" := ⟨⟩
            k_steps
            refine Stop.mk ?_
            try dsimp only
            rename News _ _ _ _ => eN
            with_unfolding_all refine' itemL eN ?qma1 hys ?qaa1 ?qba1 ?qca1 ?_ ?qda1
            case qma1 => k_mem
            case qaa1 => exact hix.1
            case qba1 => exact hix.2.1
            case qca1 => exact hix.2.2
            case qda1 => with_unfolding_all rfl
            intro tk8
            rw [hright]
            have hStop : StopAt "subscriptTail Name BinOp ref int" := ⟨⟩
            k_steps
            refine Stop.mk ?_
            try dsimp only
            rename News _ _ _ _ => eN
            with_unfolding_all refine' itemL eN ?qma2 hys ?qaa2 ?qba2 ?qca2 ?_ ?qda2
            case qma2 => k_mem
            case qaa2 => exact hix.1
            case qba2 => exact hix.2.1
            case qca2 => exact hix.2.2
            case qda2 => with_unfolding_all rfl
            intro tk8
            rw [hright]
            k_steps
            rename Fr _ _ _ _ => eF
            rename News _ _ _ _ => eN
            rename (_ < _ ∧ _ < _ ∧ _ < _ ∧ _) => eLt
            with_unfolding_all exact jr_yes eF eN hz hJ off hb9 (.head _) (sub_swap (by dsimp only [List.cons_append, List.nil_append]; kst_anyIn)) ⟨eLt.1, eLt.2.1, eLt.2.2.1⟩
        case done =>
          clear lF lN
          intro g ys8 tups hJ
          have hG := G.ge_named (topOf S1 S2).toNat
          rw [hS1, hS2] at hG
          rw [hG, hT] at hdA
          rw [hT] at hJ
          have hJ' : DatAll tups ys8 ((((rangeKs 1 (1 + M).toNat).filter fun z => decide (z ∉ 0 :: namesF S1 S2 (1 + M).toNat)).map fun z => (z, level S2 z, level S2 z)).map rowD) := by
            rw [List.map_map]
            exact hJ
          have hStop : StopAt "compareOp NotEq ref ref" := ⟨⟩
          intro D9 h9 tk9 F9 N9 off9
          k_steps
          refine Stop.mk ?_
          rename Fr _ _ _ _ => lF
          rename News _ _ _ _ => lN
          with_unfolding_all refine' neDat lN (.list ?mac1 (hdA.mono ?sac1)) (.list ?mbc1 (hJ'.mono ?sbc1)) ?kac1 ?kbc1 ?kuc1 ?_
          case mac1 => exact .tail _ (List.mem_append_right _ (.head _))
          case mbc1 => exact .head _
          case sac1 => exact fun e he => .tail _ (List.mem_append_right _ (by repeat (first | exact List.mem_append_right _ he | refine List.Mem.tail _ ?_)))
          case sbc1 => exact fun e he => .tail _ (List.mem_append_left _ he)
          case kac1 => exact okRows _
          case kbc1 => exact okRows _
          case kuc1 => ktr_units
          intro b9 hb9
          have e9 := ne_self hb9
          subst e9
          k_steps
          rename Fr _ _ _ _ => eF
          rename News _ _ _ _ => eN
          exact IfEnd.of eF eN (by intro e he; refine List.Mem.tail _ (List.mem_append_right _ (List.Mem.tail _ ?_)); with_unfolding_all exact List.mem_append_left tupA he)
      case i2 =>
        clear lF lN
        intro h6 tk6 F6 N6
        have hStop : StopAt "exec If" := ⟨⟩
        k_steps
        refine Stop.mk ?_
        rename Fr _ _ _ _ => lF
        rename News _ _ _ _ => lN
        refine if_cut lF lN ?j1 ?j2
        case j1 =>
          clear lF lN
          intro F8 N8
          have N9 := newsOf (a := W1.led S1 ++ W2.led S2) N8 (by intro e he; repeat (first | exact (List.mem_append.mp he).elim (hC1 e) (hC2 e) | refine List.Mem.tail _ ?_))
          clear N8
          dsimp only [WW.led, cells4, List.cons_append, List.nil_append] at N9
          have hStop : StopAt "call ref" := ⟨⟩
          k_steps
          refine Stop.mk ?_
          rename Fr _ _ _ _ => lF
          rename News _ _ _ _ => lN
          have lN2 := newsSub (b := (rS, rangeObj 1 (1 + M + 1) w1 w2 w3) :: (lD, W.listOf vsD.toArray e1) :: (lL, W.listOf vsL'.toArray e2) :: (cells4 s1.heap.objs.size oN' oL' oR' oJ ++ ((lR, LCg.lst ys) :: C))) lN (by dsimp only [cells4, List.cons_append, List.nil_append]; kst_anyIn)
          clear lN
          k_dflt (refine' ctr_use (nlw_ctr _ W2 W1 S2 S1 ?mx1 ?mx2 hi2 hi1 ok2 ok1) ?kx1 lF ?kx3 lN2 ?kx5 ?kKx ?kdx ?kux ?_; (case kx1 => k_asm); (case kx3 => k_asm); (case kx5 => k_asm); (case kKx => first | exact rfl | assumption); (case kdx => ktr_room); (case kux => ktr_units); (case mx1 => (intro e he; have := hC2 e he; repeat (first | exact this | refine List.Mem.tail _ ?_))); (case mx2 => (intro e he; have := hC1 e he; repeat (first | exact this | refine List.Mem.tail _ ?_))))
          intro r9 n9 h7 tk7 ho F7 N7
          obtain ⟨lA, vsA, epA, tupA, e1, hdA, e2⟩ := ho
          subst e1
          subst e2
          clear lF lN2
          dsimp only [cells4, List.cons_append, List.nil_append] at N7
          try dsimp only
          have hStop : StopAt "eval ListComp" := ⟨⟩
          k_steps
          refine Stop.mk ?_
          k_dflt (refine compStep (F₀ := by k_asm) (by with_unfolding_all rfl) (by decide) (by rfl) (by decide) (by rfl) ?_)
          k_steps
          rename Fr _ _ _ _ => lF
          rename News _ _ _ _ => lN
          with_unfolding_all refine' rowsG (n := (1 + M).toNat) (fun z => (z, level S2 z, level S1 z)) rfl lF lN ?rm ?rb ?rn ?turn ?done
          case rm => k_mem
          case rb => omega
          case rn => omega
          case turn =>
            clear lF lN
            intro g i ys8 tups z q I oI Ca oC D8 m₂ h tk E' hz hz1 hzn hJ hC hx F1 N1 off ne
            have hzN : z ≤ (N.toNat : Int) := NIs.up hNb.1 hM.1 hzn
            have hright := map_at (N := N.toNat) (f := fun z => level S2 z) hz1 hzN
            have hix := idx_ok (f := fun z => level S2 z) hz1 hzN hNk
            have hiy := idx_ok (f := fun z => level S1 z) hz1 hzN hNk
            have hlft := map_at (N := N.toNat) (f := fun z => level S1 z) hz1 hzN
            have N2 := news_swap N1
            clear N1
            dsimp only [List.cons_append, List.nil_append] at N2
            have hStop : StopAt "subscriptTail Name BinOp ref int" := ⟨⟩
            k_steps
            refine Stop.mk ?_
            try dsimp only
            rename News _ _ _ _ => eN
            with_unfolding_all refine' itemL eN ?qma3 hys ?qaa3 ?qba3 ?qca3 ?_ ?qda3
            case qma3 => k_mem
            case qaa3 => exact hix.1
            case qba3 => exact hix.2.1
            case qca3 => exact hix.2.2
            case qda3 => with_unfolding_all rfl
            intro tk8
            rw [hright]
            have hStop : StopAt "subscriptTail Name BinOp ref int" := ⟨⟩
            k_steps
            refine Stop.mk ?_
            try dsimp only
            rename News _ _ _ _ => eN
            with_unfolding_all refine' itemL eN ?qma4 hiL' ?qaa4 ?qba4 ?qca4 ?_ ?qda4
            case qma4 => k_mem
            case qaa4 => exact hiy.1
            case qba4 => exact hiy.2.1
            case qca4 => exact hiy.2.2
            case qda4 => with_unfolding_all rfl
            intro tk8
            rw [hlft]
            k_steps
            rename Fr _ _ _ _ => eF
            rename News _ _ _ _ => eN
            rename (_ < _ ∧ _ < _ ∧ _ < _ ∧ _) => eLt
            with_unfolding_all exact jr_yes eF eN hz hJ off rfl (.head _) (sub_swap (by dsimp only [List.cons_append, List.nil_append]; kst_anyIn)) ⟨eLt.1, eLt.2.1, eLt.2.2.1⟩
          case done =>
            clear lF lN
            intro g ys8 tups hJ
            have hG := G.ge_all (topOf S2 S1).toNat
            rw [hS1, hS2] at hG
            rw [hG, topOf_comm, hT] at hdA
            have hJ' : DatAll tups ys8 (((rangeKs 1 (1 + M).toNat).map fun z => (z, level S2 z, level S1 z)).map rowD) := by
              rw [List.map_map]
              exact hJ
            have hStop : StopAt "compareOp NotEq ref ref" := ⟨⟩
            intro D9 h9 tk9 F9 N9 off9
            k_steps
            refine Stop.mk ?_
            rename Fr _ _ _ _ => lF
            rename News _ _ _ _ => lN
            with_unfolding_all refine' neDat lN (.list ?mac2 (hdA.mono ?sac2)) (.list ?mbc2 (hJ'.mono ?sbc2)) ?kac2 ?kbc2 ?kuc2 ?_
            case mac2 => exact .tail _ (List.mem_append_right _ (.head _))
            case mbc2 => exact .head _
            case sac2 => exact fun e he => .tail _ (List.mem_append_right _ (by repeat (first | exact List.mem_append_right _ he | refine List.Mem.tail _ ?_)))
            case sbc2 => exact fun e he => .tail _ (List.mem_append_left _ he)
            case kac2 => exact okRows _
            case kbc2 => exact okRows _
            case kuc2 => ktr_units
            intro b9 hb9
            have e9 := ne_self hb9
            subst e9
            k_steps
            rename Fr _ _ _ _ => eF
            rename News _ _ _ _ => eN
            exact IfEnd.of eF eN (by intro e he; refine List.Mem.tail _ (List.mem_append_right _ (List.Mem.tail _ ?_)); with_unfolding_all exact List.mem_append_left tupA he)
        case j2 =>
          clear lF lN
          intro h6 tk6 F6 N6
          have hStop : StopAt "call type:range" := ⟨⟩
          k_steps
          refine Stop.mk ?_
          rename Fr _ _ _ _ => lF
          rename News _ _ _ _ => lN
          refine range2_news lF lN ?_
          clear lF lN
          intro h8 tk8 w4 w5 w6 rT F8 N8o
          rw [show (if bl + 2 > 1 + M then bl + 2 else 1 + M) = N from hNI] at N8o
          have N8 := newsSub (b := (rT, rangeObj 1 (N + 1) w4 w5 w6) :: (lD, W.listOf vsD.toArray e1) :: (lL, W.listOf vsL'.toArray e2) :: (cells4 s1.heap.objs.size oN' oL' oR' oJ ++ ((lR, LCg.lst ys) :: C))) N8o (by dsimp only [cells4, List.cons_append, List.nil_append]; kst_anyIn)
          clear N8o
          try dsimp only
          have hStop : StopAt "exec If" := ⟨⟩
          k_steps
          refine Stop.mk ?_
          rename Fr _ _ _ _ => lF
          rename News _ _ _ _ => lN
          refine if_cut lF lN ?l1 ?l2
          case l1 =>
            clear lF lN
            intro F8 N8
            have N9 := newsOf (a := W3.led S3 ++ W2.led S2) N8 (by intro e he; repeat (first | exact (List.mem_append.mp he).elim (hC3 e) (hC2 e) | refine List.Mem.tail _ ?_))
            clear N8
            dsimp only [WW.led, cells4, List.cons_append, List.nil_append] at N9
            have hStop : StopAt "call ref" := ⟨⟩
            k_steps
            refine Stop.mk ?_
            rename Fr _ _ _ _ => lF
            rename News _ _ _ _ => lN
            have lN2 := newsSub (b := (rT, rangeObj 1 (N + 1) w4 w5 w6) :: (lD, W.listOf vsD.toArray e1) :: (lL, W.listOf vsL'.toArray e2) :: (cells4 s1.heap.objs.size oN' oL' oR' oJ ++ ((lR, LCg.lst ys) :: C))) lN (by dsimp only [cells4, List.cons_append, List.nil_append]; kst_anyIn)
            clear lN
            k_dflt (refine' ctr_use (new_ctr _ W3 W2 S3 S2 ?mx1 ?mx2 hi3 hi2 ok3 ok2) ?kx1 lF ?kx3 lN2 ?kx5 ?kKx ?kdx ?kux ?_; (case kx1 => k_asm); (case kx3 => k_asm); (case kx5 => k_asm); (case kKx => first | exact rfl | assumption); (case kdx => ktr_room); (case kux => ktr_units); (case mx1 => (intro e he; have := hC3 e he; repeat (first | exact this | refine List.Mem.tail _ ?_))); (case mx2 => (intro e he; have := hC2 e he; repeat (first | exact this | refine List.Mem.tail _ ?_))))
            intro r9 n9 h7 tk7 ho F7 N7
            obtain ⟨lA, vsA, epA, tupA, e1, hdA, e2⟩ := ho
            subst e1
            subst e2
            clear lF lN2
            dsimp only [cells4, List.cons_append, List.nil_append] at N7
            try dsimp only
            have hStop : StopAt "eval ListComp" := ⟨⟩
            k_steps
            refine Stop.mk ?_
            k_dflt (refine compStep (F₀ := by k_asm) (by with_unfolding_all rfl) (by decide) (by rfl) (by decide) (by rfl) ?_)
            k_steps
            rename Fr _ _ _ _ => lF
            rename News _ _ _ _ => lN
            with_unfolding_all refine' rowsG (n := N.toNat) (fun z => (z, level S1 z + 1, level S2 z)) rfl lF lN ?rm ?rb ?rn ?turn ?done
            case rm => k_mem
            case rb => omega
            case rn => omega
            case turn =>
              clear lF lN
              intro g i ys8 tups z q I oI Ca oC D8 m₂ h tk E' hz hz1 hzn hJ hC hx F1 N1 off ne
              have hzN : z ≤ (N.toNat : Int) := hzn
              have hright := map_at (N := N.toNat) (f := fun z => level S2 z) hz1 hzN
              have hix := idx_ok (f := fun z => level S2 z) hz1 hzN hNk
              have hiy := idx_ok (f := fun z => level S1 z) hz1 hzN hNk
              have hlft := map_at (N := N.toNat) (f := fun z => level S1 z) hz1 hzN
              have N2 := news_swap N1
              clear N1
              dsimp only [List.cons_append, List.nil_append] at N2
              have hStop : StopAt "subscriptTail Name BinOp ref int" := ⟨⟩
              k_steps
              refine Stop.mk ?_
              try dsimp only
              rename News _ _ _ _ => eN
              with_unfolding_all refine' itemL eN ?qma5 hiL' ?qaa5 ?qba5 ?qca5 ?_ ?qda5
              case qma5 => k_mem
              case qaa5 => exact hiy.1
              case qba5 => exact hiy.2.1
              case qca5 => exact hiy.2.2
              case qda5 => with_unfolding_all rfl
              intro tk8
              rw [hlft]
              have hStop : StopAt "subscriptTail Name BinOp ref int" := ⟨⟩
              k_steps
              refine Stop.mk ?_
              try dsimp only
              rename News _ _ _ _ => eN
              with_unfolding_all refine' itemL eN ?qma6 hys ?qaa6 ?qba6 ?qca6 ?_ ?qda6
              case qma6 => k_mem
              case qaa6 => exact hix.1
              case qba6 => exact hix.2.1
              case qca6 => exact hix.2.2
              case qda6 => with_unfolding_all rfl
              intro tk8
              rw [hright]
              k_steps
              rename Fr _ _ _ _ => eF
              rename News _ _ _ _ => eN
              rename (_ < _ ∧ _ < _ ∧ _ < _ ∧ _) => eLt
              with_unfolding_all exact jr_yes eF eN hz hJ off rfl (.head _) (sub_swap (by dsimp only [List.cons_append, List.nil_append]; kst_anyIn)) ⟨eLt.1, eLt.2.1, eLt.2.2.1⟩
            case done =>
              clear lF lN
              intro g ys8 tups hJ
              have hTN : (topOf S3 S2).toNat = N.toNat := by
                have h := G.top (b1 := bl + 1) (b2 := bl) (by omega) (Int.le_refl _)
                rw [hS3, hS2, hNI.top] at h
                rw [h]
              have hG := G.ne_more (topOf S3 S2).toNat
              rw [hS1, hS2, hS3] at hG
              rw [hG, hTN] at hdA
              have hJ' : DatAll tups ys8 (((rangeKs 1 N.toNat).map fun z => (z, level S1 z + 1, level S2 z)).map rowD) := by
                rw [List.map_map]
                exact hJ
              have hStop : StopAt "compareOp NotEq ref ref" := ⟨⟩
              intro D9 h9 tk9 F9 N9 off9
              k_steps
              refine Stop.mk ?_
              rename Fr _ _ _ _ => lF
              rename News _ _ _ _ => lN
              with_unfolding_all refine' neDat lN (.list ?mac3 (hdA.mono ?sac3)) (.list ?mbc3 (hJ'.mono ?sbc3)) ?kac3 ?kbc3 ?kuc3 ?_
              case mac3 => exact .tail _ (List.mem_append_right _ (.head _))
              case mbc3 => exact .head _
              case sac3 => exact fun e he => .tail _ (List.mem_append_right _ (by repeat (first | exact List.mem_append_right _ he | refine List.Mem.tail _ ?_)))
              case sbc3 => exact fun e he => .tail _ (List.mem_append_left _ he)
              case kac3 => exact okRows _
              case kbc3 => exact okRows _
              case kuc3 => ktr_units
              intro b9 hb9
              have e9 := ne_self hb9
              subst e9
              k_steps
              rename Fr _ _ _ _ => eF
              rename News _ _ _ _ => eN
              exact IfEnd.of eF eN (by intro e he; refine List.Mem.tail _ (List.mem_append_right _ (List.Mem.tail _ ?_)); with_unfolding_all exact List.mem_append_left tupA he)
          case l2 =>
            clear lF lN
            intro h6 tk6 F6 N6
            have N9 := newsOf (a := W1.led S1 ++ (W2.led S2 ++ (W3.led S3 ++ W4.led S4))) N6 (by intro e he; repeat (first | exact (List.mem_append.mp he).elim (hC1 e) (fun he => (List.mem_append.mp he).elim (hC2 e) (fun he => (List.mem_append.mp he).elim (hC3 e) (hC4 e))) | refine List.Mem.tail _ ?_))
            clear N6
            dsimp only [WW.led, cells4, List.cons_append, List.nil_append] at N9
            try dsimp only
            have hStop : StopAt "call ref" := ⟨⟩
            k_steps
            refine Stop.mk ?_
            have hl12 := G.less12
            have hl21 := G.less21
            have hl14 := G.less14
            have hl23 := G.less23
            have he12 := G.equal12
            rw [hS1, hS2] at hl12 hl21 he12
            rw [hS1, hS4] at hl14
            rw [hS2, hS3] at hl23
            rename Fr _ _ _ _ => lF
            rename News _ _ _ _ => lN
            k_dflt (refine' ctr_use (less_ctr _ W1 W2 S1 S2 ?mxp1 ?myp1 hi1 hi2 ok1 ok2) ?kxp1 lF ?kyp1 lN ?kzp1 ?kKp1 ?kdp1 ?kup1 ?_; (case kxp1 => k_asm); (case kyp1 => k_asm); (case kzp1 => k_asm); (case kKp1 => first | exact rfl | assumption); (case kdp1 => ktr_room); (case kup1 => ktr_units); (case mxp1 => (dsimp only [WW.led]; kst_allIn)); (case myp1 => (dsimp only [WW.led]; kst_allIn)))
            intro r9 n9 h7 tk7 ho F7 N7
            obtain ⟨⟨bp1, e1, hbp1⟩, e2⟩ := ho
            subst e1
            subst e2
            clear lF lN
            have eb1 : bp1 = false := Bool.eq_false_iff.mpr fun h => hl12 (hbp1.mp h)
            subst eb1
            try dsimp only
            have hStop : StopAt "call ref" := ⟨⟩
            k_steps
            refine Stop.mk ?_
            rename Fr _ _ _ _ => lF
            rename News _ _ _ _ => lN
            k_dflt (refine' ctr_use (less_ctr _ W2 W1 S2 S1 ?mxp2 ?myp2 hi2 hi1 ok2 ok1) ?kxp2 lF ?kyp2 lN ?kzp2 ?kKp2 ?kdp2 ?kup2 ?_; (case kxp2 => k_asm); (case kyp2 => k_asm); (case kzp2 => k_asm); (case kKp2 => first | exact rfl | assumption); (case kdp2 => ktr_room); (case kup2 => ktr_units); (case mxp2 => (dsimp only [WW.led]; kst_allIn)); (case myp2 => (dsimp only [WW.led]; kst_allIn)))
            intro r9 n9 h7 tk7 ho F7 N7
            obtain ⟨⟨bp2, e1, hbp2⟩, e2⟩ := ho
            subst e1
            subst e2
            clear lF lN
            have eb2 : bp2 = false := Bool.eq_false_iff.mpr fun h => hl21 (hbp2.mp h)
            subst eb2
            try dsimp only
            have hStop : StopAt "call ref" := ⟨⟩
            k_steps
            refine Stop.mk ?_
            rename Fr _ _ _ _ => lF
            rename News _ _ _ _ => lN
            k_dflt (refine' ctr_use (less_ctr _ W1 W4 S1 S4 ?mxp3 ?myp3 hi1 hi4 ok1 ok4) ?kxp3 lF ?kyp3 lN ?kzp3 ?kKp3 ?kdp3 ?kup3 ?_; (case kxp3 => k_asm); (case kyp3 => k_asm); (case kzp3 => k_asm); (case kKp3 => first | exact rfl | assumption); (case kdp3 => ktr_room); (case kup3 => ktr_units); (case mxp3 => (dsimp only [WW.led]; kst_allIn)); (case myp3 => (dsimp only [WW.led]; kst_allIn)))
            intro r9 n9 h7 tk7 ho F7 N7
            obtain ⟨⟨bp3, e1, hbp3⟩, e2⟩ := ho
            subst e1
            subst e2
            clear lF lN
            have eb3 : bp3 = true := hbp3.mpr hl14
            subst eb3
            try dsimp only
            have hStop : StopAt "call ref" := ⟨⟩
            k_steps
            refine Stop.mk ?_
            rename Fr _ _ _ _ => lF
            rename News _ _ _ _ => lN
            k_dflt (refine' ctr_use (less_ctr _ W2 W3 S2 S3 ?mxp4 ?myp4 hi2 hi3 ok2 ok3) ?kxp4 lF ?kyp4 lN ?kzp4 ?kKp4 ?kdp4 ?kup4 ?_; (case kxp4 => k_asm); (case kyp4 => k_asm); (case kzp4 => k_asm); (case kKp4 => first | exact rfl | assumption); (case kdp4 => ktr_room); (case kup4 => ktr_units); (case mxp4 => (dsimp only [WW.led]; kst_allIn)); (case myp4 => (dsimp only [WW.led]; kst_allIn)))
            intro r9 n9 h7 tk7 ho F7 N7
            obtain ⟨⟨bp4, e1, hbp4⟩, e2⟩ := ho
            subst e1
            subst e2
            clear lF lN
            have eb4 : bp4 = (Mq a b c == 1) := by rw [Bool.eq_iff_iff, hbp4, hl23, beq_iff_eq]
            subst eb4
            try dsimp only
            have hStop : StopAt "call ref" := ⟨⟩
            k_steps
            refine Stop.mk ?_
            rename Fr _ _ _ _ => lF
            rename News _ _ _ _ => lN
            k_dflt (refine' ctr_use (equal_ctr _ W1 W2 S1 S2 ?mxp5 ?myp5 hi1 hi2 ok1 ok2) ?kxp5 lF ?kyp5 lN ?kzp5 ?kKp5 ?kdp5 ?kup5 ?_; (case kxp5 => k_asm); (case kyp5 => k_asm); (case kzp5 => k_asm); (case kKp5 => first | exact rfl | assumption); (case kdp5 => ktr_room); (case kup5 => ktr_units); (case mxp5 => (dsimp only [WW.led]; kst_allIn)); (case myp5 => (dsimp only [WW.led]; kst_allIn)))
            intro r9 n9 h7 tk7 ho F7 N7
            obtain ⟨⟨bp5, e1, hbp5⟩, e2⟩ := ho
            subst e1
            subst e2
            clear lF lN
            have eb5 : bp5 = (Mq a b c == 1) := by rw [Bool.eq_iff_iff, hbp5, he12, beq_iff_eq]
            subst eb5
            try dsimp only
            have hStop : StopAt "exec For Name Call cons nil" := ⟨⟩
            k_steps
            refine Stop.mk ?_
            refine For_invV s1.heap (by rfl) (by rfl) ?_
            have hStop : StopAt "pyIter ref" := ⟨⟩
            k_steps
            refine Stop.mk ?_
            rename Fr _ _ _ _ => lF
            rename News _ _ _ _ => lN
            rename IsRange _ _ _ _ _ _ _ _ => lR
            with_unfolding_all refine rangeN (fun _ => True) rfl lR lF lN trivial ?turn ?done
            case turn =>
              clear lF lN lR
              intro pre k t h tok own hk hkb hoff _ F1 N1
              try simp only [List.nil_append, List.cons_append, List.append_nil] at N1
              have hk5 : k = 0 ∨ k = 1 ∨ k = 2 ∨ k = 3 ∨ k = 4 := by omega
              clear hk
              rcases hk5 with rfl | rfl | rfl | rfl | rfl
              all_goals (try k_fold)
              all_goals k_steps
              all_goals first
                | (rename (_ = true) => q9; rw [bne_self_eq_false] at q9; exact absurd q9 (by decide))
                | (rename Fr _ _ _ _ => eF
                   rename News _ _ _ _ => eN
                   with_unfolding_all refine endN eF eN trivial ?_ ?_ hoff ?_
                   · kst_anyIn
                   · kst_anyIn
                   · intro z z1; simp [z1])
            case done =>
              clear lF lN lR
              intro u9 h9 tok9 _ F9 N9
              try dsimp only
              k_steps
              rename Fr _ _ _ _ => eF
              exact RetEnd.of eF)
end
end Mine
theorem PySem.Challenge.cw_pe0294_02_holds : PySem.Challenge.rw_pe0294_02.Holds :=
  Mine.main_02
