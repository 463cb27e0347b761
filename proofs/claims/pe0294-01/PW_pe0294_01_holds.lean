import PyProof.Rows.All
import Wide.All
import OpenK.AllK
import Wide.FinOn
import KE.KLcPair
import Lean
import PySem.Challenge.RW_pe0294_01
open PySem PySem.W PyProof.Rows
set_option Elab.async false
set_option compiler.extract_closed false
set_option genInjectivity false
set_option genSizeOf false
set_option genSizeOfSpec false
set_option maxRecDepth 100000
set_option maxHeartbeats 8000000
namespace Mine
open_top hd for PySem.Challenge.rw_pe0294_01
end Mine
open PySem PySem.Spec PySem.Calls PySem.W PyProof.Rows PyProof.V
set_option Elab.async false
set_option maxRecDepth 100000
set_option maxHeartbeats 8000000
namespace Mine
noncomputable abbrev VW := Mine.hd.view_39
noncomputable abbrev LS := looseW Mine.hd.view_39 [Str.ofString "Whitespace"]
abbrev Led := List (Addr × Obj)
noncomputable abbrev PG := PySem.Challenge.rw_pe0294_01.row.prog

noncomputable def Ctr (w : World) (mean : ExcName → Option Value) (mg mb : Str → Option Value) (nd : Nat) (f : Value) (vs : List Value) (news : Led) (Out : Value → Led → Prop) : Prop :=
  ∀ (dp un : Nat) (gd : Option (List Code)) (cn : Str) (cs : Scope) (a : Addr) (ccd : Value) (cl : List (Str × Addr)) (outer : List Env) (A₀ : Around) (base h₀ : Heap) (L : Addr) (m : Str → Option Value) (s : Shared) (Q E : Value → Shared → Prop),
    Below A₀ base outer h₀ → Fr h₀ L s.heap m → (Mine.hd.heap_39 w.params).In h₀ → News h₀ L s.heap news → Top VW LS mean mg mb h₀ → cs.kind = .function → dp + nd < recursionLimit → un + 8 * nd < cLine →
    (∀ r news' h' tk', Out r news' → Fr h₀ L h' m → News h₀ L h' news' → Q r { s with heap := h', toks := tk' }) →
    wpAny (model PySem.Challenge.rw_pe0294_01.row.prog w) (ktrTop dp un gd cn cs L a ccd cl outer) (call f vs) Q E s

section
variable {prog : Program} {w : World} {A : Around} {E : Value → Shared → Prop} {s : Shared} {env : Env} {h₀ : Heap} {x : PySem.Str} {body : List Stmt} {Q : Flow → Shared → Prop}

theorem textG {σ : Type} {xt : PySem.Str} {tx : Tok} {m₀ : PySem.Str → Option Value} (Led : σ → List (Addr × Obj)) (ps : σ → List (PySem.Str × Value)) (Facts : σ → Prop) (stored : List PySem.Str) (P : List Int → σ → Prop) (c₀ : σ)
    (hh : A.handled = none) (F : Fr h₀ env.locals s.heap m₀) (N : News h₀ env.locals s.heap (Led c₀)) (hf : Facts c₀) (hk : ∀ p ∈ ps c₀, m₀ p.1 = some p.2) (hp : P [] c₀)
    (turn : ∀ (c : σ) (pre post : List Int) (n : Nat) t (u : PySem.Str → Option Value) h tk own, KStt.codes xt = pre ++ (n : Int) :: post → OwnOff own ((Led c).map (·.1)) → Facts c → P pre c →
      Fr h₀ env.locals h (fun y => if y = x then some (.str ⟨#[n]⟩ t) else kstB (fun z => if stored.contains z then u z else m₀ z) (ps c) y) → News h₀ env.locals h (Led c ++ own) →
      wpAny (model prog w) A (execs body env) (InvPostG h₀ env.locals (KstS Led ps Facts x stored m₀ P (pre ++ [(n : Int)])) own { s with heap := h, toks := tk } Q) E { s with heap := h, toks := tk })
    (done : ∀ (c : σ) (u : PySem.Str → Option Value) h tk, Facts c → P (KStt.codes xt) c → Fr h₀ env.locals h (fun y => if y = x then u y else kstB (fun z => if stored.contains z then u z else m₀ z) (ps c) y) → News h₀ env.locals h (Led c) → Q .next { s with heap := h, toks := tk }) :
    wpAny (model prog w) A (pyIter (.str xt tx)) (fun it s₂ => LoopAtV prog w A h₀ env x body Q E it s₂) E s := by
  have main : ∀ (o : Obj) (ty : String), o.isFreed = false → (s.heap.push o).IsStrIter s.heap.objs.size ty xt tx 0 →
      Walks prog w A s.heap.objs.size [s.heap.objs.size] [s.heap.objs.size] xt.cps.size (SignAt xt) (fun i h => h.IsStrIter s.heap.objs.size ty xt tx i) →
      LoopAtV prog w A h₀ env x body Q E (.ref s.heap.objs.size) { s with heap := s.heap.push o } := by
    intro o ty _ hst W
    refine kdr_loop (s := { s with heap := s.heap.push o }) (news := Led c₀) (fun i m nx => KstS Led ps Facts x stored m₀ P ((KStt.codes xt).take i) m nx) W (fun _ h => h) (fun _ h => h) ?_ ?_ ?_ ?_ hst (F.push _) (fun p hp => ⟨Heap.get?_push_of_some _ (N p hp).1, (N p hp).2⟩) ⟨c₀, rfl, hf, hk, fun _ _ _ _ => rfl, by simpa using hp⟩ ?_ ?_
    · intro i h hi b hb
      rw [List.mem_singleton.mp hb]
      exact ⟨_, hi.choose_spec.1⟩
    · intro hm
      exact absurd F.ns.lt ((List.mem_singleton.mp hm) ▸ Nat.lt_irrefl _)
    · intro b hb
      rw [List.mem_singleton.mp hb]
      exact next_is_new F
    · intro p hp hI
      exact absurd (Heap.lt_size (N p hp).1) ((List.mem_singleton.mp hI) ▸ Nat.lt_irrefl _)
    · rintro i v m₁ nx h tk own hi ⟨n, u, hn, rfl⟩ hoff ⟨c, rfl, hf', h1, h2, hp'⟩ F₁ N₁
      have hn' := KStt.code_at hn
      have hs : (KStt.codes xt).take (i + 1) = (KStt.codes xt).take i ++ [(n : Int)] := by simp [List.take_add_one, hn']
      have e : KStt.codes xt = (KStt.codes xt).take i ++ (n : Int) :: (KStt.codes xt).drop (i + 1) := by
        have ht := List.take_append_drop (i + 1) (KStt.codes xt)
        rw [hs, List.append_assoc] at ht
        exact ht.symm
      rw [hs]
      exact turn c _ _ n u m₁ h tk own e hoff hf' hp' (kst_fr h1 h2 F₁) N₁
    · rintro m₁ nx h tk ⟨c, rfl, hf', h1, h2, hp'⟩ F₁ N₁
      have hl : xt.cps.size = (KStt.codes xt).length := (KStt.codes_length xt).symm
      rw [hl, List.take_length] at hp'
      exact done c m₁ h tk hf' hp' (kst_frOut h1 h2 F₁) N₁
  cases ha : xt.cps.all (· < 128)
  · exact wpAny_pyIter_wide ha (main _ _ rfl ⟨_, Heap.get?_push_size _ rfl, rfl, rfl⟩ (Walks.strWide hh _ xt tx))
  · exact wpAny_pyIter_ascii ha (main _ _ rfl ⟨_, Heap.get?_push_size _ rfl, rfl, rfl⟩ (Walks.strAscii hh _ xt tx))

theorem rangeG {σ : Type} {r : Addr} {a₀ b₀ : Int} {t₀ u₀ v₀ : Tok} {m₀ : PySem.Str → Option Value} (Led : σ → List (Addr × Obj)) (ps : σ → List (PySem.Str × Value)) (Facts : σ → Prop) (stored : List PySem.Str) (P : List Int → σ → Prop) (c₀ : σ)
    (hh : A.handled = none) (hr : IsRange s.heap r a₀ b₀ 1 t₀ u₀ v₀) (F : Fr h₀ env.locals s.heap m₀) (N : News h₀ env.locals s.heap (Led c₀)) (hf : Facts c₀) (hk : ∀ p ∈ ps c₀, m₀ p.1 = some p.2) (hp : P [] c₀)
    (turn : ∀ (c : σ) (pre : List Int) (k : Int) t (u : PySem.Str → Option Value) h tk own, k = a₀ + (pre.length : Int) → k < b₀ → OwnOff own ((Led c).map (·.1)) → Facts c → P pre c →
      Fr h₀ env.locals h (fun y => if y = x then some (.int k t) else kstB (fun z => if stored.contains z then u z else m₀ z) (ps c) y) → News h₀ env.locals h (Led c ++ own) →
      wpAny (model prog w) A (execs body env) (InvPostG h₀ env.locals (KstS Led ps Facts x stored m₀ P (pre ++ [k])) own { s with heap := h, toks := tk } Q) E { s with heap := h, toks := tk })
    (done : ∀ (c : σ) (u : PySem.Str → Option Value) h tk, Facts c → P (rangeKs a₀ (b₀ - a₀).toNat) c → Fr h₀ env.locals h (fun y => if y = x then u y else kstB (fun z => if stored.contains z then u z else m₀ z) (ps c) y) → News h₀ env.locals h (Led c) → Q .next { s with heap := h, toks := tk }) :
    wpAny (model prog w) A (pyIter (.ref r)) (fun it s₂ => LoopAtV prog w A h₀ env x body Q E it s₂) E s := by
  have hsz : Builtin.Range.rangeSize a₀ b₀ 1 = (((b₀ - a₀).toNat : Nat) : Int) := by
    rw [rangeSize_one]; split <;> omega
  have main : ∀ (o : Obj) (St : Nat → Heap → Prop), o.isFreed = false → St 0 (s.heap.push o) → (∀ i h, St i h → ∃ o, h.get? s.heap.objs.size = some o) →
      Walks prog w A s.heap.objs.size [s.heap.objs.size] [s.heap.objs.size] (b₀ - a₀).toNat (fun i v => i < (b₀ - a₀).toNat ∧ ∃ t, v = .int (a₀ + i * 1) t) St →
      LoopAtV prog w A h₀ env x body Q E (.ref s.heap.objs.size) { s with heap := s.heap.push o } := by
    intro o St _ hst hob W
    refine kdr_loop (s := { s with heap := s.heap.push o }) (news := Led c₀) (fun i m nx => KstS Led ps Facts x stored m₀ P ((rangeKs a₀ (b₀ - a₀).toNat).take i) m nx) W (fun _ h => h) (fun _ h => h) ?_ ?_ ?_ ?_ hst (F.push _) (fun p hp => ⟨Heap.get?_push_of_some _ (N p hp).1, (N p hp).2⟩) ⟨c₀, rfl, hf, hk, fun _ _ _ _ => rfl, by simpa using hp⟩ ?_ ?_
    · intro i h hi b hb
      rw [List.mem_singleton.mp hb]
      exact hob i h hi
    · intro hm
      exact absurd F.ns.lt ((List.mem_singleton.mp hm) ▸ Nat.lt_irrefl _)
    · intro b hb
      rw [List.mem_singleton.mp hb]
      exact next_is_new F
    · intro p hp hI
      exact absurd (Heap.lt_size (N p hp).1) ((List.mem_singleton.mp hI) ▸ Nat.lt_irrefl _)
    · rintro i v m₁ nx h tk own hi ⟨_, t, rfl⟩ hoff ⟨c, rfl, hf', h1, h2, hp'⟩ F₁ N₁
      have e1 : a₀ + (i : Int) * 1 = a₀ + (i : Int) := by omega
      rw [e1] at F₁
      have hk' : (rangeKs a₀ (b₀ - a₀).toNat)[i]? = some (a₀ + (i : Int)) := by simp [rangeKs, hi]
      have hs : (rangeKs a₀ (b₀ - a₀).toNat).take (i + 1) = (rangeKs a₀ (b₀ - a₀).toNat).take i ++ [a₀ + (i : Int)] := by simp [List.take_add_one, hk']
      have hlen : ((rangeKs a₀ (b₀ - a₀).toNat).take i).length = i := by rw [List.length_take, rangeKs_length]; omega
      rw [hs]
      exact turn c _ _ t m₁ h tk own (by rw [hlen]) (by omega) hoff hf' hp' (kst_fr h1 h2 F₁) N₁
    · rintro m₁ nx h tk ⟨c, rfl, hf', h1, h2, hp'⟩ F₁ N₁
      have hl : (rangeKs a₀ (b₀ - a₀).toNat).take (b₀ - a₀).toNat = rangeKs a₀ (b₀ - a₀).toNat := List.take_of_length_le (Nat.le_of_eq (rangeKs_length _ _))
      rw [hl] at hp'
      exact done c m₁ h tk hf' hp' (kst_frOut h1 h2 F₁) N₁
  cases hsm : Builtin.Range.small a₀ b₀ 1
  · refine wpAny_pyIter_longrange hr hsm (main _ (fun i h => IsLongIter h s.heap.objs.size (a₀ + (i : Nat) * 1) ((((b₀ - a₀).toNat : Nat) : Int) - (i : Nat)) 1) rfl ?_ (fun i h hi => ⟨_, hi⟩) (Walks.longrange hh _ a₀ 1 _).bound)
    show IsLongIter _ _ _ _ _
    rw [hsz]; simpa using Heap.get?_push_size _ rfl
  · refine wpAny_pyIter_range hr hsm (main _ (fun i h => IsRangeIter h s.heap.objs.size (a₀ + (i : Nat) * 1) ((((b₀ - a₀).toNat : Nat) : Int) - (i : Nat)) 1) rfl ?_ (fun i h hi => ⟨_, hi⟩) (Walks.range hh _ a₀ 1 _).bound)
    show IsRangeIter _ _ _ _ _
    rw [hsz]; simpa using Heap.get?_push_size _ rfl

theorem endG {σ : Type} {Led : σ → List (Addr × Obj)} {ps : σ → List (Str × Value)} {Facts : σ → Prop} {stored : List Str} {m₀ : Str → Option Value} {P : List Int → σ → Prop} {pre : List Int} (c : σ) {L : Addr} {m' : Str → Option Value} {own news' : List (Addr × Obj)} {s₁ : Shared} {h' : Heap} {tk : Nat}
    (F : Fr h₀ L h' m') (N : News h₀ L h' news') (hn : ∀ p ∈ Led c, p ∈ news') (ho : ∀ p ∈ own, p ∈ news') (ha : OwnOff own ((Led c).map (·.1))) (hf : Facts c) (hk : ∀ p ∈ ps c, m' p.1 = some p.2) (hr : ∀ z, z ≠ x → (∀ p ∈ ps c, z ≠ p.1) → stored.contains z = false → m' z = m₀ z) (hp : P pre c) :
    InvEndG h₀ L (KstS Led ps Facts x stored m₀ P pre) own s₁ { s₁ with heap := h', toks := tk } :=
  InvEndG.intro F N ⟨c, rfl, hf, hk, hr, hp⟩ ha hn ho
end

section
variable {prog : Program} {w : World} {A : Around} {E : Value → Shared → Prop} {s : Shared} {env : Env} {h₀ : Heap} {x : PySem.Str} {body : List Stmt} {Q : Flow → Shared → Prop}
abbrev oneS (news : Led) (x y : Str) (m₀ : Str → Option Value) (P : List Int → Int → Prop) (pre : List Int) : (Str → Option Value) → Led → Prop :=
  KstS (σ := Int × Tok) (fun _ => news) (fun c => [(y, .int c.1 c.2)]) (fun _ => True) x [] m₀ (fun pre c => P pre c.1) pre
theorem rangeI {r : Addr} {a₀ b₀ : Int} {t₀ u₀ v₀ : Tok} {m₀ : PySem.Str → Option Value} {news : Led} {il₀ : Int} {tl₀ : Tok} (y : Str) (P : List Int → Int → Prop)
    (hh : A.handled = none) (hr : IsRange s.heap r a₀ b₀ 1 t₀ u₀ v₀) (F : Fr h₀ env.locals s.heap m₀) (N : News h₀ env.locals s.heap news) (hy : m₀ y = some (.int il₀ tl₀)) (hp : P [] il₀)
    (turn : ∀ (il : Int) (tl : Tok) (pre : List Int) (k : Int) t h tk own, k = a₀ + (pre.length : Int) → k < b₀ → OwnOff own (news.map (·.1)) → P pre il →
      Fr h₀ env.locals h (fun z => if z = x then some (.int k t) else if z = y then some (.int il tl) else m₀ z) → News h₀ env.locals h (news ++ own) →
      wpAny (model prog w) A (execs body env) (InvPostG h₀ env.locals (oneS news x y m₀ P (pre ++ [k])) own { s with heap := h, toks := tk } Q) E { s with heap := h, toks := tk })
    (done : ∀ (il : Int) (tl : Tok) (u : PySem.Str → Option Value) h tk, P (rangeKs a₀ (b₀ - a₀).toNat) il → Fr h₀ env.locals h (fun z => if z = x then u z else if z = y then some (.int il tl) else m₀ z) → News h₀ env.locals h news → Q .next { s with heap := h, toks := tk }) :
    wpAny (model prog w) A (pyIter (.ref r)) (fun it s₂ => LoopAtV prog w A h₀ env x body Q E it s₂) E s := by
  refine rangeG (σ := Int × Tok) (fun _ => news) (fun c => [(y, .int c.1 c.2)]) (fun _ => True) [] (fun pre c => P pre c.1) (il₀, tl₀) hh hr F N trivial (by intro p hp; rw [List.mem_singleton.mp hp]; exact hy) hp ?_ ?_
  · rintro ⟨il, tl⟩ pre k t u h tk own hk hb hoff _ hp' F' N'
    exact turn il tl pre k t h tk own hk hb hoff hp' F' N'
  · rintro ⟨il, tl⟩ u h tk _ hp' F' N'
    exact done il tl u h tk hp' F' N'
theorem endI {news : Led} {y : Str} {m₀ : Str → Option Value} {P : List Int → Int → Prop} {pre : List Int} {L : Addr} {m' : Str → Option Value} {own news' : Led} {s₁ : Shared} {h' : Heap} {tk : Nat} {il : Int} {tl : Tok}
    (F : Fr h₀ L h' m') (hy : m' y = some (.int il tl)) (N : News h₀ L h' news') (hp : P pre il) (hn : ∀ p ∈ news, p ∈ news') (ho : ∀ p ∈ own, p ∈ news') (ha : OwnOff own (news.map (·.1))) (hr : ∀ z, z ≠ x → z ≠ y → m' z = m₀ z) :
    InvEndG h₀ L (oneS news x y m₀ P pre) own s₁ { s₁ with heap := h', toks := tk } :=
  endG (σ := Int × Tok) (Led := fun _ => news) (ps := fun c => [(y, .int c.1 c.2)]) (Facts := fun _ => True) (il, tl) F N hn ho ha trivial (by intro p hp; rw [List.mem_singleton.mp hp]; exact hy) (fun z h1 h2 _ => hr z h1 (h2 _ (.head _))) hp
end

/-! what the loops say, over codes -/
def colStep (size : Int) (c : Int) (n : Int) : Int := if n = 9 then c + size - c.fmod size else c + 1
def colOf (size : Int) (x : List Int) : Int := x.foldl (colStep size) 0

theorem sign_eq {n : Nat} {c : Nat} : (((⟨#[n]⟩ : PySem.Str) == ⟨#[c]⟩) = true) ↔ n = c := by
  rw [beq_iff_eq]
  constructor
  · intro h
    have := congrArg PySem.Str.cps h
    simpa using this
  · rintro rfl; rfl
theorem tab_is : (Str.ofString "\t") = ⟨#[9]⟩ := by decide +kernel
theorem blank_is : (Str.ofString " ") = ⟨#[32]⟩ := by decide +kernel
theorem tab_yes {n : Nat} (h : ((⟨#[n]⟩ : PySem.Str) == Str.ofString "\t") = true) : (n : Int) = 9 := by
  rw [tab_is] at h; exact congrArg Int.ofNat (sign_eq.mp h)
theorem tab_no {n : Nat} (h : ((⟨#[n]⟩ : PySem.Str) == Str.ofString "\t") = false) : (n : Int) ≠ 9 := by
  rw [tab_is] at h; intro e
  have e' : n = 9 := by omega
  rw [sign_eq.mpr e'] at h; cases h
theorem blank_yes {n : Nat} (h : ((⟨#[n]⟩ : PySem.Str) == Str.ofString " ") = true) : (n : Int) = 32 := by
  rw [blank_is] at h; exact congrArg Int.ofNat (sign_eq.mp h)
theorem blank_no {n : Nat} (h : ((⟨#[n]⟩ : PySem.Str) == Str.ofString " ") = false) : (n : Int) ≠ 32 := by
  rw [blank_is] at h; intro e
  have e' : n = 32 := by omega
  rw [sign_eq.mpr e'] at h; cases h
theorem col_tab {size c : Int} {n : Nat} {pre : List Int} (h : ((⟨#[n]⟩ : PySem.Str) == Str.ofString "\t") = true) (hc : c = pre.foldl (colStep size) 0) :
    c + size - c.fmod size = (pre ++ [(n : Int)]).foldl (colStep size) 0 := by
  rw [List.foldl_append, ← hc, List.foldl_cons, List.foldl_nil, colStep, if_pos (tab_yes h)]
theorem col_one {size c : Int} {n : Nat} {pre : List Int} (h : ((⟨#[n]⟩ : PySem.Str) == Str.ofString "\t") = false) (hc : c = pre.foldl (colStep size) 0) :
    c + 1 = (pre ++ [(n : Int)]).foldl (colStep size) 0 := by
  rw [List.foldl_append, ← hc, List.foldl_cons, List.foldl_nil, colStep, if_neg (tab_no h)]

theorem column_ctr {w mean mg mb} (news : Led) (x : Str) (t : Tok) (size : Int) (u : Tok) (hs : 0 < size) :
    Ctr w mean mg mb 1 (.ref 97) [.str x t, .int size u] news (fun r news' => (∃ v, r = .int (colOf size (KStt.codes x)) v) ∧ news' = news) := by
  unfold Ctr
  w_top off
  k_with_none
  k_fill
  intro dp un gd cn cs a ccd cl outer A₀ base h₀ L m s Q E B F X N T hk hd hu hret
  refine wpAny_call ?_
  k_dflt cell_enter
  k_with "pyIter str" => k_state (fun pre c => c = pre.foldl (colStep size) 0) "column"
  k_with "state" => first | rfl | exact col_tab (by assumption) (by assumption) | exact col_one (by assumption) (by assumption)
  k_steps
  all_goals exact hret _ _ _ _ ⟨⟨_, congrArg (Value.int · _) kInv⟩, rfl⟩ (by k_asm) (by k_asm)
end Mine
open PySem PySem.Spec PySem.Calls PySem.W PyProof.Rows PyProof.V
set_option Elab.async false
set_option maxRecDepth 100000
set_option maxHeartbeats 8000000
namespace Mine
local macro_rules | `(tactic| k_room) => `(tactic| ktr_room)

theorem newsSub {h₀ h : Heap} {L : Addr} {a b : Led} (N : News h₀ L h a) (hs : ∀ p ∈ b, p ∈ a) : News h₀ L h b := fun p hp => N p (hs p hp)
structure WS where
  cnt : List Int
  b : Int
  n : Int
  nt : Int

def padTo (cnt : List Int) (b : Int) : List Int := if (cnt.length : Int) ≤ b then cnt ++ (List.replicate (b - cnt.length + 1).toNat [0]).flatten else cnt
def bump (cnt : List Int) (b : Int) : List Int := cnt.set b.toNat (cnt.getD b.toNat 0 + 1)
def parse : List Int → WS → WS
  | [], st => st
  | c :: cs, st => if c = 32 then parse cs ⟨st.cnt, st.b + 1, st.n + 1, st.nt⟩
    else if c = 9 then parse cs ⟨bump (padTo st.cnt st.b) st.b, 0, st.n + 1, st.nt + 1⟩
    else st

structure IS where
  l : Addr
  vs : List Value
  cnt : List Int
  ep : Nat
  b : Int
  tb : Tok
  n : Int
  tn : Tok
  nt : Int
  tnt : Tok
abbrev isLed (rest : Led) (c : IS) : Led := (c.l, W.listOf c.vs.toArray c.ep) :: rest
abbrev isPs (c : IS) : List (Str × Value) := [(Str.ofString "count", .ref c.l), (Str.ofString "b", .int c.b c.tb), (Str.ofString "n", .int c.n c.tn), (Str.ofString "nt", .int c.nt c.tnt)]
abbrev isFacts (rest : Led) (c : IS) : Prop := IntsAre c.vs c.cnt ∧ AllLt c.l rest
structure IsInv (pre : List Int) (cnt : List Int) (b n nt : Int) : Prop where
  par : ∀ post, parse (pre ++ post) ⟨[], 0, 0, 0⟩ = parse post ⟨cnt, b, n, nt⟩
  b0 : 0 ≤ b
  b1 : b ≤ pre.length
  n0 : 0 ≤ n
  n1 : n ≤ pre.length
  nt0 : 0 ≤ nt
  nt1 : nt ≤ n
  len : cnt.length ≤ pre.length
abbrev isP (pre : List Int) (c : IS) : Prop := IsInv pre c.cnt c.b c.n c.nt

theorem IsInv.blank {pre : List Int} {cnt : List Int} {b n nt : Int} {k : Nat} (hp : IsInv pre cnt b n nt) (h : ((⟨#[k]⟩ : PySem.Str) == Str.ofString " ") = true) :
    IsInv (pre ++ [(k : Int)]) cnt (b + 1) (n + 1) nt := by
  obtain ⟨h1, h2, h3, h4, h5, h6, h7, h8⟩ := hp
  refine ⟨fun post => ?_, by omega, by simp; omega, by omega, by simp; omega, by omega, by omega, by simp; omega⟩
  rw [List.append_assoc, h1, List.singleton_append, parse, if_pos (blank_yes h)]
theorem flat_one (n : Nat) : ((List.replicate n [(0 : Int)]).flatten).length = n := by simp
theorem IsInv.tab {pre : List Int} {cnt : List Int} {b n nt : Int} {k : Nat} (hp : IsInv pre cnt b n nt) (h0 : ((⟨#[k]⟩ : PySem.Str) == Str.ofString " ") = false) (h : ((⟨#[k]⟩ : PySem.Str) == Str.ofString "\t") = true) :
    IsInv (pre ++ [(k : Int)]) (bump (padTo cnt b) b) 0 (n + 1) (nt + 1) := by
  obtain ⟨h1, h2, h3, h4, h5, h6, h7, h8⟩ := hp
  refine ⟨fun post => ?_, by omega, by simp; omega, by omega, by simp; omega, by omega, by omega, ?_⟩
  · rw [List.append_assoc, h1, List.singleton_append, parse, if_neg (blank_no h0), if_pos (tab_yes h)]
  · unfold bump padTo
    rw [List.length_set]
    split
    · rw [List.length_append, flat_one]; simp; omega
    · simp; omega
theorem IsInv.tab1 {pre : List Int} {cnt : List Int} {b n nt : Int} {k : Nat} (hp : IsInv pre cnt b n nt) (h0 : ((⟨#[k]⟩ : PySem.Str) == Str.ofString " ") = false) (h : ((⟨#[k]⟩ : PySem.Str) == Str.ofString "\t") = true) (hb : (cnt.length : Int) ≤ b) :
    IsInv (pre ++ [(k : Int)]) ((cnt ++ (List.replicate (b - cnt.length + 1).toNat [0]).flatten).set b.toNat ((cnt ++ (List.replicate (b - cnt.length + 1).toNat [0]).flatten).getD b.toNat 0 + 1)) 0 (n + 1) (nt + 1) := by
  have := hp.tab h0 h
  unfold bump padTo at this
  rw [if_pos hb] at this
  exact this
theorem IsInv.tab2 {pre : List Int} {cnt : List Int} {b n nt : Int} {k : Nat} (hp : IsInv pre cnt b n nt) (h0 : ((⟨#[k]⟩ : PySem.Str) == Str.ofString " ") = false) (h : ((⟨#[k]⟩ : PySem.Str) == Str.ofString "\t") = true) (hb : ¬ (cnt.length : Int) ≤ b) :
    IsInv (pre ++ [(k : Int)]) (cnt.set b.toNat (cnt.getD b.toNat 0 + 1)) 0 (n + 1) (nt + 1) := by
  have := hp.tab h0 h
  unfold bump padTo at this
  rw [if_neg hb] at this
  exact this
theorem IsInv.out {pre post : List Int} {cnt : List Int} {b n nt : Int} {k : Nat} (hp : IsInv pre cnt b n nt) (h0 : ((⟨#[k]⟩ : PySem.Str) == Str.ofString " ") = false) (h : ((⟨#[k]⟩ : PySem.Str) == Str.ofString "\t") = false) :
    parse (pre ++ (k : Int) :: post) ⟨[], 0, 0, 0⟩ = ⟨cnt, b, n, nt⟩ := by
  rw [hp.par, parse, if_neg (blank_no h0), if_neg (tab_no h)]
theorem IsInv.all {pre : List Int} {cnt : List Int} {b n nt : Int} (hp : IsInv pre cnt b n nt) : parse pre ⟨[], 0, 0, 0⟩ = ⟨cnt, b, n, nt⟩ := by
  have := hp.par []
  rw [List.append_nil] at this
  exact this

theorem offNew {own X : Led} {adr : List Addr} {l l' : Addr} (h : AllLt l' (X ++ own)) (ho : OwnOff own (l :: adr)) : OwnOff own (l' :: adr) := by
  intro p hp b hb
  rcases List.mem_cons.mp hb with rfl | hb
  · exact Nat.ne_of_lt (kst_ltOf h p (List.mem_append.mpr (.inr hp)))
  · exact ho p hp b (.tail _ hb)
theorem allLt_left {l : Addr} {X Y : Led} (h : AllLt l (X ++ Y)) : AllLt l X := allLt_of fun p hp => kst_ltOf h p (List.mem_append.mpr (.inl hp))

theorem endIS {h₀ : Heap} {x : PySem.Str} {rest : Led} {stored : List Str} {m₀ : Str → Option Value} {pre : List Int} {L : Addr} {m' : Str → Option Value} {own news' : Led} {s₁ : Shared} {h' : Heap} {tk : Nat} {l : Addr} {b n nt : Int} {tb tn tnt : Tok} {vs : List Value} {cnt : List Int} {ep : Nat}
    (F : Fr h₀ L h' m') (h1 : m' (Str.ofString "count") = some (.ref l)) (h2 : m' (Str.ofString "b") = some (.int b tb)) (h3 : m' (Str.ofString "n") = some (.int n tn)) (h4 : m' (Str.ofString "nt") = some (.int nt tnt))
    (N : News h₀ L h' news') (hi : IntsAre vs cnt) (hm : (l, W.listOf vs.toArray ep) ∈ news') (hp : IsInv pre cnt b n nt) (hn : ∀ p ∈ rest, p ∈ news') (ho : ∀ p ∈ own, p ∈ news') (ha : OwnOff own (l :: rest.map (·.1))) (hlt : AllLt l rest)
    (hr : ∀ z, z ≠ x → (∀ p ∈ isPs ⟨l, vs, cnt, ep, b, tb, n, tn, nt, tnt⟩, z ≠ p.1) → stored.contains z = false → m' z = m₀ z) :
    InvEndG h₀ L (KstS (isLed rest) isPs (isFacts rest) x stored m₀ isP pre) own s₁ { s₁ with heap := h', toks := tk } :=
  endG (Led := isLed rest) (ps := isPs) (Facts := isFacts rest) ⟨l, vs, cnt, ep, b, tb, n, tn, nt, tnt⟩ F N (List.forall_mem_cons.mpr ⟨hm, hn⟩) ho ha ⟨hi, hlt⟩ (by intro p hp; simp only [isPs, List.mem_cons, List.not_mem_nil, or_false] at hp; rcases hp with rfl | rfl | rfl | rfl <;> assumption) hr hp

theorem tupL {prog : Program} {w : World} {A : Around} {E : Value → Shared → Prop} {s : Shared} {h₀ : Heap} {L : Addr} {m : Str → Option Value} {Q : Value → Shared → Prop} {l : Addr} {vs : List Value} {c : Nat} {news : Led} (F : Fr h₀ L s.heap m) (N : News h₀ L s.heap news) (hm : (l, W.listOf vs.toArray c) ∈ news)
    (hsz : vs.length ≤ sizeLine) (h : ∀ D h', Fr h₀ L h' m → News h₀ L h' ((D, ({ cls := .type "tuple", data := .seq vs.toArray } : Obj)) :: news) → (∀ p ∈ news, p.1 < D) → Q (.ref D) { s with heap := h' }) :
    wpAny (model prog w) A (call (.type "tuple") [.ref l]) Q E s := by
  have hl : s.heap.IsList l vs.toArray := ⟨_, (N _ hm).1, rfl, c, rfl⟩
  refine call_tuple_list hl (fun h' hk => ?_) (by rw [List.size_toArray]; exact hsz)
  have F' : Fr h₀ L h' m := F.keeps hk
  have N' : News h₀ L h' news := fun p hp => ⟨hk _ _ (N p hp).1, (N p hp).2⟩
  exact h _ _ (F'.push _) (N'.push F' _) fun p hp => Heap.lt_size (N' p hp).1
local macro_rules | `(tactic| walk_at "call type:tuple") => `(tactic| (k_here; (with_reducible show wpAny _ _ (call (Value.type _) [Value.ref _]) _ _ _); k_dflt (refine' tupL ?k1 ?k2 ?k3 ?k4 ?_; (case k1 => k_asm); (case k2 => k_asm); (case k3 => k_mem); (case k4 => (rw [sizeLine_eq]; omega)); k_whole); intro D' h' F' N' l1; (try k_lt l1); (try k_sweep)))

/-- an object of the class -/
structure WW where
  x : Addr
  dx : Addr
  p : Addr
  q : Addr
  raw : Str
  h1 : Int
  h2 : Int
  h3 : Int
  h4 : Int
  h5 : Int
  k1 : Tok
  k2 : Tok
  k3 : Tok
  k4 : Tok
  k5 : Tok
  u1 : Tok
  u2 : Tok
  u3 : Tok
  u6 : Tok
  vs : List Value
abbrev tupObj (vs : List Value) : Obj := { cls := .type "tuple", data := .seq vs.toArray }
def WW.dob (W : WW) (S : WS) : Obj := dictOf [⟨W.h1, .str (Str.ofString "raw") W.k1, .str W.raw W.u1⟩, ⟨W.h2, .str (Str.ofString "n") W.k2, .int S.n W.u2⟩, ⟨W.h3, .str (Str.ofString "nt") W.k3, .int S.nt W.u3⟩, ⟨W.h4, .str (Str.ofString "norm") W.k4, .ref W.p⟩, ⟨W.h5, .str (Str.ofString "is_simple") W.k5, .bool (decide ((S.cnt.length : Int) ≤ 1))⟩] 5
def WW.pob (W : WW) (S : WS) : Obj := { cls := .type "tuple", data := .seq #[.ref W.q, .int S.b W.u6] }
abbrev WW.led (W : WW) (S : WS) : Led := [(W.x, instObj 76 W.dx), (W.dx, W.dob S), (W.p, W.pob S), (W.q, tupObj W.vs)]
abbrev makeOut (x : Str) (news : Led) (r : Value) (news' : Led) : Prop := ∃ (W : WW) (S : WS), parse (KStt.codes x) ⟨[], 0, 0, 0⟩ = S ∧ r = .ref W.x ∧ IntsAre W.vs S.cnt ∧ news' = W.led S ++ news
theorem make_end {h₀ : Heap} {L : Addr} {m : Str → Option Value} {s : Shared} {h' : Heap} {tk : Nat} {Q : Value → Shared → Prop} {news nn : Led} {x raw : Str} {cnt : List Int} {b n nt : Int} {x' dx p q : Addr} {h1 h2 h3 h4 h5 : Int} {k1 k2 k3 k4 k5 u1 u2 u3 u6 : Tok} {vs : List Value}
    (hret : ∀ r news' h' tk', makeOut x news r news' → Fr h₀ L h' m → News h₀ L h' news' → Q r { s with heap := h', toks := tk' })
    (F : Fr h₀ L h' m) (N : News h₀ L h' nn) (hS : parse (KStt.codes x) ⟨[], 0, 0, 0⟩ = ⟨cnt, b, n, nt⟩)
    (m1 : (x', instObj 76 dx) ∈ nn) (m2 : (dx, dictOf [⟨h1, .str (Str.ofString "raw") k1, .str raw u1⟩, ⟨h2, .str (Str.ofString "n") k2, .int n u2⟩, ⟨h3, .str (Str.ofString "nt") k3, .int nt u3⟩, ⟨h4, .str (Str.ofString "norm") k4, .ref p⟩, ⟨h5, .str (Str.ofString "is_simple") k5, .bool (decide ((cnt.length : Int) ≤ 1))⟩] 5) ∈ nn)
    (m3 : (p, ({ cls := .type "tuple", data := .seq #[.ref q, .int b u6] } : Obj)) ∈ nn) (m4 : (q, tupObj vs) ∈ nn) (hi : IntsAre vs cnt) (m5 : ∀ p ∈ news, p ∈ nn) : Q (.ref x') { s with heap := h', toks := tk } := by
  refine hret _ _ _ _ ⟨⟨x', dx, p, q, raw, h1, h2, h3, h4, h5, k1, k2, k3, k4, k5, u1, u2, u3, u6, vs⟩, ⟨cnt, b, n, nt⟩, hS, rfl, hi, rfl⟩ F fun e he => N e ?_
  rcases List.mem_append.mp he with he | he
  · simp only [WW.led, List.mem_cons, List.not_mem_nil, or_false] at he
    rcases he with rfl | rfl | rfl | rfl <;> assumption
  · exact m5 e he

theorem textL {prog : Program} {w : World} {A : Around} {E : Value → Shared → Prop} {s : Shared} {env : Env} {h₀ : Heap} {x : PySem.Str} {body : List Stmt} {Q : Flow → Shared → Prop} {xt : PySem.Str} {tx : Tok} {m₀ : PySem.Str → Option Value} {rest : Led} {l : Addr} {tb tn tnt : Tok}
    (hh : A.handled = none) (F : Fr h₀ env.locals s.heap m₀) (N : News h₀ env.locals s.heap ((l, W.listOf #[] 0) :: rest)) (hf : AllLt l rest) (h1 : m₀ (Str.ofString "count") = some (.ref l)) (h2 : m₀ (Str.ofString "b") = some (.int 0 tb)) (h3 : m₀ (Str.ofString "n") = some (.int 0 tn)) (h4 : m₀ (Str.ofString "nt") = some (.int 0 tnt))
    (turn : ∀ (c : IS) (pre post : List Int) (n : Nat) t (u : PySem.Str → Option Value) h tk own, KStt.codes xt = pre ++ (n : Int) :: post → OwnOff own ((isLed rest c).map (·.1)) → isFacts rest c → isP pre c →
      Fr h₀ env.locals h (fun y => if y = x then some (.str ⟨#[n]⟩ t) else kstB (fun z => if [Str.ofString "count", Str.ofString "b", Str.ofString "n", Str.ofString "nt"].contains z then u z else m₀ z) (isPs c) y) → News h₀ env.locals h (isLed rest c ++ own) →
      wpAny (model prog w) A (execs body env) (InvPostG h₀ env.locals (KstS (isLed rest) isPs (isFacts rest) x [Str.ofString "count", Str.ofString "b", Str.ofString "n", Str.ofString "nt"] m₀ isP (pre ++ [(n : Int)])) own { s with heap := h, toks := tk } Q) E { s with heap := h, toks := tk })
    (done : ∀ (c : IS) (u : PySem.Str → Option Value) h tk, isFacts rest c → isP (KStt.codes xt) c → Fr h₀ env.locals h (fun y => if y = x then u y else kstB (fun z => if [Str.ofString "count", Str.ofString "b", Str.ofString "n", Str.ofString "nt"].contains z then u z else m₀ z) (isPs c) y) → News h₀ env.locals h (isLed rest c) → Q .next { s with heap := h, toks := tk }) :
    wpAny (model prog w) A (pyIter (.str xt tx)) (fun it s₂ => LoopAtV prog w A h₀ env x body Q E it s₂) E s :=
  textG (isLed rest) isPs (isFacts rest) [Str.ofString "count", Str.ofString "b", Str.ofString "n", Str.ofString "nt"] isP ⟨l, [], [], 0, 0, tb, 0, tn, 0, tnt⟩ hh F N ⟨by constructor, hf⟩ (by intro p hp; simp only [isPs, List.mem_cons, List.not_mem_nil, or_false] at hp; rcases hp with rfl | rfl | rfl | rfl <;> assumption) ⟨fun _ => rfl, Int.le_refl 0, Int.le_refl 0, Int.le_refl 0, Int.le_refl 0, Int.le_refl 0, Int.le_refl 0, Nat.le_refl 0⟩ turn done

theorem make_ctr {w mean mg mb} (news : Led) (x : Str) (t : Tok) (hx : x.length ≤ 1000000) :
    Ctr w mean mg mb 3 (.ref 76) [.str x t] news (makeOut x news) := by
  unfold Ctr
  w_top off
  k_with_none
  k_fill
  intro dp un gd cn cs a ccd cl outer A₀ base h₀ L m s Q E B F X N T hk hd hu hret
  k_dflt (refine' call_cls ?k1 ?k2 ?k3 ?k4 ?k5 ?k6 ?_; (case k1 => k_asm); (case k2 => k_asm); (case k3 => k_asm); (case k4 => k_is); (case k5 => k_is); (case k6 => k_is); k_whole; intro x' d' h' F' N' l1 l2; (try k_lt l1); (try k_lt2 l2); (try k_sweep))
  k_dflt cell_enter
  k_steps
  rename Fr _ _ _ _ => lF
  rename News _ _ _ _ => lN
  have kMk := kstMark
  rename (_ < _ ∧ _ < _ ∧ _ < _ ∧ AllLt _ _) => lLt
  with_unfolding_all refine textL ?hh lF lN ?hf rfl rfl rfl rfl ?turn ?done
  case hh => rfl
  case hf => exact lLt
  case turn =>
    clear lF lN lLt
    rintro ⟨l, vs, cnt, ep, b, tb, n, tn, nt, tnt⟩ pre post k tk u h tok own hsp hoff ⟨hi, hlt⟩ hp F1 N1
    dsimp only at hi hlt hp
    try dsimp only [kstB] at F1
    try dsimp only at N1
    try dsimp only at hoff
    try simp only [List.nil_append, List.cons_append, List.append_nil] at N1
    try simp only [AllLt] at hlt
    try simp only [List.map_cons] at hoff
    replace hp : IsInv pre cnt b n nt := hp
    have hb0 : 0 ≤ b := hp.b0
    have hb1 : b ≤ pre.length := hp.b1
    have hlen : cnt.length ≤ pre.length := hp.len
    have hcl := hi.length
    have hxl : pre.length + (post.length + 1) = x.length := by
      rw [← KStt.codes_length x, hsp]; simp
    (try k_fold)
    k_steps
    case _ =>
      rename Fr _ _ _ _ => eF
      rename News _ _ _ _ => eN
      with_unfolding_all refine' endIS eF rfl rfl rfl rfl eN ?hi ?hm ?hp ?hn ?ho ?ha ?hlt ?hr
      case hm => k_mem
      case hi => assumption
      case hp => exact hp.blank (by assumption)
      case hn => kst_anyIn
      case ho => kst_anyIn
      case ha => exact hoff
      case hlt => simpa only [AllLt] using hlt
      case hr => kst_same
    case _ =>
      rename Fr _ _ _ _ => eF
      rename News _ _ _ _ => eN
      rename (_ < _ ∧ _ < _ ∧ _ < _ ∧ _ < _ ∧ _ < _ ∧ _ < _ ∧ AllLt _ _) => eLt
      with_unfolding_all refine' endIS eF rfl rfl rfl rfl eN ?hi ?hm ?hp ?hn ?ho ?ha ?hlt ?hr
      case hm => k_mem
      case hi => assumption
      case hp => exact hp.tab1 (by assumption) (by assumption) (by assumption)
      case hn => kst_anyIn
      case ho => kst_anyIn
      case ha => exact offNew eLt.2.2.2.2.2.2 hoff
      case hlt => simp only [AllLt]; exact ⟨eLt.2.2.2.1, eLt.2.2.2.2.1, eLt.2.2.2.2.2.1, allLt_left eLt.2.2.2.2.2.2⟩
      case hr => kst_same
    case _ =>
      rename Fr _ _ _ _ => eF
      rename News _ _ _ _ => eN
      with_unfolding_all refine' endIS eF rfl rfl rfl rfl eN ?hi ?hm ?hp ?hn ?ho ?ha ?hlt ?hr
      case hm => k_mem
      case hi => assumption
      case hp => exact hp.tab2 (by assumption) (by assumption) (by assumption)
      case hn => kst_anyIn
      case ho => kst_anyIn
      case ha => exact hoff
      case hlt => simpa only [AllLt] using hlt
      case hr => kst_same
    case _ =>
      rename Fr _ _ _ _ => eF
      rename News _ _ _ _ => eN
      refine' make_end hret eF eN ?hS ?m1 ?m2 ?m3 ?m4 ?hi ?m5
      case m1 => k_mem
      case m2 => k_mem
      case m3 => k_mem
      case m4 => k_mem
      case hi => exact hi
      case hS => rw [hsp]; exact hp.out (by assumption) (by assumption)
      case m5 => kst_anyIn
  case done =>
    clear lF lN lLt
    rintro ⟨l, vs, cnt, ep, b, tb, n, tn, nt, tnt⟩ u h tok ⟨hi, hlt⟩ hp F1 N1
    dsimp only at hi hlt hp
    try dsimp only [kstB] at F1
    try dsimp only [isLed] at N1
    try simp only [List.nil_append, List.cons_append, List.append_nil] at N1
    try simp only [AllLt] at hlt
    replace hp : IsInv (KStt.codes x) cnt b n nt := hp
    have hlen : cnt.length ≤ (KStt.codes x).length := hp.len
    rw [KStt.codes_length] at hlen
    have hcl := hi.length
    (try k_fold)
    k_steps
    case _ =>
      rename Fr _ _ _ _ => eF
      rename News _ _ _ _ => eN
      refine' make_end hret eF eN ?hS ?m1 ?m2 ?m3 ?m4 ?hi ?m5
      case m1 => k_mem
      case m2 => k_mem
      case m3 => k_mem
      case m4 => k_mem
      case hi => exact hi
      case hS => exact hp.all
      case m5 => kst_anyIn
end Mine
open PySem PySem.Spec PySem.Calls PySem.W PyProof.Rows PyProof.V
set_option Elab.async false
set_option maxRecDepth 100000
set_option maxHeartbeats 8000000
namespace Mine
local macro_rules | `(tactic| k_room) => `(tactic| ktr_room)

theorem newsOf {h₀ h : Heap} {L : Addr} {a b : Led} (N : News h₀ L h b) (hs : ∀ p ∈ a, p ∈ b) : News h₀ L h (a ++ b) := fun p hp => (List.mem_append.mp hp).elim (fun h => N p (hs p h)) (N p)
theorem newsBack {h₀ h : Heap} {L : Addr} {a b : Led} (N : News h₀ L h (a ++ b)) : News h₀ L h b := fun p hp => N p (List.mem_append.mpr (.inr hp))

section
variable {prog : Program} {w : World} {A : Around} {E : Value → Shared → Prop} {s : Shared} {h₀ : Heap} {L : Addr} {m : Str → Option Value} {Q : Value → Shared → Prop} {news : Led}
theorem lenT {t : Addr} {vs : List Value} {ns : List Int} (N : News h₀ L s.heap news) (hm : (t, tupObj vs) ∈ news) (hi : IntsAre vs ns) (hfit : ns.length < 2 ^ 62)
    (h : Q (.int (ns.length : Int) (s.toks + 1)) { s with toks := s.toks + 1 + 1 }) : wpAny (model prog w) A (call (.builtin "len") [.ref t]) Q E s := by
  have e : vs.toArray.size = ns.length := by rw [List.size_toArray, hi.length]
  have ht : IsTup s.heap t vs.toArray := News.isTup N hm
  exact PyProof.Rows.len_tuple ht (by rw [e]; omega) (by rw [e]; exact h)
theorem itemT {value slice : PySem.Expr} {t : Addr} {vs : List Value} {ns : List Int} {k : Int} {u : Tok} (N : News h₀ L s.heap news) (hm : (t, tupObj vs) ∈ news) (hi : IntsAre vs ns) (h0 : 0 ≤ k) (h1 : k < ns.length) (hfit : ns.length < 2 ^ 62)
    (h : ∀ tk, Q (.int (ns.getD k.toNat 0) tk) s)
    (hs : subscripted slice false (.ref t) (.int k u) = operate [.ref t, .int k u] (getItem (.ref t) (.int k u)) := by with_unfolding_all rfl) :
    wpAny (model prog w) A (subscriptTail value slice (.ref t) (.int k u)) Q E s := by
  have hlt : k.toNat < ns.length := by omega
  obtain ⟨tk, hx⟩ := hi.get k.toNat ns[k.toNat] (by simp [hlt])
  have ht : IsTup s.heap t vs.toArray := News.isTup N hm
  have hl := hi.length
  refine item_tupleT ht (j := k.toNat) (x := .int ns[k.toNat] tk) (by omega) (by omega) ?_ hx ?_ hs
  · unfold seqIndex?
    have : ¬ k < 0 := by omega
    simp [this]
    omega
  · have := h tk
    rw [List.getD_eq_getElem?_getD, List.getElem?_eq_getElem hlt] at this
    exact this
end
local macro_rules | `(tactic| walk_at "call builtin:len") => `(tactic| (k_here; (with_reducible show wpAny _ _ (call (Value.builtin "len") [Value.ref _]) _ _ _); k_dflt (refine' lenT ?k1 ?k2 ?k3 ?k4 ?_; (case k1 => k_asm); (case k2 => k_mem); (case k3 => assumption); (case k4 => omega); k_whole)))
local macro_rules | `(tactic| walk_at "subscriptTail") => `(tactic| (k_here; (with_reducible show wpAny _ _ (subscriptTail _ _ (Value.ref _) (Value.int _ _)) _ _ _); (with_unfolding_all refine' itemT ?k1 ?k2 ?k3 ?k4 ?k5 ?k6 ?_ ?k8; (case k1 => k_asm); (case k2 => k_mem); (case k3 => assumption); (case k4 => omega); (case k5 => omega); (case k6 => omega); (case k8 => with_unfolding_all rfl); k_whole); intro _))

theorem fdiv_lo {i ts : Int} (h0 : 0 ≤ i) (hts : 1 ≤ ts) : 0 ≤ i.fdiv ts := by
  rw [Int.fdiv_eq_ediv_of_nonneg _ (by omega)]
  exact Int.ediv_nonneg h0 (by omega)
theorem fdiv_hi {i ts : Int} (h0 : 0 ≤ i) (hts : 1 ≤ ts) : i.fdiv ts ≤ i := by
  rw [Int.fdiv_eq_ediv_of_nonneg _ (by omega)]
  exact Int.ediv_le_self _ h0
theorem fdivOk {i ts c : Int} (h0 : 0 ≤ i) (h1 : i < 2 ^ 62) (hts : 1 ≤ ts) : IntMulOk (i.fdiv ts) c := by
  have := fdiv_lo h0 hts
  have := fdiv_hi h0 hts
  exact .of_left (intBits_le_64 (by omega) (by omega))
def lvTerm (cnt : List Int) (ts i : Int) : Int := i.fdiv ts * cnt.getD i.toNat 0
def lvSum (cnt : List Int) (ts : Int) (l : List Int) : Int := (l.map (lvTerm cnt ts)).sum
theorem lvSum_snoc (cnt : List Int) (ts : Int) (l : List Int) (i : Int) : lvSum cnt ts (l ++ [i]) = lvSum cnt ts l + i.fdiv ts * cnt.getD i.toNat 0 := by
  unfold lvSum; rw [List.map_append, List.sum_append]; simp [lvTerm]
theorem lvSum_bound (cnt : List Int) (ts : Int) (hts : 1 ≤ ts) (hc : ∀ i : Nat, 0 ≤ cnt.getD i 0 ∧ cnt.getD i 0 ≤ 1000000) : ∀ l : List Int, (∀ i ∈ l, 0 ≤ i ∧ i ≤ 1000000) → 0 ≤ lvSum cnt ts l ∧ lvSum cnt ts l ≤ 1000000000000 * (l.length : Int)
  | [], _ => ⟨Int.le_refl _, Int.le_refl _⟩
  | i :: l, h => by
    have ih := lvSum_bound cnt ts hts hc l (fun j hj => h j (.tail _ hj))
    obtain ⟨h0, h1⟩ := h i (.head _)
    have a1 := fdiv_lo h0 hts
    have a2 := fdiv_hi h0 hts
    obtain ⟨c1, c2⟩ := hc i.toNat
    have b1 : 0 ≤ i.fdiv ts * cnt.getD i.toNat 0 := Int.mul_nonneg a1 c1
    have b2 : i.fdiv ts * cnt.getD i.toNat 0 ≤ 1000000 * 1000000 := Int.mul_le_mul (by omega) c2 c1 (by omega)
    have e : lvSum cnt ts (i :: l) = i.fdiv ts * cnt.getD i.toNat 0 + lvSum cnt ts l := by simp [lvSum, lvTerm]
    rw [e, List.length_cons]
    omega

structure WS.Ok (S : WS) : Prop where
  b0 : 0 ≤ S.b
  b1 : S.b ≤ 1000000
  len : S.cnt.length ≤ 1000000
  n0 : 0 ≤ S.n
  nt0 : 0 ≤ S.nt
  nt1 : S.nt ≤ 1000000
  cs : ∀ i : Nat, 0 ≤ S.cnt.getD i 0 ∧ S.cnt.getD i 0 ≤ 1000000
def longest (S : WS) : Int := max ((S.cnt.length : Int) - 1) S.b
def level (S : WS) (ts : Int) : Int := S.b + ts * (lvSum S.cnt ts (rangeKs ts ((S.cnt.length : Int) - ts).toNat) + S.nt)
theorem mem_rangeKs {a : Int} {n : Nat} {i : Int} (h : i ∈ rangeKs a n) : a ≤ i ∧ i < a + n := by
  unfold rangeKs at h
  obtain ⟨j, hj, rfl⟩ := List.mem_map.mp h
  have := List.mem_range.mp hj
  omega
theorem lvOk {cnt : List Int} {ts il nt : Int} (hts : 1 ≤ ts) (hl : cnt.length ≤ 1000000) (hc : ∀ i : Nat, 0 ≤ cnt.getD i 0 ∧ cnt.getD i 0 ≤ 1000000) (h0 : 0 ≤ nt) (h1 : nt ≤ 1000000)
    (e : il = lvSum cnt ts (rangeKs ts ((cnt.length : Int) - ts).toNat)) : IntMulOk ts (il + nt) := by
  have h := lvSum_bound cnt ts hts hc (rangeKs ts ((cnt.length : Int) - ts).toNat) (fun i hi => by have := mem_rangeKs hi; omega)
  rw [rangeKs_length, ← e] at h
  exact .of_right (intBits_le_64 (by omega) (by omega))

local macro_rules | `(tactic| mul_fits) => `(tactic| first | exact fdivOk (by omega) (by omega) (by omega) | exact lvOk (by assumption) (by assumption) (by assumption) (by assumption) (by assumption) (by assumption))

theorem longest_ctr {w mean mg mb} (news : Led) (W : WW) (S : WS) (hm : ∀ e ∈ W.led S, e ∈ news) (hi : IntsAre W.vs S.cnt) (ok : S.Ok) :
    Ctr w mean mg mb 1 (.ref 38) [.ref W.x] news (fun r news' => (∃ t, r = .int (longest S) t) ∧ news' = news) := by
  unfold Ctr
  w_top off
  k_with_none
  k_fill
  intro dp un gd cn cs a ccd cl outer A₀ base h₀ L m s Q E B F X N T hk hd hu hret
  have N1 := newsOf N hm
  clear N
  obtain ⟨x, dx, p, q, raw, h1, h2, h3, h4, h5, k1, k2, k3, k4, k5, u1, u2, u3, u6, vs⟩ := W
  obtain ⟨cnt, b, n, nt⟩ := S
  obtain ⟨ob0, ob1, olen, on0, ont0, ont1, ocs⟩ := ok
  dsimp only [WW.led, WW.dob, WW.pob, List.cons_append, List.nil_append] at *
  have hcl := hi.length
  refine wpAny_call ?_
  k_dflt cell_enter
  k_steps
  refine hret _ _ _ _ ⟨⟨_, congrArg (Value.int · _) ?_⟩, rfl⟩ (by k_asm) (newsBack (a := [_, _, _, _]) (by k_asm))
  show _ = max _ _
  dsimp only
  omega

theorem level_ctr {w mean mg mb} (news : Led) (W : WW) (S : WS) (hm : ∀ e ∈ W.led S, e ∈ news) (hi : IntsAre W.vs S.cnt) (ok : S.Ok) (ts : Int) (t : Tok) (hts : 1 ≤ ts) :
    Ctr w mean mg mb 1 (.ref 45) [.ref W.x, .int ts t] news (fun r news' => (∃ t, r = .int (level S ts) t) ∧ news' = news) := by
  unfold Ctr
  w_top off
  k_with_none
  intro dp un gd cn cs a ccd cl outer A₀ base h₀ L m s Q E B F X N T hk hd hu hret
  have N1 := newsOf N hm
  clear N
  obtain ⟨x, dx, p, q, raw, h1, h2, h3, h4, h5, k1, k2, k3, k4, k5, u1, u2, u3, u6, vs⟩ := W
  obtain ⟨cnt, b, n, nt⟩ := S
  obtain ⟨ob0, ob1, olen, on0, ont0, ont1, ocs⟩ := ok
  dsimp only [WW.led, WW.dob, WW.pob, List.cons_append, List.nil_append] at *
  have hcl := hi.length
  refine wpAny_call ?_
  k_dflt cell_enter
  k_steps
  rename Fr _ _ _ _ => lF
  rename News _ _ _ _ => lN
  rename IsRange _ _ _ _ _ _ _ _ => lR
  with_unfolding_all refine rangeI (Str.ofString "il") (fun pre il => il = lvSum cnt ts pre) rfl lR lF lN rfl rfl ?turn ?done
  case turn =>
    clear lF lN lR
    intro il tl pre i ti h tok own hi1 hi2 hoff hp F1 N1
    try simp only [List.nil_append, List.cons_append, List.append_nil] at N1
    have i0 : 0 ≤ i := by omega
    (try k_fold)
    k_steps
    rename Fr _ _ _ _ => eF
    rename News _ _ _ _ => eN
    with_unfolding_all refine' endI eF rfl eN ?hp ?hn ?ho ?ha ?hr
    case hp => rw [lvSum_snoc, ← hp]
    case hn => kst_anyIn
    case ho => kst_anyIn
    case ha => exact hoff
    case hr => intro z h1 h2; simp [h1, h2]
  case done =>
    clear lF lN lR
    intro il tl u h tok hp F1 N1
    try dsimp only
    (try k_fold)
    k_steps
    refine hret _ _ _ _ ⟨⟨_, congrArg (Value.int · _) ?_⟩, rfl⟩ (by k_asm) (newsBack (a := [_, _, _, _]) (by k_asm))
    rw [hp]
    rfl
end Mine
open PySem PySem.Spec PySem.Calls PySem.W PyProof.Rows PyProof.V
set_option Elab.async false
set_option maxRecDepth 100000
set_option maxHeartbeats 8000000
namespace Mine
local macro_rules | `(tactic| k_room) => `(tactic| ktr_room)

theorem ctr_use {w : World} {mean : ExcName → Option Value} {mg mb : Str → Option Value} {nd : Nat} {f : Value} {vs : List Value} {news : Led} {Out : Value → Led → Prop}
    {dp un : Nat} {gd : Option (List Code)} {cn : Str} {cs : Scope} {a : Addr} {ccd : Value} {cl : List (Str × Addr)} {outer : List Env} {A₀ : Around} {base h₀ : Heap} {L : Addr} {m : Str → Option Value} {s : Shared} {Q E : Value → Shared → Prop}
    (C : Ctr w mean mg mb nd f vs news Out)
    (B : Below A₀ base outer h₀) (F : Fr h₀ L s.heap m) (X : (Mine.hd.heap_39 w.params).In h₀) (N : News h₀ L s.heap news) (T : Top VW LS mean mg mb h₀) (hk : cs.kind = .function) (hd : dp + nd < recursionLimit) (hu : un + 8 * nd < cLine)
    (ret : ∀ r news' h' tk', Out r news' → Fr h₀ L h' m → News h₀ L h' news' → Q r { s with heap := h', toks := tk' }) :
    wpAny (model PySem.Challenge.rw_pe0294_01.row.prog w) (ktrTop dp un gd cn cs L a ccd cl outer) (call f vs) Q E s :=
  C _ _ _ _ _ _ _ _ _ _ _ _ _ _ _ _ _ B F X N T hk hd hu ret

structure Stop (P : Prop) : Prop where
  out : P
local macro_rules | `(tactic| walk_at "pyIter ref") => `(tactic| (k_here; (with_reducible show wpAny _ _ (pyIter (Value.ref _)) (fun it s₂ => LoopAtV _ _ _ _ _ _ _ _ _ it s₂) _ _); refine Stop.out ?_))

/-! loops that collect data -/
structure DS where
  vs : List Value
  ds : List Dat
  ep : Nat
  tups : Led
abbrev dsLed (l : Addr) (rest : Led) (c : DS) : Led := (l, W.listOf c.vs.toArray c.ep) :: (rest ++ c.tups)
abbrev dsFacts (l : Addr) (c : DS) : Prop := DatAll c.tups c.vs c.ds ∧ OwnOff c.tups [l]
abbrev dsS (l : Addr) (rest : Led) (x : Str) (m₀ : Str → Option Value) (P : List Int → List Dat → Prop) (pre : List Int) : (Str → Option Value) → Led → Prop :=
  KstS (σ := DS) (dsLed l rest) (fun _ => []) (dsFacts l) x [] m₀ (fun pre c => P pre c.ds) pre
section
variable {prog : Program} {w : World} {A : Around} {E : Value → Shared → Prop} {s : Shared} {env : Env} {h₀ : Heap} {x : PySem.Str} {body : List Stmt} {Q : Flow → Shared → Prop}
theorem rangeD {r : Addr} {a₀ b₀ : Int} {t₀ u₀ v₀ : Tok} {m₀ : PySem.Str → Option Value} {l : Addr} {rest : Led} (P : List Int → List Dat → Prop)
    (hh : A.handled = none) (hr : IsRange s.heap r a₀ b₀ 1 t₀ u₀ v₀) (F : Fr h₀ env.locals s.heap m₀) (N : News h₀ env.locals s.heap ((l, W.listOf #[] 0) :: rest)) (hp : P [] [])
    (turn : ∀ (vs : List Value) (ds : List Dat) (ep : Nat) (tups : Led) (pre : List Int) (k : Int) t h tk own, k = a₀ + (pre.length : Int) → k < b₀ → OwnOff own (l :: (rest ++ tups).map (·.1)) → DatAll tups vs ds → OwnOff tups [l] → P pre ds →
      Fr h₀ env.locals h (fun z => if z = x then some (.int k t) else m₀ z) → News h₀ env.locals h ((l, W.listOf vs.toArray ep) :: (rest ++ (tups ++ own))) →
      wpAny (model prog w) A (execs body env) (InvPostG h₀ env.locals (dsS l rest x m₀ P (pre ++ [k])) own { s with heap := h, toks := tk } Q) E { s with heap := h, toks := tk })
    (done : ∀ (vs : List Value) (ds : List Dat) (ep : Nat) (tups : Led) (u : PySem.Str → Option Value) h tk, DatAll tups vs ds → OwnOff tups [l] → P (rangeKs a₀ (b₀ - a₀).toNat) ds → Fr h₀ env.locals h (fun z => if z = x then u z else m₀ z) → News h₀ env.locals h ((l, W.listOf vs.toArray ep) :: (rest ++ tups)) → Q .next { s with heap := h, toks := tk }) :
    wpAny (model prog w) A (pyIter (.ref r)) (fun it s₂ => LoopAtV prog w A h₀ env x body Q E it s₂) E s := by
  refine rangeG (σ := DS) (dsLed l rest) (fun _ => []) (dsFacts l) [] (fun pre c => P pre c.ds) ⟨[], [], 0, []⟩ hh hr F (by simpa [dsLed] using N) ⟨.nil, fun _ h => (nomatch h)⟩ (fun _ h => (nomatch h)) hp ?_ ?_
  · rintro ⟨vs, ds, ep, tups⟩ pre k t u h tk own hk hb hoff ⟨hd, ho⟩ hp' F' N'
    refine turn vs ds ep tups pre k t h tk own hk hb (by simpa [dsLed] using hoff) hd ho hp' F' ?_
    simpa [dsLed, List.append_assoc] using N'
  · rintro ⟨vs, ds, ep, tups⟩ u h tk ⟨hd, ho⟩ hp' F' N'
    exact done vs ds ep tups u h tk hd ho hp' F' N'
theorem endD {l : Addr} {rest : Led} {m₀ : Str → Option Value} {P : List Int → List Dat → Prop} {pre : List Int} {L : Addr} {m' : Str → Option Value} {own news' : Led} {s₁ : Shared} {h' : Heap} {tk : Nat} {vs : List Value} {ds : List Dat} {ep : Nat} (tups : Led)
    (F : Fr h₀ L h' m') (N : News h₀ L h' news') (hm : (l, W.listOf vs.toArray ep) ∈ news') (hd : DatAll tups vs ds) (hT : OwnOff tups [l]) (hp : P pre ds) (hn : ∀ p ∈ rest, p ∈ news') (ht : ∀ p ∈ tups, p ∈ news') (ho : ∀ p ∈ own, p ∈ news') (ha : OwnOff own (l :: (rest ++ tups).map (·.1))) (hr : ∀ z, z ≠ x → m' z = m₀ z) :
    InvEndG h₀ L (dsS l rest x m₀ P pre) own s₁ { s₁ with heap := h', toks := tk } :=
  endG (σ := DS) (Led := dsLed l rest) (ps := fun _ => []) (Facts := dsFacts l) ⟨vs, ds, ep, tups⟩ F N (List.forall_mem_cons.mpr ⟨hm, List.forall_mem_append.mpr ⟨hn, ht⟩⟩) ho ha ⟨hd, hT⟩ (fun _ h => (nomatch h)) (fun z h1 _ _ => hr z h1) hp
end

local macro_rules | `(tactic| walk_at "call ref") => `(tactic| (k_here; (with_reducible show wpAny _ _ (call (Value.ref _) _) _ _ _); k_dflt (refine' ctr_use (longest_ctr _ _ _ ?m ?i ?o) ?k1 ?k2 ?k3 ?k4 ?k5 ?kK ?kd ?ku ?_; (case k1 => k_asm); (case k2 => k_asm); (case k3 => k_asm); (case k4 => k_asm); (case k5 => k_asm); (case kK => first | exact rfl | assumption); (case kd => ktr_room); (case ku => ktr_units); (case i => assumption); (case o => assumption); (case m => (dsimp only [WW.led]; kst_allIn)); k_whole); rintro r9 n9 h' tk' ⟨⟨t', e1⟩, e2⟩ F' N'; subst e1; subst e2; (try dsimp only); (try k_sweep)))
local macro_rules | `(tactic| walk_at "call ref") => `(tactic| (k_here; (with_reducible show wpAny _ _ (call (Value.ref _) _) _ _ _); k_dflt (refine' ctr_use (level_ctr _ _ _ ?m ?i ?o _ _ ?z) ?k1 ?k2 ?k3 ?k4 ?k5 ?kK ?kd ?ku ?_; (case k1 => k_asm); (case k2 => k_asm); (case k3 => k_asm); (case k4 => k_asm); (case k5 => k_asm); (case kK => first | exact rfl | assumption); (case kd => ktr_room); (case ku => ktr_units); (case i => assumption); (case o => assumption); (case z => omega); (case m => (dsimp only [WW.led]; kst_allIn)); k_whole); rintro r9 n9 h' tk' ⟨⟨t', e1⟩, e2⟩ F' N'; subst e1; subst e2; (try dsimp only); (try k_sweep)))

def rowD (r : Int × Int × Int) : Dat := .tuple [.int r.1, .int r.2.1, .int r.2.2]
def topOf (S1 S2 : WS) : Int := max (longest S1) (longest S2) + 1
def rowAt (S1 S2 : WS) (ts : Int) : Int × Int × Int := (ts, level S1 ts, level S2 ts)
def neRows (S1 S2 : WS) (l : List Int) : List (Int × Int × Int) := (l.filter fun ts => level S1 ts != level S2 ts).map (rowAt S1 S2)
def geRows (S1 S2 : WS) (l : List Int) : List (Int × Int × Int) := (l.filter fun ts => decide (level S1 ts ≥ level S2 ts)).map (rowAt S1 S2)
theorem longest_lo {S : WS} (ok : S.Ok) : 0 ≤ longest S := by have := ok.b0; unfold longest; omega
theorem longest_hi {S : WS} (ok : S.Ok) : longest S ≤ 1000000 := by have := ok.b1; have := ok.len; unfold longest; omega

theorem neRows_len (S1 S2 : WS) (l : List Int) : (neRows S1 S2 l).length ≤ l.length := by
  unfold neRows; rw [List.length_map]; exact List.length_filter_le _ _
theorem geRows_len (S1 S2 : WS) (l : List Int) : (geRows S1 S2 l).length ≤ l.length := by
  unfold geRows; rw [List.length_map]; exact List.length_filter_le _ _

theorem neRows_yes {S1 S2 : WS} {pre : List Int} {k : Int} (h : ¬ level S1 k = level S2 k) : (neRows S1 S2 (pre ++ [k])).map rowD = (neRows S1 S2 pre).map rowD ++ [rowD (k, level S1 k, level S2 k)] := by
  unfold neRows
  rw [List.filter_append, List.map_append, List.map_append]
  simp [h, rowAt]
theorem neRows_no {S1 S2 : WS} {pre : List Int} {k : Int} (h : level S1 k = level S2 k) : (neRows S1 S2 (pre ++ [k])).map rowD = (neRows S1 S2 pre).map rowD := by
  unfold neRows
  rw [List.filter_append, List.map_append, List.map_append]
  simp [h]
theorem geRows_yes {S1 S2 : WS} {pre : List Int} {k : Int} (h : level S2 k ≤ level S1 k) : (geRows S1 S2 (pre ++ [k])).map rowD = (geRows S1 S2 pre).map rowD ++ [rowD (k, level S1 k, level S2 k)] := by
  unfold geRows
  rw [List.filter_append, List.map_append, List.map_append]
  simp [h, rowAt]
theorem geRows_no {S1 S2 : WS} {pre : List Int} {k : Int} (h : ¬ level S2 k ≤ level S1 k) : (geRows S1 S2 (pre ++ [k])).map rowD = (geRows S1 S2 pre).map rowD := by
  unfold geRows
  rw [List.filter_append, List.map_append, List.map_append]
  simp [h]
theorem datRow {tups : Led} {vs : List Value} {ds : List Dat} {D : Addr} {k a b : Int} {ti ta tb : Tok} (hd : DatAll tups vs ds) :
    DatAll ((D, ({ cls := .type "tuple", data := .seq #[.int k ti, .int a ta, .int b tb] } : Obj)) :: tups) (vs ++ [.ref D]) (ds ++ [rowD (k, a, b)]) :=
  (hd.mono fun p hp => .tail _ hp).append (.one (.tuple (vs := [.int k ti, .int a ta, .int b tb]) (.head _) (.cons (.int _ _) (.cons (.int _ _) (.cons (.int _ _) .nil)))))
theorem offRow {own rest tups : Led} {l D : Addr} {o : Obj} (h : OwnOff own (l :: (rest ++ tups).map (·.1))) (hD : ∀ p ∈ own, p.1 < D) : OwnOff own (l :: (rest ++ (D, o) :: tups).map (·.1)) := by
  intro p hp b hb
  rcases List.mem_cons.mp hb with rfl | hb
  · exact h p hp _ (.head _)
  · obtain ⟨q, hq, rfl⟩ := List.mem_map.mp hb
    rcases List.mem_append.mp hq with hq | hq
    · exact h p hp _ (.tail _ (List.mem_map.mpr ⟨q, List.mem_append.mpr (.inl hq), rfl⟩))
    · rcases List.mem_cons.mp hq with rfl | hq
      · exact Nat.ne_of_lt (hD p hp)
      · exact h p hp _ (.tail _ (List.mem_map.mpr ⟨q, List.mem_append.mpr (.inr hq), rfl⟩))
theorem offTup {tups : Led} {l D : Addr} {o : Obj} (h : OwnOff tups [l]) (hD : l < D) : OwnOff ((D, o) :: tups) [l] := by
  intro p hp b hb
  rcases List.mem_cons.mp hp with rfl | hp
  · rw [List.mem_singleton.mp hb]; exact (Nat.ne_of_lt hD).symm
  · exact h p hp b hb
theorem endRow {h₀ : Heap} {x : PySem.Str} {l D : Addr} {rest : Led} {m₀ : Str → Option Value} {P : List Int → List Dat → Prop} {pre : List Int} {L : Addr} {m' : Str → Option Value} {own news' tups : Led} {s₁ : Shared} {h' : Heap} {tk : Nat} {vs : List Value} {ds : List Dat} {ep : Nat} {k a b : Int} {ti ta tb : Tok}
    (hd : DatAll tups vs ds) (hT : OwnOff tups [l]) (ha : OwnOff own (l :: (rest ++ tups).map (·.1))) (F : Fr h₀ L h' m') (N : News h₀ L h' news') (hm : (l, W.listOf (vs ++ [Value.ref D]).toArray ep) ∈ news') (hD : (D, ({ cls := .type "tuple", data := .seq #[.int k ti, .int a ta, .int b tb] } : Obj)) ∈ news') (hlt : l < D) (hown : ∀ p ∈ own, p.1 < D)
    (hp : P pre (ds ++ [rowD (k, a, b)])) (hn : ∀ p ∈ rest, p ∈ news') (ht : ∀ p ∈ tups, p ∈ news') (ho : ∀ p ∈ own, p ∈ news') (hr : ∀ z, z ≠ x → m' z = m₀ z) :
    InvEndG h₀ L (dsS l rest x m₀ P pre) own s₁ { s₁ with heap := h', toks := tk } :=
  endD ((D, _) :: tups) F N hm (datRow hd) (offTup hT hlt) hp hn (List.forall_mem_cons.mpr ⟨hD, ht⟩) ho (offRow ha hown) hr
theorem ownLt {X Y own : Led} {D : Addr} (h : AllLt D (X ++ (Y ++ own))) : ∀ p ∈ own, p.1 < D := fun p hp => kst_ltOf h p (List.mem_append.mpr (.inr (List.mem_append.mpr (.inr hp))))

theorem new_ctr {w mean mg mb} (news : Led) (W1 W2 : WW) (S1 S2 : WS) (hm1 : ∀ e ∈ W1.led S1, e ∈ news) (hm2 : ∀ e ∈ W2.led S2, e ∈ news) (hi1 : IntsAre W1.vs S1.cnt) (hi2 : IntsAre W2.vs S2.cnt) (ok1 : S1.Ok) (ok2 : S2.Ok) :
    Ctr w mean mg mb 3 (.ref 59) [.ref W1.x, .ref W2.x] news (fun r news' => ∃ l vs ep tups, r = .ref l ∧ DatAll tups vs ((neRows S1 S2 (rangeKs 1 (topOf S1 S2).toNat)).map rowD) ∧ news' = (l, W.listOf vs.toArray ep) :: (news ++ tups)) := by
  unfold Ctr
  w_top off
  k_with_none
  k_fill
  intro dp un gd cn cs a ccd cl outer A₀ base h₀ L m s Q E B F X N T hk hd hu hret
  have N1 := newsOf (newsOf N hm2) (a := W1.led S1) (fun p hp => List.mem_append.mpr (.inr (hm1 p hp)))
  clear N
  dsimp only [WW.led, List.cons_append, List.nil_append] at N1
  have hl1 := longest_lo ok1
  have hl2 := longest_lo ok2
  have hl3 := longest_hi ok1
  have hl4 := longest_hi ok2
  refine wpAny_call ?_
  k_dflt cell_enter
  k_steps
  refine Stop.mk ?_
  rename Fr _ _ _ _ => lF
  rename News _ _ _ _ => lN
  rename IsRange _ _ _ _ _ _ _ _ => lR
  have kMk := kstMark
  with_unfolding_all refine rangeD (fun pre ds => ds = (neRows S1 S2 pre).map rowD) rfl lR lF lN rfl ?turn ?done
  case turn =>
    clear lF lN lR
    intro vs ds ep tups pre k ti h tok own hk1 hk2 hoff hd hT hp F1 N1
    try simp only [List.nil_append, List.cons_append, List.append_nil] at N1
    have hvl : vs.length ≤ pre.length := by
      rw [hd.length, hp, List.length_map]; exact neRows_len S1 S2 pre
    (try k_fold)
    k_steps
    case _ =>
      rename Fr _ _ _ _ => eF
      rename News _ _ _ _ => eN
      rename (_ < _ ∧ _ < _ ∧ _ < _ ∧ _ < _ ∧ _ < _ ∧ _ < _ ∧ _ < _ ∧ _ < _ ∧ _ < _ ∧ AllLt _ _) => eLt
      simp only [List.push_toArray] at eN
      with_unfolding_all refine' endRow hd hT hoff eF eN ?hm ?hD ?hlt ?hown ?hp ?hn ?ht ?ho ?hr
      case hm => k_mem
      case hD => k_mem
      case hlt => exact eLt.1
      case hown => exact ownLt eLt.2.2.2.2.2.2.2.2.2
      case hp => rw [hp]; exact (neRows_yes (by assumption)).symm
      case hn => kst_anyIn
      case ht => kst_anyIn
      case ho => kst_anyIn
      case hr => intro z h1; simp [h1]
    case _ =>
      rename Fr _ _ _ _ => eF
      rename News _ _ _ _ => eN
      with_unfolding_all refine' endD tups eF eN ?hm ?hd ?hT ?hp ?hn ?ht ?ho ?ha ?hr
      case hm => k_mem
      case hd => exact hd
      case hT => exact hT
      case hp => rw [hp]; exact (neRows_no (by assumption)).symm
      case hn => kst_anyIn
      case ht => kst_anyIn
      case ho => kst_anyIn
      case ha => exact hoff
      case hr => intro z h1; simp [h1]
  case done =>
    clear lF lN lR
    intro vs ds ep tups u h tok hd hT hp F1 N1
    try simp only [List.nil_append, List.cons_append, List.append_nil] at N1
    try dsimp only
    (try k_fold)
    k_steps
    rename Fr _ _ _ _ => eF
    rename News _ _ _ _ => eN
    have e9 : topOf S1 S2 = (if longest S2 > longest S1 then longest S2 else longest S1) + 1 + 1 - 1 := by unfold topOf; omega
    rw [← e9] at hp
    refine hret _ _ _ _ ⟨_, vs, ep, tups, rfl, by rw [← hp]; exact hd, rfl⟩ eF (newsSub eN ?_)
    kst_anyIn

theorem nlw_ctr {w mean mg mb} (news : Led) (W1 W2 : WW) (S1 S2 : WS) (hm1 : ∀ e ∈ W1.led S1, e ∈ news) (hm2 : ∀ e ∈ W2.led S2, e ∈ news) (hi1 : IntsAre W1.vs S1.cnt) (hi2 : IntsAre W2.vs S2.cnt) (ok1 : S1.Ok) (ok2 : S2.Ok) :
    Ctr w mean mg mb 3 (.ref 73) [.ref W1.x, .ref W2.x] news (fun r news' => ∃ l vs ep tups, r = .ref l ∧ DatAll tups vs ((geRows S1 S2 (rangeKs 1 (topOf S1 S2).toNat)).map rowD) ∧ news' = (l, W.listOf vs.toArray ep) :: (news ++ tups)) := by
  unfold Ctr
  w_top off
  k_with_none
  k_fill
  intro dp un gd cn cs a ccd cl outer A₀ base h₀ L m s Q E B F X N T hk hd hu hret
  have N1 := newsOf (newsOf N hm2) (a := W1.led S1) (fun p hp => List.mem_append.mpr (.inr (hm1 p hp)))
  clear N
  dsimp only [WW.led, List.cons_append, List.nil_append] at N1
  have hl1 := longest_lo ok1
  have hl2 := longest_lo ok2
  have hl3 := longest_hi ok1
  have hl4 := longest_hi ok2
  refine wpAny_call ?_
  k_dflt cell_enter
  k_steps
  refine Stop.mk ?_
  rename Fr _ _ _ _ => lF
  rename News _ _ _ _ => lN
  rename IsRange _ _ _ _ _ _ _ _ => lR
  have kMk := kstMark
  with_unfolding_all refine rangeD (fun pre ds => ds = (geRows S1 S2 pre).map rowD) rfl lR lF lN rfl ?turn ?done
  case turn =>
    clear lF lN lR
    intro vs ds ep tups pre k ti h tok own hk1 hk2 hoff hd hT hp F1 N1
    try simp only [List.nil_append, List.cons_append, List.append_nil] at N1
    have hvl : vs.length ≤ pre.length := by
      rw [hd.length, hp, List.length_map]; exact geRows_len S1 S2 pre
    (try k_fold)
    k_steps
    case _ =>
      rename Fr _ _ _ _ => eF
      rename News _ _ _ _ => eN
      rename (_ < _ ∧ _ < _ ∧ _ < _ ∧ _ < _ ∧ _ < _ ∧ _ < _ ∧ _ < _ ∧ _ < _ ∧ _ < _ ∧ AllLt _ _) => eLt
      simp only [List.push_toArray] at eN
      with_unfolding_all refine' endRow hd hT hoff eF eN ?hm ?hD ?hlt ?hown ?hp ?hn ?ht ?ho ?hr
      case hm => k_mem
      case hD => k_mem
      case hlt => exact eLt.1
      case hown => exact ownLt eLt.2.2.2.2.2.2.2.2.2
      case hp => rw [hp]; exact (geRows_yes (by assumption)).symm
      case hn => kst_anyIn
      case ht => kst_anyIn
      case ho => kst_anyIn
      case hr => intro z h1; simp [h1]
    case _ =>
      rename Fr _ _ _ _ => eF
      rename News _ _ _ _ => eN
      with_unfolding_all refine' endD tups eF eN ?hm ?hd ?hT ?hp ?hn ?ht ?ho ?ha ?hr
      case hm => k_mem
      case hd => exact hd
      case hT => exact hT
      case hp => rw [hp]; exact (geRows_no (by assumption)).symm
      case hn => kst_anyIn
      case ht => kst_anyIn
      case ho => kst_anyIn
      case ha => exact hoff
      case hr => intro z h1; simp [h1]
  case done =>
    clear lF lN lR
    intro vs ds ep tups u h tok hd hT hp F1 N1
    try simp only [List.nil_append, List.cons_append, List.append_nil] at N1
    try dsimp only
    (try k_fold)
    k_steps
    rename Fr _ _ _ _ => eF
    rename News _ _ _ _ => eN
    have e9 : topOf S1 S2 = (if longest S2 > longest S1 then longest S2 else longest S1) + 1 + 1 - 1 := by unfold topOf; omega
    rw [← e9] at hp
    refine hret _ _ _ _ ⟨_, vs, ep, tups, rfl, by rw [← hp]; exact hd, rfl⟩ eF (newsSub eN ?_)
    kst_anyIn

theorem mem_snoc {pre : List Int} {k : Int} {P : Int → Prop} (h : ∀ i ∈ pre, P i) (hk : P k) : ∀ i ∈ pre ++ [k], P i := by
  intro i hi
  rcases List.mem_append.mp hi with hi | hi
  · exact h i hi
  · rw [List.mem_singleton.mp hi]; exact hk

section
variable {prog : Program} {w : World} {A : Around} {E : Value → Shared → Prop} {s : Shared} {env : Env} {h₀ : Heap} {x : PySem.Str} {body : List Stmt} {Q : Flow → Shared → Prop}
abbrev nilS (news : Led) (x : Str) (m₀ : Str → Option Value) (P : List Int → Prop) (pre : List Int) : (Str → Option Value) → Led → Prop :=
  KstS (σ := Unit) (fun _ => news) (fun _ => []) (fun _ => True) x [] m₀ (fun pre _ => P pre) pre
theorem rangeN {r : Addr} {a₀ b₀ : Int} {t₀ u₀ v₀ : Tok} {m₀ : PySem.Str → Option Value} {news : Led} (P : List Int → Prop)
    (hh : A.handled = none) (hr : IsRange s.heap r a₀ b₀ 1 t₀ u₀ v₀) (F : Fr h₀ env.locals s.heap m₀) (N : News h₀ env.locals s.heap news) (hp : P [])
    (turn : ∀ (pre : List Int) (k : Int) t h tk own, k = a₀ + (pre.length : Int) → k < b₀ → OwnOff own (news.map (·.1)) → P pre →
      Fr h₀ env.locals h (fun z => if z = x then some (.int k t) else m₀ z) → News h₀ env.locals h (news ++ own) →
      wpAny (model prog w) A (execs body env) (InvPostG h₀ env.locals (nilS news x m₀ P (pre ++ [k])) own { s with heap := h, toks := tk } Q) E { s with heap := h, toks := tk })
    (done : ∀ (u : PySem.Str → Option Value) h tk, P (rangeKs a₀ (b₀ - a₀).toNat) → Fr h₀ env.locals h (fun z => if z = x then u z else m₀ z) → News h₀ env.locals h news → Q .next { s with heap := h, toks := tk }) :
    wpAny (model prog w) A (pyIter (.ref r)) (fun it s₂ => LoopAtV prog w A h₀ env x body Q E it s₂) E s := by
  refine rangeG (σ := Unit) (fun _ => news) (fun _ => []) (fun _ => True) [] (fun pre _ => P pre) () hh hr F N trivial (fun _ h => (nomatch h)) hp ?_ ?_
  · rintro _ pre k t u h tk own hk hb hoff _ hp' F' N'
    exact turn pre k t h tk own hk hb hoff hp' F' N'
  · rintro _ u h tk _ hp' F' N'
    exact done u h tk hp' F' N'
theorem endN {news : Led} {m₀ : Str → Option Value} {P : List Int → Prop} {pre : List Int} {L : Addr} {m' : Str → Option Value} {own news' : Led} {s₁ : Shared} {h' : Heap} {tk : Nat}
    (F : Fr h₀ L h' m') (N : News h₀ L h' news') (hp : P pre) (hn : ∀ p ∈ news, p ∈ news') (ho : ∀ p ∈ own, p ∈ news') (ha : OwnOff own (news.map (·.1))) (hr : ∀ z, z ≠ x → m' z = m₀ z) :
    InvEndG h₀ L (nilS news x m₀ P pre) own s₁ { s₁ with heap := h', toks := tk } :=
  endG (σ := Unit) (Led := fun _ => news) (ps := fun _ => []) (Facts := fun _ => True) () F N hn ho ha trivial (fun _ h => (nomatch h)) (fun z h1 _ _ => hr z h1) hp
end

def LessP (S1 S2 : WS) : Prop := S1.n < S2.n ∧ (if S1.cnt.length ≤ 1 ∧ S2.cnt.length ≤ 1 then S1.nt ≤ S2.nt else ∀ ts ∈ rangeKs 2 (topOf S1 S2 - 1).toNat, level S1 ts < level S2 ts)

theorem mem_rangeKs_of {a : Int} {n : Nat} {i : Int} (h0 : a ≤ i) (h1 : i < a + n) : i ∈ rangeKs a n := by
  unfold rangeKs
  exact List.mem_map.mpr ⟨(i - a).toNat, List.mem_range.mpr (by omega), by omega⟩

theorem less_ctr {w mean mg mb} (news : Led) (W1 W2 : WW) (S1 S2 : WS) (hm1 : ∀ e ∈ W1.led S1, e ∈ news) (hm2 : ∀ e ∈ W2.led S2, e ∈ news) (hi1 : IntsAre W1.vs S1.cnt) (hi2 : IntsAre W2.vs S2.cnt) (ok1 : S1.Ok) (ok2 : S2.Ok) :
    Ctr w mean mg mb 3 (.ref 66) [.ref W1.x, .ref W2.x] news (fun r news' => (∃ b : Bool, r = .bool b ∧ (b = true ↔ LessP S1 S2)) ∧ news' = news) := by
  unfold Ctr
  w_top off
  k_with_none
  k_fill
  intro dp un gd cn cs a ccd cl outer A₀ base h₀ L m s Q E B F X N T hk hd hu hret
  have N1 := newsOf (newsOf N hm2) (a := W1.led S1) (fun p hp => List.mem_append.mpr (.inr (hm1 p hp)))
  clear N
  dsimp only [WW.led, List.cons_append, List.nil_append] at N1
  have hl1 := longest_lo ok1
  have hl2 := longest_lo ok2
  have hl3 := longest_hi ok1
  have hl4 := longest_hi ok2
  refine wpAny_call ?_
  k_dflt cell_enter
  k_steps
  case _ =>
    rename Fr _ _ _ _ => eF
    rename News _ _ _ _ => eN
    rename S2.n ≤ S1.n => e1
    refine hret _ _ _ _ ⟨⟨false, rfl, ?_⟩, rfl⟩ eF (newsSub eN (by kst_anyIn))
    exact ⟨fun h => (nomatch h), fun h => absurd h.1 (by omega)⟩
  case _ =>
    rename Fr _ _ _ _ => eF
    rename News _ _ _ _ => eN
    rename ¬ S2.n ≤ S1.n => e1
    rename (S1.cnt.length : Int) ≤ 1 => e2
    rename (S2.cnt.length : Int) ≤ 1 => e3
    refine hret _ _ _ _ ⟨⟨_, rfl, ?_⟩, rfl⟩ eF (newsSub eN (by kst_anyIn))
    unfold LessP
    rw [if_pos ⟨by omega, by omega⟩, decide_eq_true_eq]
    exact ⟨fun h => ⟨by omega, h⟩, fun h => h.2⟩
  all_goals (
    rename ¬ S2.n ≤ S1.n => e1
    have e2 : ¬ (S1.cnt.length ≤ 1 ∧ S2.cnt.length ≤ 1) := by omega
    refine Stop.mk ?_
    rename Fr _ _ _ _ => lF
    rename News _ _ _ _ => lN
    rename IsRange _ _ _ _ _ _ _ _ => lR
    have kMk := kstMark
    with_unfolding_all refine rangeN (fun pre => ∀ ts ∈ pre, level S1 ts < level S2 ts) rfl lR lF lN (fun _ h => (nomatch h)) ?turn ?done
    case turn =>
      clear lF lN lR
      intro pre k ti h tok own hk1 hk2 hoff hp F1 N1
      try simp only [List.nil_append, List.cons_append, List.append_nil] at N1
      (try k_fold)
      k_steps
      case _ =>
        rename Fr _ _ _ _ => eF
        rename News _ _ _ _ => eN
        rename level S2 k ≤ level S1 k => e3
        refine hret _ _ _ _ ⟨⟨false, rfl, ?_⟩, rfl⟩ eF (newsSub eN (by kst_anyIn))
        refine ⟨fun h => (nomatch h), fun h => ?_⟩
        have h2 := h.2
        rw [if_neg e2] at h2
        have := h2 k (mem_rangeKs_of (by omega) (by unfold topOf; omega))
        omega
      case _ =>
        rename Fr _ _ _ _ => eF
        rename News _ _ _ _ => eN
        with_unfolding_all refine' endN eF eN ?hp ?hn ?ho ?ha ?hr
        case hp => exact mem_snoc hp (by omega)
        case hn => kst_anyIn
        case ho => kst_anyIn
        case ha => exact hoff
        case hr => intro z h1; simp [h1]
    case done =>
      clear lF lN lR
      intro u h tok hp F1 N1
      try dsimp only
      (try k_fold)
      k_steps
      rename Fr _ _ _ _ => eF
      rename News _ _ _ _ => eN
      refine hret _ _ _ _ ⟨⟨true, rfl, ?_⟩, rfl⟩ eF (newsSub eN (by kst_anyIn))
      refine ⟨fun _ => ⟨by omega, ?_⟩, fun _ => rfl⟩
      rw [if_neg e2]
      have e9 : topOf S1 S2 - 1 = (if longest S2 > longest S1 then longest S2 else longest S1) + 1 + 1 - 2 := by unfold topOf; omega
      rw [e9]
      exact hp)

theorem datInts (news : Led) : ∀ {vs : List Value} {ns : List Int}, IntsAre vs ns → DatAll news vs (ns.map Dat.int)
  | _, _, .nil => .nil
  | _, _, .cons n t r => .cons (.int n t) (datInts news r)
theorem okInts (k : Nat) (ns : List Int) : (ns.map Dat.int).all (kqdOk k) = true := by
  rw [List.all_eq_true]
  intro d hd
  obtain ⟨n, _, rfl⟩ := List.mem_map.mp hd
  unfold kqdOk
  rfl
theorem mapInt_inj {a b : List Int} : a.map Dat.int = b.map Dat.int ↔ a = b := by
  constructor
  · intro h
    exact (List.map_inj_right (fun x y e => Dat.int.inj e)).mp h
  · rintro rfl; rfl
section
variable {prog : Program} {w : World} {A : Around} {E : Value → Shared → Prop} {s : Shared} {h₀ : Heap} {L : Addr} {Q : Value → Shared → Prop} {news : Led}
theorem eqDat {v v' : Value} {d e : Dat} (N : News h₀ L s.heap news) (D1 : DatIn news v d) (D2 : DatIn news v' e) (k1 : kqdOk 9 d = true) (k2 : kqdOk 9 e = true) (hu : A.units + 64 < cLine)
    (h : ∀ b : Bool, (b = true ↔ d = e) → Q (.bool b) s) : wpAny (model prog w) A (compareOp .Eq v v') Q E s := by
  obtain ⟨as, ra⟩ := kqd_in N 9 D1 k1
  obtain ⟨bs, rb⟩ := kqd_in N 9 D2 k2
  have la := kqd_lay 9 d k1
  have lb := kqd_lay 9 e k2
  refine eq_dataH ra rb ?_ ?_ hu (h _ (kqd_eqv 9 d e 9 k1 k2))
  · unfold SeqAt.shaped; rw [la.1, Bool.true_and]; exact decide_eq_true (Nat.le_trans la.2 (by decide))
  · unfold SeqAt.shaped; rw [lb.1, Bool.true_and]; exact decide_eq_true (Nat.le_trans lb.2 (by decide))
theorem neDat {v v' : Value} {d e : Dat} (N : News h₀ L s.heap news) (D1 : DatIn news v d) (D2 : DatIn news v' e) (k1 : kqdOk 9 d = true) (k2 : kqdOk 9 e = true) (hu : A.units + 64 < cLine)
    (h : ∀ b : Bool, (b = true ↔ d ≠ e) → Q (.bool b) s) : wpAny (model prog w) A (compareOp .NotEq v v') Q E s := by
  obtain ⟨as, ra⟩ := kqd_in N 9 D1 k1
  obtain ⟨bs, rb⟩ := kqd_in N 9 D2 k2
  have la := kqd_lay 9 d k1
  have lb := kqd_lay 9 e k2
  refine ne_dataH ra rb ?_ ?_ hu (h _ ?_)
  · unfold SeqAt.shaped; rw [la.1, Bool.true_and]; exact decide_eq_true (Nat.le_trans la.2 (by decide))
  · unfold SeqAt.shaped; rw [lb.1, Bool.true_and]; exact decide_eq_true (Nat.le_trans lb.2 (by decide))
  · rw [Bool.not_eq_true', ← Bool.not_eq_true, Ne, kqd_eqv 9 d e 9 k1 k2]
theorem eqTupW {p1 q1 p2 q2 : Addr} {b1 b2 : Int} {u1 u2 : Tok} {vs1 vs2 : List Value} {c1 c2 : List Int} (N : News h₀ L s.heap news)
    (m1 : (p1, ({ cls := .type "tuple", data := .seq #[.ref q1, .int b1 u1] } : Obj)) ∈ news) (m2 : (p2, ({ cls := .type "tuple", data := .seq #[.ref q2, .int b2 u2] } : Obj)) ∈ news) (n1 : (q1, tupObj vs1) ∈ news) (n2 : (q2, tupObj vs2) ∈ news)
    (i1 : IntsAre vs1 c1) (i2 : IntsAre vs2 c2) (hu : A.units + 64 < cLine) (h : ∀ b : Bool, (b = true ↔ c1 = c2 ∧ b1 = b2) → Q (.bool b) s) : wpAny (model prog w) A (compareOp .Eq (.ref p1) (.ref p2)) Q E s := by
  refine eqDat (d := .tuple [.tuple (c1.map .int), .int b1]) (e := .tuple [.tuple (c2.map .int), .int b2]) N
    (.tuple (vs := [.ref q1, .int b1 u1]) m1 (.cons (.tuple n1 (datInts news i1)) (.cons (.int _ _) .nil)))
    (.tuple (vs := [.ref q2, .int b2 u2]) m2 (.cons (.tuple n2 (datInts news i2)) (.cons (.int _ _) .nil))) ?_ ?_ hu fun b hb => h b ?_
  · simp [kqdOk]
  · simp [kqdOk]
  · rw [hb]
    simp only [Dat.tuple.injEq, List.cons.injEq, mapInt_inj, Dat.int.injEq, and_true]
end
structure StopAt (k : String) : Prop where
local macro_rules | `(tactic| walk_at $k:str) => `(tactic| ((rename StopAt $k => hS9); clear hS9; refine Stop.out ?_))

def EqualP (S1 S2 : WS) : Prop := S1.cnt = S2.cnt ∧ S1.b = S2.b
theorem equal_ctr {w mean mg mb} (news : Led) (W1 W2 : WW) (S1 S2 : WS) (hm1 : ∀ e ∈ W1.led S1, e ∈ news) (hm2 : ∀ e ∈ W2.led S2, e ∈ news) (hi1 : IntsAre W1.vs S1.cnt) (hi2 : IntsAre W2.vs S2.cnt) (ok1 : S1.Ok) (ok2 : S2.Ok) :
    Ctr w mean mg mb 12 (.ref 52) [.ref W1.x, .ref W2.x] news (fun r news' => (∃ b : Bool, r = .bool b ∧ (b = true ↔ EqualP S1 S2)) ∧ news' = news) := by
  unfold Ctr
  w_top off
  k_with_none
  k_fill
  intro dp un gd cn cs a ccd cl outer A₀ base h₀ L m s Q E B F X N T hk hd hu hret
  have N1 := newsOf (newsOf N hm2) (a := W1.led S1) (fun p hp => List.mem_append.mpr (.inr (hm1 p hp)))
  clear N
  dsimp only [WW.led, WW.dob, WW.pob, List.cons_append, List.nil_append] at N1
  refine wpAny_call ?_
  k_dflt cell_enter
  have hStop : StopAt "compareOp Eq ref ref" := ⟨⟩
  k_steps
  refine Stop.mk ?_
  k_dflt (refine' eqTupW ?k1 ?k2 ?k3 ?k4 ?k5 ?k6 ?k7 ?k8 ?_; (case k1 => k_asm); (case k2 => k_mem); (case k3 => k_mem); (case k4 => k_mem); (case k5 => k_mem); (case k6 => assumption); (case k7 => assumption); (case k8 => ((simp only [units_deeper] at *); omega)); k_whole)
  intro b9 e1
  k_steps
  rename Fr _ _ _ _ => eF
  rename News _ _ _ _ => eN
  refine hret _ _ _ _ ⟨⟨_, rfl, e1⟩, rfl⟩ eF (newsSub eN (by kst_anyIn))
end Mine
open PySem PySem.Spec PySem.Calls PySem.W PyProof.Rows PyProof.V
set_option Elab.async false
set_option maxRecDepth 100000
set_option maxHeartbeats 8000000
namespace Mine
local macro_rules | `(tactic| k_room) => `(tactic| ktr_room)

/-! comprehensions over a name, without a test: a turn's word -/
section
variable {prog : Program} {w : World} {A : Around} {h₀ : Heap} {L : Addr} {m : Str → Option Value} {env : Env} {elt : PySem.Expr} {x : Str} {scope : Scope} {cl : List (Str × Addr)} {s : Shared} {S : Led → Prop} {P : Nat → Value → Prop} {Fin : List Value → Led → Prop}
theorem compInv {n : Nat} (J : Nat → List Value → Led → Prop)
    (turn : ∀ i ys nx v I oI C oC D m₂ h tk (E' : Value → Shared → Prop), i < n → P i v → J i ys nx → LCg.NsObj oC m₂ → m₂ x = some v → Fr h₀ L h m → News h₀ L h ((I, oI) :: (C, oC) :: (D, LCg.lst ys) :: nx) → LCg.Off3 I C D nx → ((@Ne Nat I C) ∧ (@Ne Nat I D) ∧ (@Ne Nat C D)) →
      wpAny (model prog w) A (eval elt (compEnvC scope cl C env)) (LCg.CompEnd h₀ L m { s with heap := h, toks := tk } I oI C oC D (LCg.lst ys) S (fun y nx' => J (i + 1) (ys ++ [y]) nx')) E' { s with heap := h, toks := tk })
    (done : ∀ ys nx, J n ys nx → Fin ys nx) : ∀ (k i : Nat) (ys : List Value) (nx : Led), i + k = n → J i ys nx → LCg.CompRest prog w A h₀ L m env elt x scope cl s S P Fin k i ys nx := by
  intro k
  induction k with
  | zero => intro i ys nx e hj; have e' : i = n := e; subst e'; exact LCg.CompRest.zero (done ys nx hj)
  | succ k ih =>
    intro i ys nx e hj
    refine LCg.CompRest.succ fun v I oI C oC D m₂ h tk E' hP hC hx F N off ne => ?_
    refine wpAny_mono (turn i ys nx v I oI C oC D m₂ h tk E' (by omega) hP hj hC hx F N off ne) (fun y s₂ hq => ?_) fun _ _ q => q
    obtain ⟨h', tk', nx', e2, F', N', off', hS, hr⟩ := hq
    exact ⟨h', tk', nx', e2, F', N', off', hS, ih (i + 1) (ys ++ [y]) nx' (by omega) hr⟩
end
local macro_rules | `(tactic| walk_at "CompSrc") => `(tactic| (k_here; (with_reducible show LCg.CompSrc _ _ _ _ _ _ _ _ _ _ _ _ _ _); refine Stop.out ?_))
local macro_rules | `(tactic| walk_at "eval ListComp") => `(tactic| (k_here; lcg_look; k_dflt (refine LCg.ListComp_U (F₀ := by k_asm) (by rfl) (by decide) (by rfl) (by decide) (by rfl) ?_)))

/-! texts by their codes -/
theorem codes_append (x y : PySem.Str) : KStt.codes (x ++ y) = KStt.codes x ++ KStt.codes y := by
  unfold KStt.codes; rw [Str.cps_append, Array.toList_append, List.map_append]
theorem codes_tab : KStt.codes (Str.ofString "\t") = [9] := by rw [tab_is]; rfl
theorem codes_blank : KStt.codes (Str.ofString " ") = [32] := by rw [blank_is]; rfl
theorem codes_nil : KStt.codes (Str.ofString "") = [] := by
  have : (Str.ofString "") = ⟨#[]⟩ := by decide +kernel
  rw [this]; rfl
theorem cat_fold (c : Nat) : ∀ (n : Nat) (acc : Array Nat), ((List.replicate n #[c]).foldl (· ++ ·) acc).toList = acc.toList ++ List.replicate n c
  | 0, acc => by simp
  | n + 1, acc => by
    rw [List.replicate_succ, List.foldl_cons, cat_fold c n, Array.toList_append, List.replicate_succ, List.append_assoc]
    rfl
theorem codes_mul (n : Int) : KStt.codes (Txt.mul (Str.ofString " ") n) = List.replicate n.toNat 32 := by
  rw [blank_is]
  unfold Txt.mul
  split
  · have e : n.toNat = 0 := by omega
    rw [e]; rfl
  · split
    · rename_i h1 h2
      simp only [Bool.or_eq_true, beq_iff_eq] at h2
      rcases h2 with rfl | h2
      · rfl
      · cases h2
    · unfold KStt.codes
      rw [cat_fold]
      simp
def runS (r : Int) : PySem.Str := Txt.mul (Str.ofString " ") r ++ Str.ofString "\t"
theorem codes_runS (r : Int) : KStt.codes (runS r) = List.replicate r.toNat 32 ++ [9] := by
  unfold runS; rw [codes_append, codes_mul, codes_tab]
theorem codes_join : ∀ ys : List PySem.Str, KStt.codes (Txt.join (Str.ofString "") ys) = (ys.map KStt.codes).flatten := by
  intro ys
  unfold Txt.join
  rw [StrLaws.glued_eq_join]
  induction ys with
  | nil => rfl
  | cons y r ih =>
    cases r with
    | nil => simp [Str.join]
    | cons z r =>
      show KStt.codes (y ++ Str.ofString "" ++ Str.join (Str.ofString "") (z :: r)) = _
      rw [codes_append, codes_append, codes_nil, ih]
      simp
def leadC (runs : List Int) (blanks : Int) : List Int := (runs.map fun r => List.replicate r.toNat 32 ++ [9]).flatten ++ List.replicate blanks.toNat (32 : Int)
theorem codes_lead (runs : List Int) (blanks : Int) : KStt.codes (Txt.join (Str.ofString "") (runs.map runS) ++ Txt.mul (Str.ofString " ") blanks) = leadC runs blanks := by
  rw [codes_append, codes_join, codes_mul, List.map_map]
  unfold leadC
  congr 2
  refine List.map_congr_left fun r _ => ?_
  exact codes_runS r
theorem len_codes (x : PySem.Str) : x.length = (KStt.codes x).length := (KStt.codes_length x).symm
theorem runs_len (runs : List Int) (hr : ∀ r ∈ runs, 0 ≤ r ∧ r ≤ 100) : ((runs.map fun r => List.replicate r.toNat 32 ++ [(9 : Int)]).flatten).length ≤ 101 * runs.length := by
  induction runs with
  | nil => exact Nat.le_refl _
  | cons r rs ih =>
    have h1 := hr r (.head _)
    have h2 := ih fun q hq => hr q (.tail _ hq)
    rw [List.map_cons, List.flatten_cons, List.length_append, List.length_append, List.length_replicate, List.length_cons, List.length_cons, List.length_nil]
    omega
theorem sum_len (runs : List Int) (hr : ∀ r ∈ runs, 0 ≤ r ∧ r ≤ 100) : ((runs.map runS).map (·.length)).sum ≤ 101 * runs.length := by
  induction runs with
  | nil => exact Nat.le_refl _
  | cons r rs ih =>
    have h1 := hr r (.head _)
    have h2 := ih fun q hq => hr q (.tail _ hq)
    have h3 : (runS r).length = r.toNat + 1 := by rw [len_codes, codes_runS]; simp
    rw [List.map_cons, List.map_cons, List.sum_cons, h3, List.length_cons]
    omega
theorem lead_len {runs : List Int} {blanks : Int} (hlen : runs.length ≤ 1000) (hr : ∀ r ∈ runs, 0 ≤ r ∧ r ≤ 100) (hb0 : 0 ≤ blanks) (hb1 : blanks ≤ 100) : (Txt.join (Str.ofString "") (runs.map runS) ++ Txt.mul (Str.ofString " ") blanks).length ≤ 102000 := by
  rw [len_codes, codes_lead]
  unfold leadC
  have := runs_len runs hr
  rw [List.length_append, List.length_replicate]
  omega
theorem intAt {vs : List Value} {ns : List Int} (hi : IntsAre vs ns) {i : Nat} {v : Value} (h : vs.toArray[i]? = some v) : ∃ n t, ns[i]? = some n ∧ v = .int n t := by
  have h' : vs[i]? = some v := by simpa using h
  have hl : i < ns.length := by rw [← hi.length]; exact (List.getElem?_eq_some_iff.mp h').1
  obtain ⟨t, ht⟩ := hi.get i ns[i] (by simp [hl])
  rw [ht] at h'
  exact ⟨ns[i], t, by simp [hl], (Option.some.inj h').symm⟩
theorem strs_snoc {us : List Value} {runs : List Int} {i : Nat} {r : Int} {t : Tok} (h : StrsAre us ((runs.take i).map runS)) (hr : runs[i]? = some r) : StrsAre (us ++ [.str (runS r) t]) ((runs.take (i + 1)).map runS) := by
  have e : runs.take (i + 1) = runs.take i ++ [r] := by simp [List.take_add_one, hr]
  rw [e, List.map_append]
  exact h.append' (.cons _ _ .nil)

theorem mul_run {r : Int} (h0 : 0 ≤ r) (h1 : r ≤ 100) : MulOk (Str.ofString " ") r := mulOk_of 1 100 (by decide +kernel) (by omega) (by omega) (by decide) (by decide)
theorem mul_len {r : Int} (h0 : 0 ≤ r) (h1 : r ≤ 100) : (Txt.mul (Str.ofString " ") r).length ≤ 100 := by rw [len_codes, codes_mul, List.length_replicate]; omega
theorem tab_len : (Str.ofString "\t").length = 1 := by rw [len_codes, codes_tab]; rfl
theorem join_len {runs : List Int} (hlen : runs.length ≤ 1000) (hr : ∀ r ∈ runs, 0 ≤ r ∧ r ≤ 100) : (Txt.join (Str.ofString "") (runs.map runS)).length ≤ 101000 := by
  rw [len_codes, codes_join, List.map_map]
  have := runs_len runs hr
  have e : (KStt.codes ∘ runS) = fun r => List.replicate r.toNat 32 ++ [(9 : Int)] := by funext r; exact codes_runS r
  rw [e]
  omega
local macro_rules | `(tactic| walk_at "binaryOp Mult str int") => `(tactic| (k_here; (with_reducible show wpAny _ _ (binaryOp _ (Value.str _ _) (Value.int _ _)) _ _ _); refine SB.mul (mul_run (by omega) (by omega)) ?_; intro t9 k9))
local macro_rules | `(tactic| walk_at "binaryOp Add str str") => `(tactic| (k_here; (with_reducible show wpAny _ _ (binaryOp _ (Value.str _ _) (Value.str _ _)) _ _ _); refine PyProof.Rows.add_str ?_ ?h9; (case h9 => first
  | ((have h8 := mul_len (r := _) (by assumption) (by assumption)); (have h7 := tab_len); (rw [sizeLine_eq]); omega)
  | ((have h8 := mul_len (r := _) (by assumption) (by assumption)); (have h7 := join_len (by assumption) (by assumption)); (rw [sizeLine_eq]); omega)); intro t9 k9))

section
variable {prog : Program} {w : World} {A : Around} {E : Value → Shared → Prop} {s : Shared} {h₀ : Heap} {L : Addr} {Q : Value → Shared → Prop} {news : Led}
theorem joinRuns {D : Addr} {ys : List Value} {runs : List Int} {t : Tok} (N : News h₀ L s.heap news) (hm : (D, LCg.lst ys) ∈ news) (hys : StrsAre ys (runs.map runS)) (hlen : runs.length ≤ 1000) (hr : ∀ r ∈ runs, 0 ≤ r ∧ r ≤ 100)
    (h : ∀ t' k, Q (.str (Txt.join (Str.ofString "") (runs.map runS)) t') { s with toks := k }) : wpAny (model prog w) A (call (.builtin "str.join") [.str (Str.ofString "") t, .ref D]) Q E s := by
  refine join_listC (ys := runs.map runS) (News.isList N hm) (by simpa using hys) (by decide +kernel) ?_ h
  have := sum_len runs hr
  rw [List.length_map]
  omega
end
local macro_rules | `(tactic| walk_at "call builtin:str.join") => `(tactic| (k_here; (with_reducible show wpAny _ _ (call (Value.builtin _) [Value.str _ _, Value.ref _]) _ _ _); k_dflt (refine' joinRuns ?k1 ?k2 ?k3 ?k4 ?k5 ?_; (case k1 => k_asm); (case k2 => k_mem); (case k3 => assumption); (case k4 => assumption); (case k5 => assumption); k_whole); intro t9 k9))

theorem lead_ctr {w mean mg mb} (news : Led) (l : Addr) (vs : List Value) (ep : Nat) (runs : List Int) (blanks : Int) (tb : Tok) (hm : (l, W.listOf vs.toArray ep) ∈ news) (hi : IntsAre vs runs) (hlen : runs.length ≤ 1000) (hr : ∀ r ∈ runs, 0 ≤ r ∧ r ≤ 100) (hb0 : 0 ≤ blanks) (hb1 : blanks ≤ 100) :
    Ctr w mean mg mb 3 (.ref 90) [.ref l, .int blanks tb] news (fun r news' => (∃ X t, r = .str X t ∧ KStt.codes X = leadC runs blanks ∧ X.length ≤ 102000) ∧ news' = news) := by
  unfold Ctr
  w_top off
  k_with_none
  k_fill
  intro dp un gd cn cs a ccd cl outer A₀ base h₀ L m s Q E B F X N T hk hd hu hret
  have N1 : News h₀ L s.heap ((l, W.listOf vs.toArray ep) :: news) := newsOf (a := [_]) N (by intro p hp; rw [List.mem_singleton.mp hp]; exact hm)
  clear N
  have hil := hi.length
  refine wpAny_call ?_
  k_dflt cell_enter
  k_steps
  refine Stop.mk ?_
  rename Fr _ _ _ _ => lF
  rename News _ _ _ _ => lN
  k_dflt (refine LCg.CompSrc.ledger rfl lF lN (List.Mem.head _) (by rw [List.size_toArray, sizeLine_eq]; omega) ?_)
  clear lF lN
  intro g
  refine compInv (n := vs.toArray.size) (fun i ys nx => nx = (l, W.listOf vs.toArray ep) :: news ∧ StrsAre ys ((runs.take i).map runS)) ?turn ?done _ 0 [] _ (by omega) ⟨rfl, .nil⟩
  case turn =>
    intro i ys nx v I oI C oC D m₂ h tk E' hlt hP hJ hC hx F1 N1 off ne
    obtain ⟨rfl, hys⟩ := hJ
    obtain ⟨r, tr, hri, rfl⟩ := intAt hi hP
    obtain ⟨r0, r1⟩ := hr r (List.mem_of_getElem? hri)
    k_steps
    rename Fr _ _ _ _ => eF
    rename News _ _ _ _ => eN
    exact LCg.CompEnd.intro eF eN _ (fun p hp => hp) off (.inr ⟨_, .head _, rfl, _, rfl⟩) ⟨rfl, strs_snoc hys hri⟩
  case done =>
    rintro ys nx ⟨rfl, hys⟩
    have hsz : vs.toArray.size = runs.length := by rw [List.size_toArray, hil]
    rw [hsz, List.take_length] at hys
    k_steps
    rename Fr _ _ _ _ => eF
    rename News _ _ _ _ => eN
    refine hret _ _ _ _ ⟨⟨_, _, rfl, codes_lead runs blanks, lead_len hlen hr hb0 hb1⟩, rfl⟩ eF (newsSub eN (by kst_anyIn))
end Mine
open PySem PySem.Spec PySem.Calls PySem.W PyProof.Rows PyProof.V
set_option Elab.async false
set_option maxRecDepth 100000
set_option maxHeartbeats 8000000
namespace Mine
local macro_rules | `(tactic| k_room) => `(tactic| ktr_room)
local macro_rules | `(tactic| walk_at "pyIter ref") => `(tactic| (k_here; (with_reducible show wpAny _ _ (pyIter (Value.ref _)) (fun it s₂ => LoopAtV _ _ _ _ _ _ _ _ _ it s₂) _ _); refine Stop.out ?_))

def stepKs (a c : Int) (n : Nat) : List Int := (List.range n).map fun (i : Nat) => a + (i : Int) * c
theorem stepKs_succ (a c : Int) (n : Nat) : stepKs a c (n + 1) = stepKs a c n ++ [a + (n : Int) * c] := by
  unfold stepKs; rw [List.range_succ, List.map_append]; rfl
theorem stepKs_len (a c : Int) (n : Nat) : (stepKs a c n).length = n := by unfold stepKs; simp

section
variable {prog : Program} {w : World} {A : Around} {E : Value → Shared → Prop} {s : Shared} {env : Env} {h₀ : Heap} {x : PySem.Str} {body : List Stmt} {Q : Flow → Shared → Prop}
theorem rangeC {σ : Type} {r : Addr} {a₀ b₀ c₁ : Int} {t₀ u₀ v₀ : Tok} {n : Nat} {m₀ : PySem.Str → Option Value} (Led : σ → List (Addr × Obj)) (ps : σ → List (PySem.Str × Value)) (Facts : σ → Prop) (stored : List PySem.Str) (P : List Int → σ → Prop) (c₀ : σ)
    (hh : A.handled = none) (hr : IsRange s.heap r a₀ b₀ c₁ t₀ u₀ v₀) (hsm : Builtin.Range.small a₀ b₀ c₁ = true) (hsz : Builtin.Range.rangeSize a₀ b₀ c₁ = (n : Int)) (F : Fr h₀ env.locals s.heap m₀) (N : News h₀ env.locals s.heap (Led c₀)) (hf : Facts c₀) (hk : ∀ p ∈ ps c₀, m₀ p.1 = some p.2) (hp : P [] c₀)
    (turn : ∀ (c : σ) (i : Nat) t (u : PySem.Str → Option Value) h tk own, i < n → OwnOff own ((Led c).map (·.1)) → Facts c → P (stepKs a₀ c₁ i) c →
      Fr h₀ env.locals h (fun y => if y = x then some (.int (a₀ + (i : Int) * c₁) t) else kstB (fun z => if stored.contains z then u z else m₀ z) (ps c) y) → News h₀ env.locals h (Led c ++ own) →
      wpAny (model prog w) A (execs body env) (InvPostG h₀ env.locals (KstS Led ps Facts x stored m₀ P (stepKs a₀ c₁ i ++ [a₀ + (i : Int) * c₁])) own { s with heap := h, toks := tk } Q) E { s with heap := h, toks := tk })
    (done : ∀ (c : σ) (u : PySem.Str → Option Value) h tk, Facts c → P (stepKs a₀ c₁ n) c → Fr h₀ env.locals h (fun y => if y = x then u y else kstB (fun z => if stored.contains z then u z else m₀ z) (ps c) y) → News h₀ env.locals h (Led c) → Q .next { s with heap := h, toks := tk }) :
    wpAny (model prog w) A (pyIter (.ref r)) (fun it s₂ => LoopAtV prog w A h₀ env x body Q E it s₂) E s := by
  refine wpAny_pyIter_range hr hsm ?_
  have W : Walks prog w A s.heap.objs.size [s.heap.objs.size] [s.heap.objs.size] n (fun i v => i < n ∧ ∃ t, v = .int (a₀ + i * c₁) t)
      (fun i h => IsRangeIter h s.heap.objs.size (a₀ + (i : Nat) * c₁) ((n : Int) - (i : Nat)) c₁) := (Walks.range hh _ a₀ c₁ n).bound
  refine kdr_loop (news := Led c₀) (fun i m nx => KstS Led ps Facts x stored m₀ P (stepKs a₀ c₁ i) m nx) W (fun _ h => h) (fun _ h => h) ?_ ?_ ?_ ?_ (by show IsRangeIter _ _ _ _ _; rw [hsz]; simpa using Heap.get?_push_size _ rfl) (F.push _) (fun p hp => ⟨Heap.get?_push_of_some _ (N p hp).1, (N p hp).2⟩) ⟨c₀, rfl, hf, hk, fun _ _ _ _ => rfl, hp⟩ ?_ ?_
  · intro i h hi b hb
    rw [List.mem_singleton.mp hb]
    exact ⟨_, hi⟩
  · intro hm
    exact absurd F.ns.lt ((List.mem_singleton.mp hm) ▸ Nat.lt_irrefl _)
  · intro b hb
    rw [List.mem_singleton.mp hb]
    exact next_is_new F
  · intro p hp hI
    exact absurd (Heap.lt_size (N p hp).1) ((List.mem_singleton.mp hI) ▸ Nat.lt_irrefl _)
  · rintro i v m₁ nx h tk own hi ⟨_, t, rfl⟩ hoff ⟨c, rfl, hf', h1, h2, hp'⟩ F₁ N₁
    rw [stepKs_succ]
    exact turn c i t m₁ h tk own hi hoff hf' hp' (kst_fr h1 h2 F₁) N₁
  · rintro m₁ nx h tk ⟨c, rfl, hf', h1, h2, hp'⟩ F₁ N₁
    exact done c m₁ h tk hf' hp' (kst_frOut h1 h2 F₁) N₁
end

/-! a list of ints that a loop turns -/
structure LS1 where
  vs : List Value
  ns : List Int
  ep : Nat
abbrev l1S (M : Addr) (rest : Led) (x : Str) (m₀ : Str → Option Value) (P : List Int → List Int → Prop) (pre : List Int) : (Str → Option Value) → Led → Prop :=
  KstS (σ := LS1) (fun c => (M, W.listOf c.vs.toArray c.ep) :: rest) (fun _ => []) (fun c => IntsAre c.vs c.ns) x [] m₀ (fun pre c => P pre c.ns) pre
section
variable {prog : Program} {w : World} {A : Around} {E : Value → Shared → Prop} {s : Shared} {env : Env} {h₀ : Heap} {x : PySem.Str} {body : List Stmt} {Q : Flow → Shared → Prop}
theorem rangeL {r : Addr} {a₀ b₀ c₁ : Int} {t₀ u₀ v₀ : Tok} {n : Nat} {m₀ : PySem.Str → Option Value} {M : Addr} {rest : Led} {vs₀ : List Value} {ns₀ : List Int} {ep₀ : Nat} (P : List Int → List Int → Prop)
    (hh : A.handled = none) (hr : IsRange s.heap r a₀ b₀ c₁ t₀ u₀ v₀) (hsm : Builtin.Range.small a₀ b₀ c₁ = true) (hsz : Builtin.Range.rangeSize a₀ b₀ c₁ = (n : Int)) (F : Fr h₀ env.locals s.heap m₀) (N : News h₀ env.locals s.heap ((M, W.listOf vs₀.toArray ep₀) :: rest)) (hi : IntsAre vs₀ ns₀) (hp : P [] ns₀)
    (turn : ∀ (vs : List Value) (ns : List Int) (ep : Nat) (i : Nat) t h tk own, i < n → OwnOff own (M :: rest.map (·.1)) → IntsAre vs ns → P (stepKs a₀ c₁ i) ns →
      Fr h₀ env.locals h (fun y => if y = x then some (.int (a₀ + (i : Int) * c₁) t) else m₀ y) → News h₀ env.locals h ((M, W.listOf vs.toArray ep) :: (rest ++ own)) →
      wpAny (model prog w) A (execs body env) (InvPostG h₀ env.locals (l1S M rest x m₀ P (stepKs a₀ c₁ i ++ [a₀ + (i : Int) * c₁])) own { s with heap := h, toks := tk } Q) E { s with heap := h, toks := tk })
    (done : ∀ (vs : List Value) (ns : List Int) (ep : Nat) (u : PySem.Str → Option Value) h tk, IntsAre vs ns → P (stepKs a₀ c₁ n) ns → Fr h₀ env.locals h (fun y => if y = x then u y else m₀ y) → News h₀ env.locals h ((M, W.listOf vs.toArray ep) :: rest) → Q .next { s with heap := h, toks := tk }) :
    wpAny (model prog w) A (pyIter (.ref r)) (fun it s₂ => LoopAtV prog w A h₀ env x body Q E it s₂) E s := by
  refine rangeC (σ := LS1) (fun c => (M, W.listOf c.vs.toArray c.ep) :: rest) (fun _ => []) (fun c => IntsAre c.vs c.ns) [] (fun pre c => P pre c.ns) ⟨vs₀, ns₀, ep₀⟩ hh hr hsm hsz F N hi (fun _ h => (nomatch h)) hp ?_ ?_
  · rintro ⟨vs, ns, ep⟩ i t u h tk own hi hoff hf hp' F' N'
    exact turn vs ns ep i t h tk own hi (by simpa using hoff) hf hp' F' N'
  · rintro ⟨vs, ns, ep⟩ u h tk hf hp' F' N'
    exact done vs ns ep u h tk hf hp' F' N'
theorem endL {M : Addr} {rest : Led} {m₀ : Str → Option Value} {P : List Int → List Int → Prop} {pre : List Int} {L : Addr} {m' : Str → Option Value} {own news' : Led} {s₁ : Shared} {h' : Heap} {tk : Nat} {vs : List Value} {ns : List Int} {ep : Nat}
    (F : Fr h₀ L h' m') (N : News h₀ L h' news') (hm : (M, W.listOf vs.toArray ep) ∈ news') (hi : IntsAre vs ns) (hp : P pre ns) (hn : ∀ p ∈ rest, p ∈ news') (ho : ∀ p ∈ own, p ∈ news') (ha : OwnOff own (M :: rest.map (·.1))) (hr : ∀ z, z ≠ x → m' z = m₀ z) :
    InvEndG h₀ L (l1S M rest x m₀ P pre) own s₁ { s₁ with heap := h', toks := tk } :=
  endG (σ := LS1) (Led := fun c => (M, W.listOf c.vs.toArray c.ep) :: rest) (ps := fun _ => []) (Facts := fun c => IntsAre c.vs c.ns) ⟨vs, ns, ep⟩ F N (List.forall_mem_cons.mpr ⟨hm, hn⟩) ho ha hi (fun _ h => (nomatch h)) (fun z h1 _ _ => hr z h1) hp
end

/-! two lists of ints that a loop turns, and names it stores -/
structure LS2 where
  vs : List Value
  ns : List Int
  ep : Nat
  ws : List Value
  ms : List Int
  eq : Nat
abbrev l2S (M K : Addr) (rest : Led) (x : Str) (stored : List Str) (m₀ : Str → Option Value) (P : List Int → List Int → List Int → Prop) (pre : List Int) : (Str → Option Value) → Led → Prop :=
  KstS (σ := LS2) (fun c => (K, W.listOf c.ws.toArray c.eq) :: (M, W.listOf c.vs.toArray c.ep) :: rest) (fun _ => []) (fun c => IntsAre c.vs c.ns ∧ IntsAre c.ws c.ms) x stored m₀ (fun pre c => P pre c.ns c.ms) pre
section
variable {prog : Program} {w : World} {A : Around} {E : Value → Shared → Prop} {s : Shared} {env : Env} {h₀ : Heap} {x : PySem.Str} {body : List Stmt} {Q : Flow → Shared → Prop}
theorem rangeL2 {r : Addr} {a₀ b₀ : Int} {t₀ u₀ v₀ : Tok} {m₀ : PySem.Str → Option Value} {M K : Addr} {rest : Led} {vs₀ ws₀ : List Value} {ns₀ ms₀ : List Int} {ep₀ eq₀ : Nat} (stored : List Str) (P : List Int → List Int → List Int → Prop)
    (hh : A.handled = none) (hr : IsRange s.heap r a₀ b₀ 1 t₀ u₀ v₀) (F : Fr h₀ env.locals s.heap m₀) (N : News h₀ env.locals s.heap ((K, W.listOf ws₀.toArray eq₀) :: (M, W.listOf vs₀.toArray ep₀) :: rest)) (hi : IntsAre vs₀ ns₀) (hj : IntsAre ws₀ ms₀) (hp : P [] ns₀ ms₀)
    (turn : ∀ (vs : List Value) (ns : List Int) (ep : Nat) (ws : List Value) (ms : List Int) (eq : Nat) (pre : List Int) (k : Int) t (u : Str → Option Value) h tk own, k = a₀ + (pre.length : Int) → k < b₀ → OwnOff own (K :: M :: rest.map (·.1)) → IntsAre vs ns → IntsAre ws ms → P pre ns ms →
      Fr h₀ env.locals h (fun y => if y = x then some (.int k t) else if stored.contains y then u y else m₀ y) → News h₀ env.locals h ((K, W.listOf ws.toArray eq) :: (M, W.listOf vs.toArray ep) :: (rest ++ own)) →
      wpAny (model prog w) A (execs body env) (InvPostG h₀ env.locals (l2S M K rest x stored m₀ P (pre ++ [k])) own { s with heap := h, toks := tk } Q) E { s with heap := h, toks := tk })
    (done : ∀ (vs : List Value) (ns : List Int) (ep : Nat) (ws : List Value) (ms : List Int) (eq : Nat) (u : PySem.Str → Option Value) h tk, IntsAre vs ns → IntsAre ws ms → P (rangeKs a₀ (b₀ - a₀).toNat) ns ms → Fr h₀ env.locals h (fun y => if y = x then u y else if stored.contains y then u y else m₀ y) → News h₀ env.locals h ((K, W.listOf ws.toArray eq) :: (M, W.listOf vs.toArray ep) :: rest) → Q .next { s with heap := h, toks := tk }) :
    wpAny (model prog w) A (pyIter (.ref r)) (fun it s₂ => LoopAtV prog w A h₀ env x body Q E it s₂) E s := by
  refine rangeG (σ := LS2) (fun c => (K, W.listOf c.ws.toArray c.eq) :: (M, W.listOf c.vs.toArray c.ep) :: rest) (fun _ => []) (fun c => IntsAre c.vs c.ns ∧ IntsAre c.ws c.ms) stored (fun pre c => P pre c.ns c.ms) ⟨vs₀, ns₀, ep₀, ws₀, ms₀, eq₀⟩ hh hr F N ⟨hi, hj⟩ (fun _ h => (nomatch h)) hp ?_ ?_
  · rintro ⟨vs, ns, ep, ws, ms, eq⟩ pre k t u h tk own hk hb hoff hf hp' F' N'
    exact turn vs ns ep ws ms eq pre k t u h tk own hk hb (by simpa using hoff) hf.1 hf.2 hp' F' N'
  · rintro ⟨vs, ns, ep, ws, ms, eq⟩ u h tk hf hp' F' N'
    exact done vs ns ep ws ms eq u h tk hf.1 hf.2 hp' F' N'
theorem endL2 {M K : Addr} {rest : Led} {stored : List Str} {m₀ : Str → Option Value} {P : List Int → List Int → List Int → Prop} {pre : List Int} {L : Addr} {m' : Str → Option Value} {own news' : Led} {s₁ : Shared} {h' : Heap} {tk : Nat} {vs ws : List Value} {ns ms : List Int} {ep eq : Nat}
    (F : Fr h₀ L h' m') (N : News h₀ L h' news') (hm : (M, W.listOf vs.toArray ep) ∈ news') (hk : (K, W.listOf ws.toArray eq) ∈ news') (hi : IntsAre vs ns) (hj : IntsAre ws ms) (hp : P pre ns ms) (hn : ∀ p ∈ rest, p ∈ news') (ho : ∀ p ∈ own, p ∈ news') (ha : OwnOff own (K :: M :: rest.map (·.1))) (hr : ∀ z, z ≠ x → stored.contains z = false → m' z = m₀ z) :
    InvEndG h₀ L (l2S M K rest x stored m₀ P pre) own s₁ { s₁ with heap := h', toks := tk } :=
  endG (σ := LS2) (Led := fun c => (K, W.listOf c.ws.toArray c.eq) :: (M, W.listOf c.vs.toArray c.ep) :: rest) (ps := fun _ => []) (Facts := fun c => IntsAre c.vs c.ns ∧ IntsAre c.ws c.ms) ⟨vs, ns, ep, ws, ms, eq⟩ F N (List.forall_mem_cons.mpr ⟨hk, List.forall_mem_cons.mpr ⟨hm, hn⟩⟩) ho ha ⟨hi, hj⟩ (fun _ h => (nomatch h)) (fun z h1 _ h3 => hr z h1 h3) hp
end

/-! a comprehension over a range by steps -/
section
variable {prog : Program} {w : World} {A : Around} {E : Value → Shared → Prop} {s : Shared} {h₀ : Heap} {L : Addr} {m : Str → Option Value} {env : Env}
structure SrcG (prog : Program) (w : World) (A : Around) (h₀ : Heap) (L : Addr) (m : Str → Option Value) (env : Env) (elt : PySem.Expr) (x : Str) (scope : Scope) (cl : List (Str × Addr)) (Fin : Shared → List Value → Led → Prop) (xv : Value) (s₁ : Shared) : Prop where
  out : ∃ r a b c t u v n news, xv = .ref r ∧ A.handled = none ∧ Fr h₀ L s₁.heap m ∧ News h₀ L s₁.heap news ∧ IsRange s₁.heap r a b c t u v ∧ Builtin.Range.small a b c = true ∧ Builtin.Range.rangeSize a b c = ((n : Nat) : Int) ∧ n ≤ sizeLine ∧
    ∀ g, LCg.CompRest prog w A h₀ L m env elt x scope cl { s₁ with heap := g } (fun _ => True) (fun i v => ∃ t, v = .int (a + (i : Int) * c) t) (Fin { s₁ with heap := g }) n 0 [] news
theorem compStep {elt iter : PySem.Expr} {x : Str} {px : Pos} {scope : Scope} {cl : List (Str × Addr)} {pos : Pos} {Q : Value → Shared → Prop} (F₀ : Fr h₀ L s.heap m)
    (hclos : closureFor scope env = pure cl) (hcell : ∀ y ∈ scope.names, y.2 ≠ .cell) (hkind : scope.kind = .function)
    (hnames : ∀ y ∈ scope.names, y.2 = .local → scope.names.lookup y.1 = some .local) (hx : scope.names.lookup x = some .local)
    (h : wpAny (model prog w) A (eval iter env) (SrcG prog w A h₀ L m env elt x scope cl (fun s₂ => LCg.FinE h₀ L m s₂ Q)) E s)
    (hs : ∀ x, foldedSetIterable iter env x = pure x := by intro _; rfl) :
    wpAny (model prog w) A (eval (.ListComp elt [⟨.Name x px, iter, [], 0⟩] scope pos) env) Q E s := by
  rw [eval_ListComp]
  refine wpAny_comprehension_free (use := none) rfl hs hclos hkind hnames (wpAny_mono h (fun xv s₁ h₁ => ?_) fun _ _ e => e)
  obtain ⟨r, a, b, c, t, u, v, n, news, rfl, hh, F, N, hr, hsm, hn, hsz, R⟩ := h₁.out
  refine wpAny_pyIter_range hr hsm ?_
  have W : Walks prog w A s₁.heap.objs.size [s₁.heap.objs.size] [s₁.heap.objs.size] n (fun i v => ∃ t, v = .int (a + (i : Int) * c) t) (fun i h => IsRangeIter h s₁.heap.objs.size (a + (i : Nat) * c) ((n : Int) - (i : Nat)) c) := Walks.range hh _ a c n
  refine LCg.block_U (S := fun _ => True) W hsz (fun i h st => ⟨_, st⟩) (fun i g g' o nw st e e' _ _ _ => ?_) hcell hkind hx (by show IsRangeIter _ _ _ _ _; rw [hn]; simpa using Heap.get?_push_size _ rfl) (fun b hb => ?_)
    (F.keeps fun _ _ e => Heap.get?_push_of_some _ e) (N.grown fun _ _ e => Heap.get?_push_of_some _ e) (Nat.ne_of_lt F.ns.lt) (next_is_new F) (fun p hp => Nat.ne_of_lt (Heap.lt_size (N p hp).1)) trivial (R _) ?_
  · have st' : g.get? s₁.heap.objs.size = some _ := st
    show g'.get? s₁.heap.objs.size = some _
    rw [e', ← e]; exact st'
  · rw [List.mem_singleton.mp hb]
    show s₁.heap.objs.size < (s₁.heap.push _).objs.size
    rw [Heap.size_push]; exact Nat.lt_succ_self _
  · intro D C h tk m' ys news' F' N' o1 hn hC₀ hD₀ hCL hDL hCD offC fin
    refine ⟨m', hn, fun h'' hs'' => fin D h'' tk (F'.change hs'' hCL hC₀) (fun p hp => ?_) o1⟩
    refine ⟨hs''.extBut _ _ ?_ (N' p hp).1, (N' p hp).2⟩
    rcases List.mem_cons.mp hp with rfl | hp
    · exact Ne.symm hCD
    · exact offC p hp
end
local macro_rules | `(tactic| walk_at "eval ListComp") => `(tactic| (k_here; k_dflt (refine compStep (F₀ := by k_asm) (by with_unfolding_all rfl) (by decide) (by rfl) (by decide) (by rfl) ?_)))

section
variable {prog : Program} {w : World} {A : Around} {h₀ : Heap} {L : Addr} {m : Str → Option Value} {env : Env} {elt : PySem.Expr} {x : Str} {scope : Scope} {cl : List (Str × Addr)} {s : Shared} {S : Led → Prop} {P : Nat → Value → Prop} {Fin : List Value → Led → Prop} {news : Led}
theorem compInvC {n : Nat} (J : Nat → List Value → Prop) (hJ : J 0 [])
    (turn : ∀ i ys v I oI C oC D m₂ h tk (E' : Value → Shared → Prop), i < n → P i v → J i ys → LCg.NsObj oC m₂ → m₂ x = some v → Fr h₀ L h m → News h₀ L h ((I, oI) :: (C, oC) :: (D, LCg.lst ys) :: news) → LCg.Off3 I C D news → ((@Ne Nat I C) ∧ (@Ne Nat I D) ∧ (@Ne Nat C D)) →
      wpAny (model prog w) A (eval elt (compEnvC scope cl C env)) (LCg.CompEnd h₀ L m { s with heap := h, toks := tk } I oI C oC D (LCg.lst ys) S (fun y nx' => nx' = news ∧ J (i + 1) (ys ++ [y]))) E' { s with heap := h, toks := tk })
    (done : ∀ ys, J n ys → Fin ys news) : LCg.CompRest prog w A h₀ L m env elt x scope cl s S P Fin n 0 [] news := by
  refine compInv (n := n) (fun i ys nx => nx = news ∧ J i ys) ?_ ?_ n 0 [] news (Nat.zero_add _) ⟨rfl, hJ⟩
  · rintro i ys nx v I oI C oC D m₂ h tk E' hlt hP ⟨rfl, hj⟩ hC hx F N off ne
    exact turn i ys v I oI C oC D m₂ h tk E' hlt hP hj hC hx F N off ne
  · rintro ys nx ⟨rfl, hj⟩
    exact done ys hj
end
theorem ints_snoc {vs : List Value} {ns : List Int} {n : Int} {t : Tok} (h : IntsAre vs ns) : IntsAre (vs ++ [.int n t]) (ns ++ [n]) := h.append (.cons n t .nil)

section
variable {prog : Program} {w : World} {A : Around} {E : Value → Shared → Prop} {s : Shared} {h₀ : Heap} {L : Addr} {m : Str → Option Value} {Q : Value → Shared → Prop} {news : Led}
theorem itemL {value slice : PySem.Expr} {l : Addr} {vs : List Value} {ns : List Int} {ep : Nat} {k : Int} {u : Tok} (N : News h₀ L s.heap news) (hm : (l, W.listOf vs.toArray ep) ∈ news) (hi : IntsAre vs ns) (h0 : 0 ≤ k) (h1 : k < ns.length) (hfit : ns.length < 2 ^ 62)
    (h : ∀ tk, Q (.int (ns.getD k.toNat 0) tk) s)
    (hs : subscripted slice false (.ref l) (.int k u) = operate [.ref l, .int k u] (getItem (.ref l) (.int k u)) := by with_unfolding_all rfl) :
    wpAny (model prog w) A (subscriptTail value slice (.ref l) (.int k u)) Q E s := by
  have hlt : k.toNat < ns.length := by omega
  obtain ⟨tk, hx⟩ := hi.get k.toNat ns[k.toNat] (by simp [hlt])
  have hl : s.heap.IsList l vs.toArray := News.isList N hm
  refine item_litK hl h0 (by omega) hx ?_ hs
  have := h tk
  rw [List.getD_eq_getElem?_getD, List.getElem?_eq_getElem hlt] at this
  exact this
end
local macro_rules | `(tactic| walk_at "subscriptTail") => `(tactic| (k_here; (with_reducible show wpAny _ _ (subscriptTail _ _ (Value.ref _) (Value.int _ _)) _ _ _); (with_unfolding_all refine' itemL ?k1 ?k2 ?k3 ?k4 ?k5 ?k6 ?_ ?k8; (case k1 => k_asm); (case k2 => k_mem); (case k3 => assumption); (case k4 => omega); (case k5 => omega); (case k6 => omega); (case k8 => with_unfolding_all rfl); k_whole); intro _))

theorem small_any {a b c : Int} (ha : -(2 ^ 40) ≤ a) (ha' : a < 2 ^ 40) (hb : -(2 ^ 40) ≤ b) (hb' : b < 2 ^ 40) (hc : -(2 ^ 40) ≤ c) (hc' : c < 2 ^ 40) : Builtin.Range.small a b c = true := by
  have h1 := rangeSize_toNat a b c
  have h2 := rangeSize_toNat_le a b c
  unfold Builtin.Range.small
  simp only [Builtin.Range.rangeFitsLong, Bool.and_eq_true, Bool.or_eq_true, decide_eq_true_eq, beq_iff_eq]
  refine ⟨⟨⟨⟨⟨?_, ?_⟩, ?_, ?_⟩, ?_, ?_⟩, ?_, ?_⟩, .inr ?_⟩ <;> (try omega)
  split <;> (simp only [Bool.and_eq_true, decide_eq_true_eq]; omega)
theorem step_lt {a b c : Int} (hc : 0 < c) {i : Nat} (hi : i < (Builtin.Range.rangeSize a b c).toNat) : a + (i : Int) * c < b := by
  unfold Builtin.Range.rangeSize at hi
  rw [if_pos (by omega)] at hi
  split at hi
  · have h1 : (i : Int) ≤ (b - a - 1) / c := by omega
    have h2 := Int.mul_le_mul_of_nonneg_right h1 (Int.le_of_lt hc)
    have h3 := Int.ediv_mul_le (b - a - 1) (Int.ne_of_gt hc)
    omega
  · omega

section
variable {prog : Program} {w : World} {A : Around} {E : Value → Shared → Prop} {s : Shared} {h₀ : Heap} {L : Addr} {m : Str → Option Value} {Q : Value → Shared → Prop} {news : Led}
theorem extL {D b : Addr} {vs ws : List Value} {n n2 : Nat} {news' : Nat → Led} (F : Fr h₀ L s.heap m) (N : News h₀ L s.heap news) (hb : (b, W.listOf ws.toArray n2) ∈ news) (U : ∀ n', Upd D (W.listOf vs.toArray n) (W.listOf (vs ++ ws).toArray n') news (news' n')) (hz : vs.length + ws.length ≤ sizeLine)
    (h : ∀ n' h', Fr h₀ L h' m → News h₀ L h' (news' n') → Q .none { s with heap := h' }) : wpAny (model prog w) A (call (.builtin "list.extend") [.ref D, .ref b]) Q E s := by
  have hz1 : vs.toArray.size + ws.toArray.size ≤ sizeLine := by simpa using hz
  by_cases hw : ws = []
  · subst hw
    have U' := U n
    rw [List.append_nil] at U'
    exact kxn_extend F N hb rfl U' (extend_door hz1) (by simp only [List.length_nil] at hz; simpa using hz) (Nat.le_succ_of_le hz1) (h n)
  · refine kl_extend F N hb (l := vs ++ ws) (by simp) (by simpa using hw) (U (n + 1)) (extend_door hz1) (by simpa using Nat.le_trans (Nat.le_add_right _ _) hz) (Nat.le_succ_of_le hz1) (h (n + 1))
end
local macro_rules | `(tactic| walk_at "call builtin:list.extend") => `(tactic| (k_here; (with_reducible show wpAny _ _ (call (Value.builtin _) [Value.ref _, Value.ref _]) _ _ _); k_dflt (refine' extL ?F ?N ?b ?U ?z ?_; (case F => k_asm); (case N => k_asm); (case b => k_mem); (case U => (intro n9; k_upd)); (case z => size_fits); k_whole); intro n' h' F' N'; (try dsimp only at N'); (try k_sweep)))

def mVal (tab mo : List Int) (k : Int) : Int := tab.getD (k - 1).toNat 0 - tab.getD ((tab.length : Int) - 1).toNat 0 - (List.map (fun j => mo.getD j.toNat 0) (stepKs (2 * k) k (Builtin.Range.rangeSize (2 * k) (tab.length : Int) k).toNat)).sum
def mStep (tab mo : List Int) (k : Int) : List Int := mo.set k.toNat (mVal tab mo k)
def mZero (tab : List Int) : List Int := (List.replicate ((tab.length : Int) + 1).toNat [0]).flatten
theorem mFold_len (tab : List Int) : ∀ (l : List Int) (mo : List Int), (l.foldl (mStep tab) mo).length = mo.length
  | [], _ => rfl
  | k :: l, mo => by rw [List.foldl_cons, mFold_len tab l, mStep, List.length_set]
theorem mZero_len (tab : List Int) : (mZero tab).length = tab.length + 1 := by unfold mZero; rw [flat_one]; omega
def mostL (tab : List Int) : List Int := ((stepKs ((tab.length : Int) - 1) (-1) (tab.length - 1)).foldl (mStep tab) (mZero tab)).set 0 (tab.getD ((tab.length : Int) - 1).toNat 0)

def moreAt (mo : List Int) (k : Int) : Int := mo.getD k.toNat 0 - mo.getD (k + 1).toNat 0
def fPart (mo : List Int) (k : Int) : List Int := (List.replicate (if 0 - (mo.getD k.toNat 0 - mo.getD (k + 1).toNat 0) > 0 then 0 - (mo.getD k.toNat 0 - mo.getD (k + 1).toNat 0) else 0).toNat [k]).flatten
def sPart (mo : List Int) (k : Int) : List Int := (List.replicate (if mo.getD k.toNat 0 - mo.getD (k + 1).toNat 0 > 0 then mo.getD k.toNat 0 - mo.getD (k + 1).toNat 0 else 0).toNat [k]).flatten
def firstOf (mo pre : List Int) : List Int := (pre.map (fPart mo)).flatten
def secondOf (mo pre : List Int) : List Int := (pre.map (sPart mo)).flatten
theorem flat_oneK (n : Nat) (k : Int) : ((List.replicate n [k]).flatten).length = n := by simp
theorem firstOf_len {mo : List Int} (hbd : ∀ i : Nat, -1000 ≤ mo.getD i 0 ∧ mo.getD i 0 ≤ 1000) : ∀ pre : List Int, (firstOf mo pre).length ≤ 2000 * pre.length
  | [] => Nat.le_refl _
  | k :: pre => by
    have ih := firstOf_len hbd pre
    have h1 := hbd k.toNat
    have h2 := hbd (k + 1).toNat
    unfold firstOf at ih ⊢
    rw [List.map_cons, List.flatten_cons, List.length_append, List.length_cons, fPart, flat_oneK]
    omega
theorem secondOf_len {mo : List Int} (hbd : ∀ i : Nat, -1000 ≤ mo.getD i 0 ∧ mo.getD i 0 ≤ 1000) : ∀ pre : List Int, (secondOf mo pre).length ≤ 2000 * pre.length
  | [] => Nat.le_refl _
  | k :: pre => by
    have ih := secondOf_len hbd pre
    have h1 := hbd k.toNat
    have h2 := hbd (k + 1).toNat
    unfold secondOf at ih ⊢
    rw [List.map_cons, List.flatten_cons, List.length_append, List.length_cons, sPart, flat_oneK]
    omega

theorem firstOf_snoc (mo pre : List Int) (k : Int) : firstOf mo (pre ++ [k]) = firstOf mo pre ++ fPart mo k := by unfold firstOf; simp
theorem secondOf_snoc (mo pre : List Int) (k : Int) : secondOf mo (pre ++ [k]) = secondOf mo pre ++ sPart mo k := by unfold secondOf; simp

abbrev runsOut (tab : List Int) (news : Led) (r : Value) (news' : Led) : Prop := ∃ D F1 S1 vf wf ef eg eh, r = .ref D ∧ IntsAre vf (firstOf (mostL tab) (rangeKs 0 tab.length)) ∧ IntsAre wf (secondOf (mostL tab) (rangeKs 0 tab.length)) ∧ news' = (D, W.listOf [Value.ref F1, .ref S1].toArray eh) :: (F1, W.listOf vf.toArray ef) :: (S1, W.listOf wf.toArray eg) :: news
theorem runs_end {tab : List Int} {h₀ : Heap} {L : Addr} {m : Str → Option Value} {s : Shared} {h' : Heap} {tk : Nat} {Q : Value → Shared → Prop} {news nn : Led} {D F1 S1 : Addr} {vf wf : List Value} {ef eg eh : Nat}
    (hret : ∀ r news' h' tk', runsOut tab news r news' → Fr h₀ L h' m → News h₀ L h' news' → Q r { s with heap := h', toks := tk' })
    (hi : IntsAre vf (firstOf (mostL tab) (rangeKs 0 tab.length))) (hj : IntsAre wf (secondOf (mostL tab) (rangeKs 0 tab.length)))
    (F : Fr h₀ L h' m) (N : News h₀ L h' nn) (hD : (D, W.listOf [Value.ref F1, .ref S1].toArray eh) ∈ nn) (hF : (F1, W.listOf vf.toArray ef) ∈ nn) (hS : (S1, W.listOf wf.toArray eg) ∈ nn) (hn : ∀ p ∈ news, p ∈ nn) : Q (.ref D) { s with heap := h', toks := tk } :=
  hret _ _ _ _ ⟨D, F1, S1, vf, wf, ef, eg, eh, rfl, hi, hj, rfl⟩ F fun p hp => N p (by
    rcases List.mem_cons.mp hp with rfl | hp
    · exact hD
    · rcases List.mem_cons.mp hp with rfl | hp
      · exact hF
      · rcases List.mem_cons.mp hp with rfl | hp
        · exact hS
        · exact hn p hp)

theorem runs_ctr {w mean mg mb} (news : Led) (l : Addr) (vs : List Value) (ep : Nat) (tab : List Int) (hm : (l, W.listOf vs.toArray ep) ∈ news) (hi : IntsAre vs tab) (h0 : 1 ≤ tab.length) (h1 : tab.length ≤ 1000) (hbd : ∀ i : Nat, -1000 ≤ (mostL tab).getD i 0 ∧ (mostL tab).getD i 0 ≤ 1000) :
    Ctr w mean mg mb 3 (.ref 85) [.ref l] news (runsOut tab news) := by
  unfold Ctr
  w_top off
  k_with_none
  k_fill
  intro dp un gd cn cs a ccd cl outer A₀ base h₀ L m s Q E B F X N T hk hd hu hret
  have N1 : News h₀ L s.heap ((l, W.listOf vs.toArray ep) :: news) := newsOf (a := [_]) N (by intro p hp; rw [List.mem_singleton.mp hp]; exact hm)
  clear N
  have hcl := hi.length
  have kMk := kstMark
  refine wpAny_call ?_
  k_dflt (refine' code_defC ?k1 ?k2 ?k3 ?k4 ?k5 ?kA ?kF ?kK ?k6 ?k7 ?k8 ?k9 ?kB ?kD ?_ ?c2 ?c3 ?c4; (case kA => exact rfl); (case kF => exact rfl); (case kK => assumption); (case k1 => k_asm); (case k2 => k_asm); (case k3 => k_asm); (case k4 => k_asm); (case k5 => k_asm); (case k6 => k_is); (case k7 => k_is); (case k8 => ktr_room); (case k9 => exact BindsTo.of_eq rfl); (case kB => exact rfl); (case kD => decide +kernel); (case c2 => exact rfl); (case c3 => exact rfl); (case c4 => exact rfl); k_whole; intro g' L' h' tk' cells' FG' F' N' Y' B' X' T' l1; (try k_lt l1); k_cells Y'; (try simp only [List.cons_append, List.nil_append] at N'); (try dsimp only); (try k_lift B'); (try k_fold))
  have l2 : AllLt (L' + 1) news := allLt_of fun p hp => Nat.lt_succ_of_lt (kst_ltOf l1.2 p hp)
  k_steps
  refine Stop.mk ?_
  rename Fr _ _ _ _ => lF
  rename News _ _ _ _ => lN
  rename IsRange _ _ _ _ _ _ _ _ => lR
  rename IntsAre (List.flatten _) _ => lI
  have lP : (List.replicate ((tab.length : Int) + 1).toNat [0]).flatten = List.foldl (mStep tab) (mZero tab) [] := rfl
  with_unfolding_all refine rangeL (n := tab.length - 1) (fun pre mo => mo = pre.foldl (mStep tab) (mZero tab)) rfl lR (small_any (by omega) (by omega) (by omega) (by omega) (by omega) (by omega)) (by rw [rangeSize_downNat]; omega) lF lN lI lP ?turn ?done
  case turn =>
    clear lF lN lR lI
    intro vs1 mo ep1 i ti h tok own hin hoff hi1 hp F1 N1
    generalize hk9 : ((tab.length : Int) - 1 + (i : Int) * -1) = k at F1
    replace hp : mo = (stepKs ((tab.length : Int) - 1) (-1) i).foldl (mStep tab) (mZero tab) := hp
    have hpl : mo.length = tab.length + 1 := by rw [hp, mFold_len, mZero_len]
    have hk0 : 1 ≤ k := by omega
    have hk1 : k < tab.length := by omega
    have hcl1 := hi1.length
    (try k_fold)
    k_steps
    rename Fr _ _ _ _ => lF
    rename News _ _ _ _ => lN
    rename IsRange _ _ _ _ _ _ _ _ => lR
    k_dflt (refine SrcG.mk ⟨_, _, _, _, _, _, _, _, _, rfl, rfl, lF, lN, lR, small_any (by omega) (by omega) (by omega) (by omega) (by omega) (by omega), rangeSize_toNat _ _ _, (by have h7 := rangeSize_toNat_le (2 * k) tab.length k; rw [sizeLine_eq]; omega), fun g => compInvC (fun i ys => IntsAre ys ((stepKs (2 * k) k i).map fun j => mo.getD j.toNat 0)) .nil ?turn2 ?done2⟩)
    case turn2 =>
      clear lF lN lR
      rintro j ys v I oI C oC D m₂ h9 tk9 E9 hj ⟨t9, rfl⟩ hys hC hx9 F9 N9 off9 ne9
      have hj1 := step_lt (by omega) hj
      have hj0 : 0 ≤ (j : Int) * k := Int.mul_nonneg (by omega) (by omega)
      have hq0 : 0 ≤ 2 * k + (j : Int) * k := by omega
      rw [stepKs_succ, List.map_append]
      generalize 2 * k + (j : Int) * k = q at *
      k_steps
      rename Fr _ _ _ _ => eF
      rename News _ _ _ _ => eN
      exact LCg.CompEnd.intro eF eN _ (fun p hp => hp) off9 trivial ⟨rfl, ints_snoc hys⟩
    case done2 =>
      clear lF lN lR
      intro ys hys
      k_steps
      rename Fr _ _ _ _ => eF
      rename News _ _ _ _ => eN
      with_unfolding_all refine' endL eF eN ?hm ?hi ?hp ?hn ?ho ?ha ?hr
      case hm => k_mem
      case hi => assumption
      case hp =>
        show mo.set _ _ = List.foldl (mStep tab) (mZero tab) (_ ++ [_])
        rw [List.foldl_append, ← hp, List.foldl_cons, List.foldl_nil, mStep, mVal]
      case hn => kst_anyIn
      case ho => kst_anyIn
      case ha => exact hoff
      case hr => intro z h1; simp [h1]
  case done =>
    clear lF lN lR lI
    intro vs1 mo ep1 u1 h tok hi1 hp F1 N1
    replace hp : mo = (stepKs ((tab.length : Int) - 1) (-1) (tab.length - 1)).foldl (mStep tab) (mZero tab) := hp
    have hpl : mo.length = tab.length + 1 := by rw [hp, mFold_len, mZero_len]
    have hcl1 := hi1.length
    try dsimp only
    (try k_fold)
    k_steps
    refine Stop.mk ?_
    rename Fr _ _ _ _ => lF
    rename News _ _ _ _ => lN
    rename IsRange _ _ _ _ _ _ _ _ => lR
    rename IntsAre (List.set _ _ _) _ => lI
    have hpl2 : (mo.set (Int.toNat 0) (tab.getD ((tab.length : Int) - 1).toNat 0)).length = tab.length + 1 := by rw [List.length_set, hpl]
    have hmo : mo.set (Int.toNat 0) (tab.getD ((tab.length : Int) - 1).toNat 0) = mostL tab := by rw [hp]; rfl
    rw [hmo] at lI hpl2
    have hcl2 := lI.length
    have lP3 : ([] : List Int) = firstOf (mostL tab) [] ∧ ([] : List Int) = secondOf (mostL tab) [] := ⟨rfl, rfl⟩
    with_unfolding_all refine rangeL2 [Str.ofString "more"] (fun pre fs ss => fs = firstOf (mostL tab) pre ∧ ss = secondOf (mostL tab) pre) rfl lR lF lN .nil .nil lP3 ?turn3 ?done3
    case turn3 =>
      clear lF lN lR
      intro vs3 fs ep3 ws3 ss eq3 pre k ti u3 h3 tok3 own3 hk1 hk2 hoff3 hi3 hj3 hp3 F3 N3
      try simp only [List.nil_append, List.cons_append, List.append_nil] at N3
      have hk0 : 0 ≤ k := by omega
      have hbd1 := hbd k.toNat
      have hbd2 := hbd (k + 1).toNat
      have hil3 := hi3.length
      have hjl3 := hj3.length
      replace hp3 : fs = firstOf (mostL tab) pre ∧ ss = secondOf (mostL tab) pre := hp3
      have hf3 : fs.length ≤ 2000 * pre.length := by rw [hp3.1]; exact firstOf_len hbd pre
      have hs3 : ss.length ≤ 2000 * pre.length := by rw [hp3.2]; exact secondOf_len hbd pre
      (try k_fold)
      k_steps
      rename Fr _ _ _ _ => eF
      rename News _ _ _ _ => eN
      with_unfolding_all refine' endL2 eF eN ?hm ?hk ?hi ?hj ?hp ?hn ?ho ?ha ?hr
      case hm => k_mem
      case hk => k_mem
      case hi => exact IntsAre.append hi3 (by assumption)
      case hj => exact IntsAre.append hj3 (by assumption)
      case hp =>
        refine ⟨?_, ?_⟩
        · rw [firstOf_snoc, ← hp3.1, fPart]
        · rw [secondOf_snoc, ← hp3.2, sPart]
      case hn => kst_anyIn
      case ho => kst_anyIn
      case ha => exact hoff3
      case hr =>
        intro z z1 z3
        simp only [List.contains_cons, List.contains_nil, Bool.or_false, beq_eq_false_iff_ne, ne_eq] at z3
        simp [z1, z3]
    case done3 =>
      clear lF lN lR
      intro vs3 fs ep3 ws3 ss eq3 u3 h3 tok3 hi3 hj3 hp3 F3 N3
      have e9 : ((tab.length : Int) - 0).toNat = tab.length := by omega
      rw [e9] at hp3
      replace hp3 : fs = firstOf (mostL tab) (rangeKs 0 tab.length) ∧ ss = secondOf (mostL tab) (rangeKs 0 tab.length) := hp3
      rw [hp3.1] at hi3
      rw [hp3.2] at hj3
      try dsimp only
      (try k_fold)
      k_steps
      rename Fr _ _ _ _ => eF
      rename News _ _ _ _ => eN
      refine' runs_end hret hi3 hj3 eF eN ?hD ?hF ?hS ?hn
      case hD => k_mem
      case hF => k_mem
      case hS => k_mem
      case hn => kst_anyIn
end Mine
open PySem PySem.Spec PySem.Calls PySem.W PyProof.Rows PyProof.V
set_option Elab.async false
set_option maxRecDepth 100000
set_option maxHeartbeats 8000000
namespace Mine
/-! the drawn row: what _law_runs reckons -/
def Row (tab : List Int) : Prop := 1 ≤ tab.length ∧ tab.length ≤ 7 ∧ ∀ t ∈ tab, -1 ≤ t ∧ t ≤ 1
theorem getD_set0 (xs : List Int) (k i : Nat) (v : Int) (hk : k < xs.length) : (xs.set k v).getD i 0 = if i = k then v else xs.getD i 0 := by
  rw [List.getD_eq_getElem?_getD, List.getD_eq_getElem?_getD, List.getElem?_set]
  by_cases h : k = i
  · subst h; simp [hk]
  · rw [if_neg h, if_neg (fun e => h e.symm)]
theorem mem_step {a c : Int} {n : Nat} {j : Int} (h : j ∈ stepKs a c n) : ∃ i : Nat, i < n ∧ j = a + (i : Int) * c := by
  unfold stepKs at h
  obtain ⟨i, hi, rfl⟩ := List.mem_map.mp h
  exact ⟨i, List.mem_range.mp hi, rfl⟩
theorem step_above {k : Int} {n : Nat} {j : Int} (hk : 1 ≤ k) (h : j ∈ stepKs (2 * k) k n) : k < j := by
  obtain ⟨i, _, rfl⟩ := mem_step h
  have : 0 ≤ (i : Int) * k := Int.mul_nonneg (by omega) (by omega)
  omega
theorem mVal_congr {tab mo mo' : List Int} {k : Int} (hk : 1 ≤ k) (h : ∀ j : Nat, k < j → mo.getD j 0 = mo'.getD j 0) : mVal tab mo k = mVal tab mo' k := by
  unfold mVal
  congr 2
  refine List.map_congr_left fun j hj => ?_
  have := step_above hk hj
  exact h j.toNat (by omega)
theorem mZero_getD (tab : List Int) (j : Nat) : (mZero tab).getD j 0 = 0 := by
  unfold mZero
  rw [List.getD_eq_getElem?_getD]
  cases e : ((List.replicate ((tab.length : Int) + 1).toNat [(0 : Int)]).flatten)[j]? with
  | none => rfl
  | some v =>
    have := List.mem_of_getElem? e
    obtain ⟨l, hl, hv⟩ := List.mem_flatten.mp this
    rw [(List.mem_replicate.mp hl).2] at hv
    rw [List.mem_singleton.mp hv]; rfl
abbrev moAt (tab : List Int) (i : Nat) : List Int := (stepKs ((tab.length : Int) - 1) (-1) i).foldl (mStep tab) (mZero tab)
theorem moAt_inv (tab : List Int) (h1 : 1 ≤ tab.length) : ∀ i : Nat, i + 1 ≤ tab.length → (∀ j : Nat, tab.length ≤ j → (moAt tab i).getD j 0 = 0) ∧ ∀ k : Nat, tab.length ≤ k + i → k < tab.length → (moAt tab i).getD k 0 = mVal tab (moAt tab i) k
  | 0, _ => ⟨fun j _ => mZero_getD tab j, fun k h2 h3 => absurd h3 (by omega)⟩
  | i + 1, hi => by
    obtain ⟨a, b⟩ := moAt_inv tab h1 i (by omega)
    have hl : (moAt tab i).length = tab.length + 1 := by rw [moAt, mFold_len, mZero_len]
    have e : moAt tab (i + 1) = (moAt tab i).set (tab.length - 1 - i) (mVal tab (moAt tab i) ((tab.length - 1 - i : Nat) : Int)) := by
      have e1 : (tab.length : Int) - 1 + (i : Int) * -1 = ((tab.length - 1 - i : Nat) : Int) := by omega
      rw [moAt, stepKs_succ, List.foldl_append, List.foldl_cons, List.foldl_nil, mStep, e1, Int.toNat_natCast]
    have g : ∀ j : Nat, (moAt tab (i + 1)).getD j 0 = if j = tab.length - 1 - i then mVal tab (moAt tab i) ((tab.length - 1 - i : Nat) : Int) else (moAt tab i).getD j 0 := fun j => by
      rw [e, getD_set0 _ _ _ _ (by omega)]
    refine ⟨fun j hj => ?_, fun k h2 h3 => ?_⟩
    · rw [g, if_neg (by omega)]; exact a j hj
    · have hc : mVal tab (moAt tab (i + 1)) k = mVal tab (moAt tab i) k := mVal_congr (by omega) fun j hj => by rw [g, if_neg (by omega)]
      rw [hc, g]
      by_cases hk : k = tab.length - 1 - i
      · rw [if_pos hk, ← hk]
      · rw [if_neg hk]; exact b k (by omega) h3
theorem most_eq (tab : List Int) : mostL tab = (moAt tab (tab.length - 1)).set 0 (tab.getD (tab.length - 1) 0) := by
  have e : ((tab.length : Int) - 1).toNat = tab.length - 1 := by omega
  unfold mostL
  rw [e]
theorem most_getD {tab : List Int} (h1 : 1 ≤ tab.length) (j : Nat) : (mostL tab).getD j 0 = if j = 0 then tab.getD (tab.length - 1) 0 else (moAt tab (tab.length - 1)).getD j 0 := by
  rw [most_eq, getD_set0 _ _ _ _ (by rw [moAt, mFold_len, mZero_len]; omega)]
theorem most_zero {tab : List Int} (h1 : 1 ≤ tab.length) : (mostL tab).getD 0 0 = tab.getD (tab.length - 1) 0 := by rw [most_getD h1, if_pos rfl]
theorem most_far {tab : List Int} (h1 : 1 ≤ tab.length) {j : Nat} (h : tab.length ≤ j) : (mostL tab).getD j 0 = 0 := by
  rw [most_getD h1, if_neg (by omega)]
  exact (moAt_inv tab h1 _ (by omega)).1 j h
theorem most_val {tab : List Int} (h1 : 1 ≤ tab.length) {k : Nat} (hk : 1 ≤ k) (h : k < tab.length) : (mostL tab).getD k 0 = mVal tab (mostL tab) k := by
  have hc : mVal tab (mostL tab) k = mVal tab (moAt tab (tab.length - 1)) k := mVal_congr (by omega) fun j hj => by rw [most_getD h1, if_neg (by omega)]
  rw [hc, most_getD h1, if_neg (by omega)]
  exact (moAt_inv tab h1 _ (by omega)).2 k (by omega) h

/-! the sums -/
def invSum (mo : List Int) (last : Nat) (ts : Int) : Int := ((rangeKs 0 last).map fun k => moreAt mo k * (k.fdiv ts + 1)).sum
theorem fdiv_small {k ts : Int} (h0 : 0 ≤ k) (h1 : k < ts) : k.fdiv ts = 0 := by
  rw [Int.fdiv_eq_ediv_of_nonneg _ (by omega)]; exact Int.ediv_eq_zero_of_lt h0 h1
def mulSum (mo : List Int) (ts : Int) : Nat → Int
  | 0 => 0
  | n + 1 => mulSum mo ts n + if 1 ≤ n ∧ ts ∣ (n : Int) then mo.getD n 0 else 0
theorem rangeKs_snoc (a : Int) (n : Nat) : rangeKs a (n + 1) = rangeKs a n ++ [a + (n : Int)] := by
  unfold rangeKs; rw [List.range_succ, List.map_append]; rfl
theorem ediv_step {ts : Int} (hts : 1 ≤ ts) (n : Int) : n / ts = (n - 1) / ts + if ts ∣ n then 1 else 0 := by
  by_cases h : ts ∣ n
  · obtain ⟨q, rfl⟩ := h
    rw [if_pos ⟨q, rfl⟩, Int.mul_ediv_cancel_left _ (by omega)]
    have e : ts * q - 1 = (ts - 1) + ts * (q - 1) := by rw [Int.mul_sub]; omega
    rw [e, Int.add_mul_ediv_left _ _ (by omega), Int.ediv_eq_zero_of_lt (by omega) (by omega)]
    omega
  · rw [if_neg h, Int.add_zero]
    have hm : n % ts ≠ 0 := fun e => h (Int.dvd_of_emod_eq_zero e)
    have h0 := Int.emod_nonneg n (b := ts) (by omega)
    have h1 := Int.emod_lt_of_pos n (b := ts) (by omega)
    have h2 := Int.mul_ediv_add_emod n ts
    have e : n - 1 = (n % ts - 1) + ts * (n / ts) := by omega
    rw [e, Int.add_mul_ediv_left _ _ (by omega), Int.ediv_eq_zero_of_lt (a := n % ts - 1) (by omega) (by omega)]
    omega
theorem fdiv_is {ts : Int} (hts : 1 ≤ ts) (n : Int) : n.fdiv ts = n / ts := Int.fdiv_eq_ediv_of_nonneg _ (by omega)
theorem abel (mo : List Int) (ts : Int) (hts : 1 ≤ ts) : ∀ n : Nat, invSum mo (n + 1) ts = mo.getD 0 0 + mulSum mo ts (n + 1) - mo.getD (n + 1) 0 * ((n : Int) / ts + 1)
  | 0 => by
    have e1 : invSum mo 1 ts = moreAt mo 0 * ((0 : Int).fdiv ts + 1) := by simp [invSum, rangeKs]
    have e2 : mulSum mo ts 1 = 0 := by simp [mulSum]
    have e3 : (((0 : Nat) : Int)) / ts = 0 := by simp
    rw [e1, e2, e3, fdiv_is hts, Int.zero_ediv, moreAt]
    have e4 : (0 + 1 : Int).toNat = 0 + 1 := rfl
    have e5 : (0 : Int).toNat = 0 := rfl
    rw [e4, e5]
    omega
  | n + 1 => by
    have ih := abel mo ts hts n
    have e1 : invSum mo (n + 1 + 1) ts = invSum mo (n + 1) ts + moreAt mo ((n + 1 : Nat) : Int) * ((((n + 1 : Nat) : Int)) / ts + 1) := by
      unfold invSum
      rw [rangeKs_snoc, List.map_append, List.sum_append]
      simp only [List.map_cons, List.map_nil, List.sum_cons, List.sum_nil, Int.zero_add, Int.add_zero]
      rw [fdiv_is hts]
    have e2 : mulSum mo ts (n + 1 + 1) = mulSum mo ts (n + 1) + if ts ∣ (((n + 1 : Nat) : Int)) then mo.getD (n + 1) 0 else 0 := by
      rw [mulSum]
      have : (1 ≤ n + 1 ∧ ts ∣ (((n + 1 : Nat) : Int))) ↔ ts ∣ (((n + 1 : Nat) : Int)) := ⟨fun h => h.2, fun h => ⟨by omega, h⟩⟩
      simp only [this]
    have e3 := ediv_step hts ((n + 1 : Nat) : Int)
    have e4 : (((n + 1 : Nat) : Int)) - 1 = (n : Int) := by omega
    rw [e4] at e3
    have e5 : moreAt mo ((n + 1 : Nat) : Int) = mo.getD (n + 1) 0 - mo.getD (n + 1 + 1) 0 := by
      unfold moreAt
      have q : (((n + 1 : Nat) : Int) + 1).toNat = n + 1 + 1 := by omega
      rw [q, Int.toNat_natCast]
    rw [e1, e2, ih, e5, e3]
    generalize mo.getD (n + 1) 0 = g
    generalize mo.getD (n + 1 + 1) 0 = g2
    generalize (n : Int) / ts = d
    by_cases h : ts ∣ (((n + 1 : Nat) : Int))
    · rw [if_pos h, if_pos h, Int.sub_mul, Int.mul_add, Int.mul_add, Int.mul_add, Int.mul_add]
      omega
    · rw [if_neg h, if_neg h, Int.sub_mul]
      rw [Int.add_zero]
      omega
theorem size_ts {ts : Int} (hts : 1 ≤ ts) (n : Nat) : (Builtin.Range.rangeSize ts (n : Int) ts).toNat = (((n : Int) - 1) / ts).toNat := by
  unfold Builtin.Range.rangeSize
  rw [if_pos (by omega)]
  split
  · have e : (n : Int) - 1 = ((n : Int) - ts - 1) + ts * 1 := by omega
    rw [e, Int.add_mul_ediv_left _ _ (by omega)]
  · by_cases h : n = 0
    · subst h
      have : ((0 : Nat) : Int) - 1 = (ts - 1) + ts * (-1) := by omega
      rw [this, Int.add_mul_ediv_left _ _ (by omega), Int.ediv_eq_zero_of_lt (by omega) (by omega)]
      omega
    · rw [Int.ediv_eq_zero_of_lt (by omega) (by omega)]
theorem mul_is (mo : List Int) {ts : Int} (hts : 1 ≤ ts) : ∀ n : Nat, mulSum mo ts n = ((stepKs ts ts (Builtin.Range.rangeSize ts (n : Int) ts).toNat).map fun j => mo.getD j.toNat 0).sum
  | 0 => by
    rw [size_ts hts]
    have : (((0 : Nat) : Int) - 1) / ts ≤ 0 := by
      have : ((0 : Nat) : Int) - 1 = (ts - 1) + ts * (-1) := by omega
      rw [this, Int.add_mul_ediv_left _ _ (by omega), Int.ediv_eq_zero_of_lt (by omega) (by omega)]
      omega
    have e : ((((0 : Nat) : Int) - 1) / ts).toNat = 0 := by omega
    rw [e]; rfl
  | n + 1 => by
    have ih := mul_is mo hts n
    rw [size_ts hts] at ih ⊢
    have e1 : (((n + 1 : Nat) : Int)) - 1 = (n : Int) := by omega
    rw [e1, mulSum, ih]
    by_cases h : 1 ≤ n
    · have e2 := ediv_step hts (n : Int)
      have h0 : 0 ≤ ((n : Int) - 1) / ts := Int.ediv_nonneg (by omega) (by omega)
      by_cases hd : ts ∣ (n : Int)
      · rw [if_pos ⟨h, hd⟩]
        rw [if_pos hd] at e2
        have e3 : ((n : Int) / ts).toNat = (((n : Int) - 1) / ts).toNat + 1 := by omega
        rw [e3, stepKs_succ, List.map_append, List.sum_append]
        have e4 : ts + (((((n : Int) - 1) / ts).toNat : Nat) : Int) * ts = (n : Int) := by
          have q := Int.mul_ediv_cancel' hd
          have q2 : (((((n : Int) - 1) / ts).toNat : Nat) : Int) = (n : Int) / ts - 1 := by omega
          rw [q2, Int.sub_mul, Int.mul_comm ((n : Int) / ts) ts, q]
          omega
        simp only [List.map_cons, List.map_nil, List.sum_cons, List.sum_nil, Int.add_zero]
        rw [e4, Int.toNat_natCast]
      · rw [if_neg (fun q => hd q.2), Int.add_zero]
        rw [if_neg hd, Int.add_zero] at e2
        rw [e2]
    · have hn : n = 0 := by omega
      subst hn
      rw [if_neg (fun q => h q.1), Int.add_zero]
      have e2 : (((0 : Nat) : Int) / ts).toNat = 0 := by simp
      have e3 : ((((0 : Nat) : Int) - 1) / ts).toNat = 0 := by
        have : ((0 : Nat) : Int) - 1 = (ts - 1) + ts * (-1) := by omega
        rw [this, Int.add_mul_ediv_left _ _ (by omega), Int.ediv_eq_zero_of_lt (by omega) (by omega)]
        omega
      rw [e2, e3]
theorem stepKs_cons (a c : Int) (n : Nat) : stepKs a c (n + 1) = a :: stepKs (a + c) c n := by
  unfold stepKs
  rw [List.range_succ_eq_map, List.map_cons, List.map_map]
  congr 1
  · simp
  · refine List.map_congr_left fun i _ => ?_
    simp only [Function.comp]
    have : ((i.succ : Nat) : Int) * c = c + (i : Int) * c := by push_cast; rw [Int.add_mul]; omega
    rw [this]; omega
theorem size_two {ts : Int} (hts : 1 ≤ ts) {n : Nat} (h : ts < n) : (Builtin.Range.rangeSize ts (n : Int) ts).toNat = (Builtin.Range.rangeSize (2 * ts) (n : Int) ts).toNat + 1 := by
  unfold Builtin.Range.rangeSize
  rw [if_pos (show ts > 0 by omega), if_pos h, if_pos (show ts > 0 by omega)]
  have h0 : 0 ≤ ((n : Int) - ts - 1) / ts := Int.ediv_nonneg (by omega) (by omega)
  split
  · have e : (n : Int) - ts - 1 = ((n : Int) - 2 * ts - 1) + ts * 1 := by omega
    have h1 : 0 ≤ ((n : Int) - 2 * ts - 1) / ts := Int.ediv_nonneg (by omega) (by omega)
    rw [e, Int.add_mul_ediv_left _ _ (by omega)]
    omega
  · rw [Int.ediv_eq_zero_of_lt (by omega) (by omega)]
    omega
theorem inv_row {tab : List Int} (h : Row tab) (ts : Int) (hts : 1 ≤ ts) : invSum (mostL tab) tab.length ts = tab.getD (min ts (tab.length : Int) - 1).toNat 0 := by
  have h1 := h.1
  have e : tab.length = (tab.length - 1) + 1 := by omega
  have ha := abel (mostL tab) ts hts (tab.length - 1)
  rw [← e, most_far h1 (Nat.le_refl _), most_zero h1, mul_is _ hts, Int.zero_mul, Int.sub_zero] at ha
  rw [ha]
  by_cases hl : ts < tab.length
  · have hv := most_val h1 (k := ts.toNat) (by omega) (by omega)
    have et : ((ts.toNat : Nat) : Int) = ts := by omega
    rw [et] at hv
    rw [size_two hts hl, stepKs_cons, List.map_cons, List.sum_cons, hv, mVal]
    have e2 : ts + ts = 2 * ts := by omega
    have e3 : ((tab.length : Int) - 1).toNat = tab.length - 1 := by omega
    have e4 : (min ts (tab.length : Int) - 1).toNat = (ts - 1).toNat := by omega
    rw [e2, e3, e4]
    omega
  · have e2 : (Builtin.Range.rangeSize ts (tab.length : Int) ts).toNat = 0 := by
      rw [size_ts hts, Int.ediv_eq_zero_of_lt (by omega) (by omega)]; rfl
    have e4 : (min ts (tab.length : Int) - 1).toNat = tab.length - 1 := by omega
    rw [e2, e4]
    simp [stepKs]

/-! bounds -/
def bdB (k : Nat) : Int := [18, 18, 6, 4, 2, 2, 2].getD k 0
theorem sum_bd {l : List Int} {f g : Int → Int} (h : ∀ j ∈ l, -g j ≤ f j ∧ f j ≤ g j) : -(l.map g).sum ≤ (l.map f).sum ∧ (l.map f).sum ≤ (l.map g).sum := by
  induction l with
  | nil => exact ⟨Int.le_refl 0, Int.le_refl 0⟩
  | cons j l ih =>
    have h1 := ih fun q hq => h q (.tail _ hq)
    have h2 := h j (.head _)
    rw [List.map_cons, List.map_cons, List.sum_cons, List.sum_cons]
    omega
theorem bd_table : ∀ k ∈ List.range 7, ∀ m ∈ List.range 8, 1 ≤ k → 2 + ((stepKs (2 * (k : Int)) k m).map fun j => bdB j.toNat).sum ≤ bdB k := by decide +kernel
theorem bd_small : ∀ k ∈ List.range 7, bdB k ≤ 18 := by decide +kernel
theorem row_at0 {tab : List Int} (h : Row tab) (i : Nat) : -1 ≤ tab.getD i 0 ∧ tab.getD i 0 ≤ 1 := by
  rw [List.getD_eq_getElem?_getD]
  cases e : tab[i]? with
  | none => exact ⟨by decide, by decide⟩
  | some v => exact h.2.2 v (List.mem_of_getElem? e)
theorem size_le7 {k : Int} {n : Nat} (hk : 1 ≤ k) (hn : n ≤ 7) : (Builtin.Range.rangeSize (2 * k) (n : Int) k).toNat < 8 := by
  unfold Builtin.Range.rangeSize
  rw [if_pos (by omega)]
  split
  · have : ((n : Int) - 2 * k - 1) / k ≤ (n : Int) - 2 * k - 1 := Int.ediv_le_self _ (by omega)
    omega
  · omega
theorem bd_most {tab : List Int} (h : Row tab) : ∀ (d k : Nat), 1 ≤ k → 7 ≤ k + d → -bdB k ≤ (mostL tab).getD k 0 ∧ (mostL tab).getD k 0 ≤ bdB k
  | 0, k, h1, h2 => by
    have e : bdB k = 0 := by
      unfold bdB
      rw [List.getD_eq_getElem?_getD, List.getElem?_eq_none (by simp; omega)]; rfl
    rw [e, most_far h.1 (by have := h.2.1; omega)]
    exact ⟨by decide, by decide⟩
  | d + 1, k, h1, h2 => by
    by_cases hk : 7 ≤ k + d
    · exact bd_most h d k h1 hk
    · have hb0 : (0 : Int) ≤ bdB k := by
        have := bd_table k (List.mem_range.mpr (by omega)) 0 (List.mem_range.mpr (by omega)) h1
        simp only [stepKs, List.range_zero, List.map_nil, List.sum_nil] at this
        omega
      by_cases hl : k < tab.length
      · rw [most_val h.1 h1 hl, mVal]
        have q1 := row_at0 h ((k : Int) - 1).toNat
        have q2 := row_at0 h ((tab.length : Int) - 1).toNat
        have q3 := bd_table k (List.mem_range.mpr (by omega)) _ (List.mem_range.mpr (size_le7 (k := (k : Int)) (by omega) h.2.1)) h1
        have q4 := sum_bd (l := stepKs (2 * (k : Int)) k (Builtin.Range.rangeSize (2 * (k : Int)) (tab.length : Int) k).toNat) (f := fun j => (mostL tab).getD j.toNat 0) (g := fun j => bdB j.toNat) fun j hj => by
          have := step_above (by omega) hj
          exact bd_most h d j.toNat (by omega) (by omega)
        omega
      · rw [most_far h.1 (by omega)]
        omega
theorem bd_row {tab : List Int} (h : Row tab) (i : Nat) : -18 ≤ (mostL tab).getD i 0 ∧ (mostL tab).getD i 0 ≤ 18 := by
  by_cases h0 : i = 0
  · subst h0
    rw [most_zero h.1]
    have := row_at0 h (tab.length - 1)
    omega
  · by_cases h7 : i < 7
    · have := bd_most h 7 i (by omega) (by omega)
      have := bd_small i (List.mem_range.mpr h7)
      omega
    · rw [most_far h.1 (by have := h.2.1; omega)]
      omega
theorem zero_most {tab : List Int} (h : Row tab) (hz : ∀ t ∈ tab, t = 0) : ∀ (d k : Nat), tab.length ≤ k + d → (mostL tab).getD k 0 = 0
  | 0, k, h2 => most_far h.1 (by omega)
  | d + 1, k, h2 => by
    have hz' : ∀ i : Nat, tab.getD i 0 = 0 := fun i => by
      rw [List.getD_eq_getElem?_getD]
      cases e : tab[i]? with
      | none => rfl
      | some v => exact hz v (List.mem_of_getElem? e)
    by_cases h0 : k = 0
    · subst h0; rw [most_zero h.1]; exact hz' _
    · by_cases hl : k < tab.length
      · rw [most_val h.1 (by omega) hl, mVal, hz', hz']
        have e : ∀ l : List Int, (∀ j ∈ l, (mostL tab).getD j.toNat 0 = 0) → (l.map fun j => (mostL tab).getD j.toNat 0).sum = 0 := by
          intro l
          induction l with
          | nil => intro _; rfl
          | cons j l ih => intro hj; rw [List.map_cons, List.sum_cons, hj j (.head _), ih fun q hq => hj q (.tail _ hq)]; rfl
        rw [e _ fun j hj => by
          have := step_above (by omega) hj
          exact zero_most h hz d j.toNat (by omega)]
        decide
      · exact most_far h.1 (by omega)
theorem row_zero {tab : List Int} (h : Row tab) (hz : ∀ t ∈ tab, t = 0) : firstOf (mostL tab) (rangeKs 0 tab.length) = [] ∧ secondOf (mostL tab) (rangeKs 0 tab.length) = [] := by
  have hz' := fun k => zero_most h hz tab.length k (by omega)
  have e : ∀ l : List Int, firstOf (mostL tab) l = [] ∧ secondOf (mostL tab) l = [] := by
    intro l
    induction l with
    | nil => exact ⟨rfl, rfl⟩
    | cons j l ih =>
      unfold firstOf secondOf at ih ⊢
      rw [List.map_cons, List.map_cons, List.flatten_cons, List.flatten_cons, ih.1, ih.2, fPart, sPart, hz', hz']
      exact ⟨rfl, rfl⟩
  exact e _
end Mine
open PySem PySem.Spec PySem.Calls PySem.W PyProof.Rows PyProof.V
set_option Elab.async false
set_option maxRecDepth 100000
set_option maxHeartbeats 8000000
namespace Mine
/-! an indent of runs and blanks: what its text is parsed to -/
def cntOf (runs : List Int) : List Int := runs.foldl (fun c r => bump (padTo c r) r) []
def nOf (runs : List Int) : Int := (runs.map fun r => r + 1).sum
def stOf (runs : List Int) (b : Int) : WS := ⟨cntOf runs, b, nOf runs + b, runs.length⟩
theorem parse_blanks (n : Nat) (rest : List Int) : ∀ (c : List Int) (b k t : Int), parse (List.replicate n 32 ++ rest) ⟨c, b, k, t⟩ = parse rest ⟨c, b + n, k + n, t⟩ := by
  induction n with
  | zero => intro c b k t; simp
  | succ n ih =>
    intro c b k t
    rw [List.replicate_succ, List.cons_append, parse, if_pos rfl, ih]
    congr 2 <;> (push_cast; omega)
theorem parse_run (r : Int) (h0 : 0 ≤ r) (rest : List Int) (c : List Int) (k t : Int) : parse (List.replicate r.toNat 32 ++ ([9] ++ rest)) ⟨c, 0, k, t⟩ = parse rest ⟨bump (padTo c r) r, 0, k + (r + 1), t + 1⟩ := by
  rw [parse_blanks]
  have e : (0 : Int) + (r.toNat : Int) = r := by omega
  rw [e, List.singleton_append, parse, if_neg (by decide), if_pos rfl]
  have e2 : k + (r.toNat : Int) + 1 = k + (r + 1) := by omega
  rw [e2]
theorem parse_runs : ∀ (runs : List Int) (_h : ∀ r ∈ runs, 0 ≤ r) (rest : List Int) (c : List Int) (k t : Int), parse ((runs.map fun r => List.replicate r.toNat 32 ++ [9]).flatten ++ rest) ⟨c, 0, k, t⟩ = parse rest ⟨runs.foldl (fun c r => bump (padTo c r) r) c, 0, k + nOf runs, t + runs.length⟩
  | [], _, rest, c, k, t => by simp [nOf]
  | r :: rs, h, rest, c, k, t => by
    rw [List.map_cons, List.flatten_cons, List.append_assoc, List.append_assoc, parse_run r (h r (.head _)), parse_runs rs (fun q hq => h q (.tail _ hq)), List.foldl_cons]
    have e1 : k + (r + 1) + nOf rs = k + nOf (r :: rs) := by unfold nOf; rw [List.map_cons, List.sum_cons]; omega
    have e2 : t + 1 + (rs.length : Int) = t + ((r :: rs).length : Int) := by rw [List.length_cons]; push_cast; omega
    rw [e1, e2]
theorem parse_lead (runs : List Int) (b : Int) (h : ∀ r ∈ runs, 0 ≤ r) (hb : 0 ≤ b) (rest : List Int) : parse (leadC runs b ++ rest) ⟨[], 0, 0, 0⟩ = parse rest (stOf runs b) := by
  unfold leadC
  rw [List.append_assoc, parse_runs runs h, parse_blanks]
  unfold stOf cntOf
  congr 2 <;> omega
theorem parse_stop {c : Int} (rest : List Int) (st : WS) (h1 : c ≠ 32) (h2 : c ≠ 9) : parse (c :: rest) st = st := by rw [parse, if_neg h1, if_neg h2]

/-! its columns -/
def colSum (runs : List Int) (ts : Int) : Int := (runs.map fun r => r.fdiv ts + 1).sum
theorem col_blanks (ts : Int) (n : Nat) : ∀ c : Int, (List.replicate n (32 : Int)).foldl (colStep ts) c = c + n := by
  induction n with
  | zero => intro c; simp
  | succ n ih =>
    intro c
    rw [List.replicate_succ, List.foldl_cons, ih, colStep, if_neg (by decide)]
    push_cast; omega
theorem col_runs (ts : Int) (hts : 1 ≤ ts) : ∀ (runs : List Int) (_h : ∀ r ∈ runs, 0 ≤ r) (q : Int), ((runs.map fun r => List.replicate r.toNat 32 ++ [(9 : Int)]).flatten).foldl (colStep ts) (ts * q) = ts * (q + colSum runs ts)
  | [], _, q => by simp [colSum]
  | r :: rs, h, q => by
    have h0 := h r (.head _)
    rw [List.map_cons, List.flatten_cons, List.foldl_append, List.foldl_append, col_blanks, List.foldl_cons, List.foldl_nil, colStep, if_pos rfl]
    have e0 : (r.toNat : Int) = r := by omega
    rw [e0]
    have e1 : (ts * q + r).fmod ts = r.fmod ts := by rw [Int.add_comm, Int.add_mul_fmod_self_left]
    have e2 : r.fmod ts = r - ts * r.fdiv ts := by have := Int.mul_fdiv_add_fmod r ts; omega
    have e3 : ts * q + r + ts - (ts * q + r).fmod ts = ts * (q + (r.fdiv ts + 1)) := by
      rw [e1, e2, Int.mul_add, Int.mul_add]; omega
    rw [e3, col_runs ts hts rs (fun q hq => h q (.tail _ hq))]
    unfold colSum
    rw [List.map_cons, List.sum_cons, Int.add_assoc]
theorem col_lead (ts : Int) (hts : 1 ≤ ts) (runs : List Int) (b : Int) (h : ∀ r ∈ runs, 0 ≤ r) (hb : 0 ≤ b) : colOf ts (leadC runs b) = b + ts * colSum runs ts := by
  unfold colOf leadC
  have e : (0 : Int) = ts * 0 := by omega
  rw [List.foldl_append, e, col_runs ts hts runs h, col_blanks, Int.zero_add]
  omega

/-! the counts -/
def lvFrom (ts : Int) : List Int → Int → Int
  | [], _ => 0
  | x :: xs, i => i.fdiv ts * x + lvFrom ts xs (i + 1)
theorem lvFrom_append (ts : Int) : ∀ (xs ys : List Int) (i : Int), lvFrom ts (xs ++ ys) i = lvFrom ts xs i + lvFrom ts ys (i + xs.length)
  | [], ys, i => by simp [lvFrom]
  | x :: xs, ys, i => by
    rw [List.cons_append, lvFrom, lvFrom, lvFrom_append ts xs ys, List.length_cons]
    have e : i + 1 + (xs.length : Int) = i + ((xs.length + 1 : Nat) : Int) := by push_cast; omega
    rw [e, Int.add_assoc]
theorem lvFrom_zeros (ts : Int) : ∀ (n : Nat) (i : Int), lvFrom ts (List.replicate n 0) i = 0
  | 0, _ => rfl
  | n + 1, i => by rw [List.replicate_succ, lvFrom, lvFrom_zeros ts n]; simp
theorem lvFrom_bump (ts : Int) : ∀ (xs : List Int) (k : Nat) (i : Int), k < xs.length → lvFrom ts (xs.set k (xs.getD k 0 + 1)) i = lvFrom ts xs i + (i + k).fdiv ts
  | [], k, i, h => absurd h (Nat.not_lt_zero _)
  | x :: xs, 0, i, _ => by
    simp only [List.set_cons_zero, List.getD_cons_zero, lvFrom]
    rw [Int.mul_add]; simp; omega
  | x :: xs, k + 1, i, h => by
    simp only [List.set_cons_succ, List.getD_cons_succ, lvFrom]
    rw [lvFrom_bump ts xs k (i + 1) (Nat.lt_of_succ_lt_succ h)]
    have e : i + 1 + (k : Int) = i + ((k + 1 : Nat) : Int) := by push_cast; omega
    rw [e, Int.add_assoc]
theorem lvFrom_small (ts : Int) : ∀ (xs : List Int) (i : Int), 0 ≤ i → i + xs.length ≤ ts → lvFrom ts xs i = 0
  | [], _, _, _ => rfl
  | x :: xs, i, h0, h1 => by
    rw [List.length_cons] at h1
    rw [lvFrom, lvFrom_small ts xs (i + 1) (by omega) (by push_cast at h1; omega)]
    have : i.fdiv ts = 0 := by rw [Int.fdiv_eq_ediv_of_nonneg _ (by push_cast at h1; omega)]; exact Int.ediv_eq_zero_of_lt h0 (by push_cast at h1; omega)
    rw [this]; simp
theorem flat_rep (n : Nat) : (List.replicate n [(0 : Int)]).flatten = List.replicate n 0 := by
  induction n with
  | zero => rfl
  | succ n ih => rw [List.replicate_succ, List.flatten_cons, ih, List.replicate_succ]; rfl
theorem padTo_len (c : List Int) (r : Int) (h0 : 0 ≤ r) : (padTo c r).length = max c.length (r + 1).toNat := by
  unfold padTo
  split
  · rw [List.length_append, flat_one]; omega
  · omega
theorem padTo_lv (ts : Int) (c : List Int) (r : Int) : lvFrom ts (padTo c r) 0 = lvFrom ts c 0 := by
  unfold padTo
  split
  · rw [lvFrom_append, flat_rep, lvFrom_zeros, Int.add_zero]
  · rfl
theorem bump_len (c : List Int) (r : Int) : (bump c r).length = c.length := by unfold bump; rw [List.length_set]
theorem lv_step (ts : Int) (c : List Int) (r : Int) (h0 : 0 ≤ r) : lvFrom ts (bump (padTo c r) r) 0 = lvFrom ts c 0 + r.fdiv ts := by
  unfold bump
  rw [lvFrom_bump ts (padTo c r) r.toNat 0 (by rw [padTo_len c r h0]; omega), padTo_lv]
  have e : (0 : Int) + (r.toNat : Int) = r := by omega
  rw [e]
theorem lv_runs (ts : Int) : ∀ (runs : List Int) (_h : ∀ r ∈ runs, 0 ≤ r) (c : List Int), lvFrom ts (runs.foldl (fun c r => bump (padTo c r) r) c) 0 + (runs.length : Int) = lvFrom ts c 0 + colSum runs ts
  | [], _, c => by simp [colSum]
  | r :: rs, h, c => by
    have ih := lv_runs ts rs (fun q hq => h q (.tail _ hq)) (bump (padTo c r) r)
    rw [lv_step ts c r (h r (.head _))] at ih
    rw [List.foldl_cons, List.length_cons]
    unfold colSum at ih ⊢
    rw [List.map_cons, List.sum_cons]
    push_cast
    omega
theorem rangeKs_cons (a : Int) (n : Nat) : rangeKs a (n + 1) = a :: rangeKs (a + 1) n := by
  unfold rangeKs
  rw [List.range_succ_eq_map, List.map_cons, List.map_map]
  congr 1
  · simp
  · refine List.map_congr_left fun i _ => ?_
    simp; omega
theorem lvSum_from (cnt : List Int) (ts : Int) : ∀ (n a : Nat), a + n = cnt.length → lvSum cnt ts (rangeKs a n) = lvFrom ts (cnt.drop a) a
  | 0, a, h => by rw [List.drop_of_length_le (by omega)]; rfl
  | n + 1, a, h => by
    have hl : a < cnt.length := by omega
    rw [rangeKs_cons, List.drop_eq_getElem_cons hl, lvFrom]
    have ih := lvSum_from cnt ts n (a + 1) (by omega)
    have e : lvSum cnt ts ((a : Int) :: rangeKs ((a : Int) + 1) n) = lvTerm cnt ts a + lvSum cnt ts (rangeKs ((a : Int) + 1) n) := by unfold lvSum; rw [List.map_cons, List.sum_cons]
    have e2 : ((a + 1 : Nat) : Int) = (a : Int) + 1 := by push_cast; rfl
    rw [e2] at ih
    rw [e, ih, lvTerm, Int.toNat_natCast, List.getD_eq_getElem?_getD, List.getElem?_eq_getElem hl]
    rfl
theorem lvSum_all (cnt : List Int) (ts : Int) (hts : 1 ≤ ts) : lvSum cnt ts (rangeKs ts ((cnt.length : Int) - ts).toNat) = lvFrom ts cnt 0 := by
  by_cases h : ts ≤ cnt.length
  · have e : ts = ((ts.toNat : Nat) : Int) := by omega
    have h1 := lvSum_from cnt ts ((cnt.length : Int) - ts).toNat ts.toNat (by omega)
    rw [← e] at h1
    rw [h1]
    have h2 := lvFrom_append ts (cnt.take ts.toNat) (cnt.drop ts.toNat) 0
    rw [List.take_append_drop, lvFrom_small ts (cnt.take ts.toNat) 0 (Int.le_refl _) (by rw [List.length_take]; omega), List.length_take] at h2
    rw [h2]
    have e3 : (0 : Int) + ((min ts.toNat cnt.length : Nat) : Int) = ts := by omega
    rw [e3, Int.zero_add]
  · have e : ((cnt.length : Int) - ts).toNat = 0 := by omega
    rw [e, lvFrom_small ts cnt 0 (Int.le_refl _) (by omega)]
    rfl
theorem level_st (runs : List Int) (b ts : Int) (h : ∀ r ∈ runs, 0 ≤ r) (hts : 1 ≤ ts) : level (stOf runs b) ts = b + ts * colSum runs ts := by
  unfold level stOf
  dsimp only
  rw [lvSum_all _ ts hts]
  have := lv_runs ts runs h []
  unfold cntOf
  have e : lvFrom ts ([] : List Int) 0 = 0 := rfl
  rw [this, e, Int.zero_add]
end Mine
open PySem PySem.Spec PySem.Calls PySem.W PyProof.Rows PyProof.V
set_option Elab.async false
set_option maxRecDepth 100000
set_option maxHeartbeats 8000000
namespace Mine
theorem rep_one (n : Nat) (k : Int) : (List.replicate n [k]).flatten = List.replicate n k := by
  induction n with
  | zero => rfl
  | succ n ih => rw [List.replicate_succ, List.flatten_cons, ih, List.replicate_succ]; rfl
theorem colSum_append (xs ys : List Int) (ts : Int) : colSum (xs ++ ys) ts = colSum xs ts + colSum ys ts := by unfold colSum; rw [List.map_append, List.sum_append]
theorem colSum_rep (n : Nat) (k ts : Int) : colSum (List.replicate n k) ts = n * (k.fdiv ts + 1) := by
  unfold colSum
  induction n with
  | zero => simp
  | succ n ih =>
    rw [List.replicate_succ, List.map_cons, List.sum_cons, ih]
    push_cast
    rw [Int.add_mul]; omega
theorem colSum_rev (xs : List Int) (ts : Int) : colSum xs.reverse ts = colSum xs ts := by
  unfold colSum
  rw [List.map_reverse, List.sum_reverse]
theorem parts_diff (mo : List Int) (k ts : Int) : colSum (sPart mo k) ts = colSum (fPart mo k) ts + moreAt mo k * (k.fdiv ts + 1) := by
  unfold sPart fPart moreAt
  rw [rep_one, rep_one, colSum_rep, colSum_rep]
  generalize mo.getD k.toNat 0 - mo.getD (k + 1).toNat 0 = d
  generalize k.fdiv ts + 1 = e
  rw [← Int.add_mul]
  congr 1
  split <;> split <;> omega
theorem all_diff (mo : List Int) (ts : Int) : ∀ l : List Int, colSum (secondOf mo l) ts = colSum (firstOf mo l) ts + (l.map fun k => moreAt mo k * (k.fdiv ts + 1)).sum
  | [] => rfl
  | k :: l => by
    have ih := all_diff mo ts l
    unfold secondOf firstOf at ih ⊢
    rw [List.map_cons, List.flatten_cons, List.map_cons, List.flatten_cons, colSum_append, colSum_append, parts_diff, ih, List.map_cons, List.sum_cons]
    omega
theorem row_colsum {tab : List Int} (h : Row tab) (ts : Int) (hts : 1 ≤ ts) : colSum (secondOf (mostL tab) (rangeKs 0 tab.length)) ts = colSum (firstOf (mostL tab) (rangeKs 0 tab.length)) ts + tab.getD (min ts (tab.length : Int) - 1).toNat 0 := by
  rw [all_diff, ← inv_row h ts hts]
  rfl
theorem firstOf_mem {mo pre : List Int} {r : Int} (h : r ∈ firstOf mo pre) : r ∈ pre := by
  unfold firstOf at h
  obtain ⟨l, hl, hr⟩ := List.mem_flatten.mp h
  obtain ⟨k, hk, rfl⟩ := List.mem_map.mp hl
  unfold fPart at hr
  rw [rep_one] at hr
  rw [(List.mem_replicate.mp hr).2]; exact hk
theorem secondOf_mem {mo pre : List Int} {r : Int} (h : r ∈ secondOf mo pre) : r ∈ pre := by
  unfold secondOf at h
  obtain ⟨l, hl, hr⟩ := List.mem_flatten.mp h
  obtain ⟨k, hk, rfl⟩ := List.mem_map.mp hl
  unfold sPart at hr
  rw [rep_one] at hr
  rw [(List.mem_replicate.mp hr).2]; exact hk
theorem row_first {tab : List Int} (h : Row tab) : ∀ r ∈ firstOf (mostL tab) (rangeKs 0 tab.length), 0 ≤ r ∧ r ≤ 6 := by
  intro r hr
  have := mem_rangeKs (firstOf_mem hr)
  have := h.2.1
  omega
theorem row_second {tab : List Int} (h : Row tab) : ∀ r ∈ secondOf (mostL tab) (rangeKs 0 tab.length), 0 ≤ r ∧ r ≤ 6 := by
  intro r hr
  have := mem_rangeKs (secondOf_mem hr)
  have := h.2.1
  omega
theorem first_len36 {mo : List Int} (hbd : ∀ i : Nat, -18 ≤ mo.getD i 0 ∧ mo.getD i 0 ≤ 18) : ∀ pre : List Int, (firstOf mo pre).length ≤ 36 * pre.length
  | [] => Nat.le_refl _
  | k :: pre => by
    have ih := first_len36 hbd pre
    have h1 := hbd k.toNat
    have h2 := hbd (k + 1).toNat
    unfold firstOf at ih ⊢
    rw [List.map_cons, List.flatten_cons, List.length_append, List.length_cons, fPart, flat_oneK]
    omega
theorem second_len36 {mo : List Int} (hbd : ∀ i : Nat, -18 ≤ mo.getD i 0 ∧ mo.getD i 0 ≤ 18) : ∀ pre : List Int, (secondOf mo pre).length ≤ 36 * pre.length
  | [] => Nat.le_refl _
  | k :: pre => by
    have ih := second_len36 hbd pre
    have h1 := hbd k.toNat
    have h2 := hbd (k + 1).toNat
    unfold secondOf at ih ⊢
    rw [List.map_cons, List.flatten_cons, List.length_append, List.length_cons, sPart, flat_oneK]
    omega
theorem row_lens {tab : List Int} (h : Row tab) : (firstOf (mostL tab) (rangeKs 0 tab.length)).length ≤ 252 ∧ (secondOf (mostL tab) (rangeKs 0 tab.length)).length ≤ 252 := by
  have h1 := first_len36 (bd_row h) (rangeKs 0 tab.length)
  have h2 := second_len36 (bd_row h) (rangeKs 0 tab.length)
  rw [rangeKs_length] at h1 h2
  have := h.2.1
  omega

/-! counts: places and length -/
theorem getD_set (xs : List Int) (k i : Nat) (v : Int) (hk : k < xs.length) : (xs.set k v).getD i 0 = if i = k then v else xs.getD i 0 := getD_set0 xs k i v hk
theorem padTo_getD (c : List Int) (r : Int) (i : Nat) : (padTo c r).getD i 0 = c.getD i 0 := by
  unfold padTo
  split
  · rw [flat_rep, List.getD_eq_getElem?_getD, List.getD_eq_getElem?_getD, List.getElem?_append]
    split
    · rfl
    · rename_i hi
      rw [List.getElem?_eq_none (by omega : c.length ≤ i), List.getElem?_replicate]
      split <;> rfl
  · rfl
theorem step_getD (c : List Int) (r : Int) (h0 : 0 ≤ r) (i : Nat) : (bump (padTo c r) r).getD i 0 = c.getD i 0 + if (i : Int) = r then 1 else 0 := by
  unfold bump
  rw [getD_set _ _ _ _ (by rw [padTo_len c r h0]; omega), padTo_getD, padTo_getD]
  by_cases h : (i : Int) = r
  · have : i = r.toNat := by omega
    rw [if_pos h, if_pos this, this]
  · have : ¬ i = r.toNat := by omega
    rw [if_neg h, if_neg this]; omega
theorem cnt_getD (i : Nat) : ∀ (runs : List Int) (_h : ∀ r ∈ runs, 0 ≤ r) (c : List Int), (runs.foldl (fun c r => bump (padTo c r) r) c).getD i 0 = c.getD i 0 + (runs.count (i : Int) : Int)
  | [], _, c => by simp
  | r :: rs, h, c => by
    rw [List.foldl_cons, cnt_getD i rs (fun q hq => h q (.tail _ hq)), step_getD c r (h r (.head _)), List.count_cons]
    by_cases e : (i : Int) = r
    · rw [if_pos e]; simp [e]; omega
    · rw [if_neg e]
      have : ¬ (r == (i : Int)) = true := by simp; exact fun q => e q.symm
      rw [if_neg this]; omega
def topRun (runs : List Int) (m : Nat) : Nat := runs.foldl (fun m r => max m (r + 1).toNat) m
theorem cnt_len : ∀ (runs : List Int) (_h : ∀ r ∈ runs, 0 ≤ r) (c : List Int), (runs.foldl (fun c r => bump (padTo c r) r) c).length = topRun runs c.length
  | [], _, c => rfl
  | r :: rs, h, c => by
    rw [List.foldl_cons, cnt_len rs (fun q hq => h q (.tail _ hq)), bump_len, padTo_len c r (h r (.head _))]
    rfl
theorem topRun_le {b : Nat} : ∀ (runs : List Int) (m : Nat), topRun runs m ≤ b ↔ m ≤ b ∧ ∀ r ∈ runs, r < b
  | [], m => by simp [topRun]
  | r :: rs, m => by
    have ih := topRun_le (b := b) rs (max m (r + 1).toNat)
    unfold topRun at ih ⊢
    rw [List.foldl_cons, ih]
    simp only [List.mem_cons, forall_eq_or_imp]
    constructor
    · rintro ⟨h1, h2⟩; exact ⟨by omega, by omega, h2⟩
    · rintro ⟨h1, h2, h3⟩; exact ⟨by omega, h3⟩
end Mine
open PySem PySem.Spec PySem.Calls PySem.W PyProof.Rows PyProof.V
set_option Elab.async false
set_option maxRecDepth 100000
set_option maxHeartbeats 8000000
namespace Mine
theorem nOf_nonneg : ∀ (runs : List Int) (_h : ∀ r ∈ runs, 0 ≤ r), 0 ≤ nOf runs
  | [], _ => Int.le_refl _
  | r :: rs, h => by
    have ih := nOf_nonneg rs fun q hq => h q (.tail _ hq)
    have h0 := h r (.head _)
    unfold nOf at ih ⊢
    rw [List.map_cons, List.sum_cons]; omega
theorem st_len {runs : List Int} {b : Int} (h : ∀ r ∈ runs, 0 ≤ r) : (stOf runs b).cnt.length = topRun runs 0 := by
  unfold stOf cntOf
  exact cnt_len runs h []
theorem st_ok {runs : List Int} {b : Int} (h : ∀ r ∈ runs, 0 ≤ r ∧ r ≤ 100) (hl : runs.length ≤ 1000) (h0 : 0 ≤ b) (h1 : b ≤ 100) : (stOf runs b).Ok := by
  have hn : ∀ r ∈ runs, 0 ≤ r := fun r hr => (h r hr).1
  have e1 := st_len (b := b) hn
  have e2 : topRun runs 0 ≤ 101 := (topRun_le runs 0).mpr ⟨by omega, fun r hr => by have := h r hr; omega⟩
  have e3 := nOf_nonneg runs hn
  refine ⟨h0, by show b ≤ _; omega, by omega, by show 0 ≤ nOf runs + b; omega, by show 0 ≤ (runs.length : Int); omega, by show (runs.length : Int) ≤ _; omega, fun i => ?_⟩
  have e4 : (stOf runs b).cnt.getD i 0 = (runs.count (i : Int) : Int) := by
    have := cnt_getD i runs hn []
    unfold stOf cntOf
    rw [this]; simp
  rw [e4]
  have := List.count_le_length (a := (i : Int)) (l := runs)
  omega
theorem parse_x {X lit : PySem.Str} {runs : List Int} {b c : Int} {rest : List Int} (hX : KStt.codes X = leadC runs b) (hl : KStt.codes lit = c :: rest) (h : ∀ r ∈ runs, 0 ≤ r) (hb : 0 ≤ b) (h1 : c ≠ 32) (h2 : c ≠ 9) :
    parse (KStt.codes (X ++ lit)) ⟨[], 0, 0, 0⟩ = stOf runs b := by
  rw [codes_append, hX, hl, parse_lead runs b h hb, parse_stop rest _ h1 h2]
theorem lit_x : KStt.codes (Str.ofString "x \t") = [120, 32, 9] := by decide +kernel
theorem lit_n : KStt.codes (Str.ofString "\n\t") = [10, 9] := by decide +kernel
theorem lit_x_len : (Str.ofString "x \t").length = 3 := by decide +kernel
theorem lit_n_len : (Str.ofString "\n\t").length = 2 := by decide +kernel
end Mine
open PySem PySem.Spec PySem.Calls PySem.W PyProof.Rows PyProof.V
set_option Elab.async false
set_option maxRecDepth 100000
set_option maxHeartbeats 4000000
namespace Mine
/-- what the law's numbers are, in plain terms -/
structure LawF (tab fr sc both : List Int) (apart blanks M b1 b2 : Int) : Prop where
  row : Row tab
  cs : ∀ ts : Int, 1 ≤ ts → colSum sc ts = colSum fr ts + tab.getD (min ts (tab.length : Int) - 1).toNat 0
  fr0 : ∀ r ∈ fr, 0 ≤ r
  sc0 : ∀ r ∈ sc, 0 ≤ r
  bo0 : ∀ r ∈ both, 0 ≤ r
  zr : (∀ t ∈ tab, t = 0) → fr = [] ∧ sc = []
  bl : 0 ≤ blanks
  e1 : b1 = blanks + if 0 - apart > 0 then 0 - apart else 0
  e2 : b2 = blanks + if apart > 0 then apart else 0
  mm : M ∈ fr ++ sc ++ both ++ [blanks + if apart < 0 then -apart else apart]
  mx : ∀ a : Int, a ∈ fr ++ sc ++ both ++ [blanks + if apart < 0 then -apart else apart] → a ≤ M
namespace LawF
variable {tab fr sc both : List Int} {apart blanks M b1 b2 : Int}
theorem r1 (F : LawF tab fr sc both apart blanks M b1 b2) : ∀ r ∈ fr.reverse ++ both.reverse, 0 ≤ r := by
  intro r hr
  rcases List.mem_append.mp hr with hr | hr
  · exact F.fr0 r (List.mem_reverse.mp hr)
  · exact F.bo0 r (List.mem_reverse.mp hr)
theorem r2 (F : LawF tab fr sc both apart blanks M b1 b2) : ∀ r ∈ both ++ sc, 0 ≤ r := by
  intro r hr
  rcases List.mem_append.mp hr with hr | hr
  · exact F.bo0 r hr
  · exact F.sc0 r hr
theorem m1 (F : LawF tab fr sc both apart blanks M b1 b2) : ∀ r ∈ fr.reverse ++ both.reverse, r ≤ M := by
  intro r hr
  refine F.mx r ?_
  simp only [List.mem_append, List.mem_reverse, List.mem_singleton] at hr ⊢
  rcases hr with hr | hr
  · exact .inl (.inl (.inl hr))
  · exact .inl (.inr hr)
theorem m2 (F : LawF tab fr sc both apart blanks M b1 b2) : ∀ r ∈ both ++ sc, r ≤ M := by
  intro r hr
  refine F.mx r ?_
  simp only [List.mem_append, List.mem_singleton] at hr ⊢
  rcases hr with hr | hr
  · exact .inl (.inr hr)
  · exact .inl (.inl (.inr hr))
theorem mb (F : LawF tab fr sc both apart blanks M b1 b2) : (blanks + if apart < 0 then -apart else apart) ≤ M := F.mx _ (by simp)
theorem m0 (F : LawF tab fr sc both apart blanks M b1 b2) : 0 ≤ M := by have := F.mb; have := F.bl; omega
theorem b01 (F : LawF tab fr sc both apart blanks M b1 b2) : 0 ≤ b1 := by have := F.e1; have := F.bl; omega
theorem b02 (F : LawF tab fr sc both apart blanks M b1 b2) : 0 ≤ b2 := by have := F.e2; have := F.bl; omega
theorem apart_eq (F : LawF tab fr sc both apart blanks M b1 b2) : b2 = b1 + apart := by have := F.e1; have := F.e2; omega
theorem level1 (F : LawF tab fr sc both apart blanks M b1 b2) {z : Int} (hz : 1 ≤ z) : colOf z (leadC (fr.reverse ++ both.reverse) b1) = level (stOf (fr.reverse ++ both.reverse) b1) z := by
  rw [col_lead z hz _ _ F.r1 F.b01, level_st _ _ _ F.r1 hz]
theorem level2 (F : LawF tab fr sc both apart blanks M b1 b2) {z : Int} (hz : 1 ≤ z) : level (stOf (fr.reverse ++ both.reverse) b1) z + z * tab.getD (min z (tab.length : Int) - 1).toNat 0 + apart = level (stOf (both ++ sc) b2) z := by
  rw [level_st _ _ _ F.r1 hz, level_st _ _ _ F.r2 hz, colSum_append, colSum_append, colSum_rev, colSum_rev, F.cs z hz, F.apart_eq]
  simp only [Int.mul_add]
  omega
theorem lens (F : LawF tab fr sc both apart blanks M b1 b2) : ((stOf (fr.reverse ++ both.reverse) b1).cnt.length : Int) ≤ M + 1 ∧ ((stOf (both ++ sc) b2).cnt.length : Int) ≤ M + 1 := by
  have hm := F.m0
  rw [st_len F.r1, st_len F.r2]
  have h1 := (topRun_le (b := (M + 1).toNat) (fr.reverse ++ both.reverse) 0).mpr ⟨by omega, fun r hr => by have := F.m1 r hr; omega⟩
  have h2 := (topRun_le (b := (M + 1).toNat) (both ++ sc) 0).mpr ⟨by omega, fun r hr => by have := F.m2 r hr; omega⟩
  omega
theorem lt_len {runs : List Int} {r : Int} (h0 : ∀ r ∈ runs, 0 ≤ r) {b : Int} (h : r ∈ runs) : r < ((stOf runs b).cnt.length : Int) := by
  rw [st_len h0]
  exact ((topRun_le (b := topRun runs 0) runs 0).mp (Nat.le_refl _)).2 r h
theorem top_of {l1 l2 b1 b2 M : Int} (h1 : l1 ≤ M + 1) (h2 : l2 ≤ M + 1) (h3 : b1 ≤ M) (h4 : b2 ≤ M) (h : M < l1 ∨ M < l2 ∨ b1 = M ∨ b2 = M) : max (max (l1 - 1) b1) (max (l2 - 1) b2) + 1 = 1 + M := by omega
theorem b_le (F : LawF tab fr sc both apart blanks M b1 b2) : b1 ≤ M ∧ b2 ≤ M := by
  have hb := F.mb
  have q1 := F.e1
  have q2 := F.e2
  clear F
  omega
theorem b_is (F : LawF tab fr sc both apart blanks M b1 b2) (h : M = blanks + if apart < 0 then -apart else apart) : b1 = M ∨ b2 = M := by
  have q1 := F.e1
  have q2 := F.e2
  clear F
  omega
theorem top (F : LawF tab fr sc both apart blanks M b1 b2) : topOf (stOf (fr.reverse ++ both.reverse) b1) (stOf (both ++ sc) b2) = 1 + M := by
  have hl := F.lens
  have hm := F.mm
  have hb := F.b_le
  refine top_of hl.1 hl.2 hb.1 hb.2 ?_
  simp only [List.mem_append, List.mem_singleton] at hm
  rcases hm with ((hm | hm) | hm) | hm
  · exact .inl (lt_len F.r1 (b := b1) (r := M) (by simp [hm]))
  · exact .inr (.inl (lt_len F.r2 (b := b2) (r := M) (by simp [hm])))
  · exact .inr (.inl (lt_len F.r2 (b := b2) (r := M) (by simp [hm])))
  · exact .inr (.inr (F.b_is hm))
theorem small_sum {ts : Int} : ∀ (runs : List Int), (∀ r ∈ runs, 0 ≤ r) → (∀ r ∈ runs, r < ts) → colSum runs ts = runs.length
  | [], _, _ => rfl
  | r :: rs, h0, h1 => by
    have ih := small_sum rs (fun q hq => h0 q (.tail _ hq)) (fun q hq => h1 q (.tail _ hq))
    unfold colSum at ih ⊢
    rw [List.map_cons, List.sum_cons, ih, fdiv_small (h0 r (.head _)) (h1 r (.head _)), List.length_cons]
    omega
theorem const (F : LawF tab fr sc both apart blanks M b1 b2) {ts : Int} (h : 1 + M ≤ ts) : tab.getD (min ts (tab.length : Int) - 1).toNat 0 = sc.length - fr.length := by
  have hM := F.m0
  have := F.cs ts (by omega)
  rw [small_sum sc F.sc0 (fun r hr => by have := F.m2 r (List.mem_append.mpr (.inr hr)); omega), small_sum fr F.fr0 (fun r hr => by have := F.m1 r (List.mem_append.mpr (.inl (List.mem_reverse.mpr hr))); omega)] at this
  omega
theorem last (F : LawF tab fr sc both apart blanks M b1 b2) {ts : Int} (h : 1 + M ≤ ts) : tab.getD (min ts (tab.length : Int) - 1).toNat 0 = tab.getD (tab.length - 1) 0 := by
  have h1 := F.const h
  have h2 := F.const (ts := ts + tab.length) (by omega)
  have hM := F.m0
  have e : (min (ts + tab.length) (tab.length : Int) - 1).toNat = tab.length - 1 := by omega
  rw [e] at h2
  omega
end LawF
end Mine
open PySem PySem.Spec PySem.Calls PySem.W PyProof.Rows PyProof.V
set_option Elab.async false
set_option maxRecDepth 100000
set_option maxHeartbeats 4000000
namespace Mine
theorem level_one {runs : List Int} {b : Int} (h : ∀ r ∈ runs, 0 ≤ r) : level (stOf runs b) 1 = (stOf runs b).n := by
  rw [level_st runs b 1 h (by omega)]
  have e : colSum runs 1 = nOf runs := by
    unfold colSum nOf
    congr 1
    refine List.map_congr_left fun r _ => ?_
    rw [Int.fdiv_one]
  rw [e]
  show b + 1 * nOf runs = nOf runs + b
  omega
theorem simple_zero {runs : List Int} {b : Int} (h : ∀ r ∈ runs, 0 ≤ r) (hl : (stOf runs b).cnt.length ≤ 1) : ∀ r ∈ runs, r = 0 := by
  intro r hr
  have := LawF.lt_len h (b := b) hr
  have := h r hr
  omega
theorem simple_level {runs : List Int} {b ts : Int} (h : ∀ r ∈ runs, 0 ≤ r) (hl : (stOf runs b).cnt.length ≤ 1) (hts : 1 ≤ ts) : level (stOf runs b) ts = b + ts * (stOf runs b).nt := by
  rw [level_st runs b ts h hts, LawF.small_sum runs h fun r hr => by have := simple_zero h hl r hr; omega]
  rfl
theorem sum_bump : ∀ (xs : List Int) (k : Nat), k < xs.length → (xs.set k (xs.getD k 0 + 1)).sum = xs.sum + 1
  | [], k, h => absurd h (Nat.not_lt_zero _)
  | x :: xs, 0, _ => by simp only [List.set_cons_zero, List.getD_cons_zero, List.sum_cons]; omega
  | x :: xs, k + 1, h => by
    have ih := sum_bump xs k (Nat.lt_of_succ_lt_succ h)
    simp only [List.set_cons_succ, List.getD_cons_succ, List.sum_cons, ih]; omega
theorem sum_zeros (n : Nat) : (List.replicate n (0 : Int)).sum = 0 := by
  induction n with
  | zero => rfl
  | succ n ih => rw [List.replicate_succ, List.sum_cons, ih]; rfl
theorem sum_pad (c : List Int) (r : Int) : (padTo c r).sum = c.sum := by
  unfold padTo
  split
  · rw [List.sum_append, flat_rep, sum_zeros, Int.add_zero]
  · rfl
theorem sum_cnt : ∀ (runs : List Int) (_h : ∀ r ∈ runs, 0 ≤ r) (c : List Int), (runs.foldl (fun c r => bump (padTo c r) r) c).sum = c.sum + runs.length
  | [], _, c => by simp
  | r :: rs, h, c => by
    have h0 := h r (.head _)
    rw [List.foldl_cons, sum_cnt rs (fun q hq => h q (.tail _ hq))]
    have e : (bump (padTo c r) r).sum = c.sum + 1 := by
      unfold bump
      rw [sum_bump _ _ (by rw [padTo_len c r h0]; omega), sum_pad]
    rw [e, List.length_cons]
    omega
theorem cnt_nt {runs : List Int} {b : Int} (h : ∀ r ∈ runs, 0 ≤ r) : (stOf runs b).cnt.sum = (stOf runs b).nt := by
  have := sum_cnt runs h []
  simp only [List.sum_nil, Int.zero_add] at this
  exact this
theorem cnt_rev {runs : List Int} (h : ∀ r ∈ runs, 0 ≤ r) : cntOf runs.reverse = cntOf runs := by
  have h' : ∀ r ∈ runs.reverse, 0 ≤ r := fun r hr => h r (List.mem_reverse.mp hr)
  have l1 : (cntOf runs.reverse).length = (cntOf runs).length := by
    unfold cntOf
    rw [cnt_len _ h', cnt_len _ h]
    refine Nat.le_antisymm ?_ ?_
    · exact (topRun_le _ _).mpr ⟨by simp, fun r hr => ((topRun_le runs 0).mp (Nat.le_refl _)).2 r (List.mem_reverse.mp hr)⟩
    · exact (topRun_le _ _).mpr ⟨by simp, fun r hr => ((topRun_le runs.reverse 0).mp (Nat.le_refl _)).2 r (List.mem_reverse.mpr hr)⟩
  refine List.ext_getElem l1 fun i i1 i2 => ?_
  have e1 := cnt_getD i runs.reverse h' []
  have e2 := cnt_getD i runs h []
  rw [List.count_reverse, ← e2] at e1
  rw [List.getD_eq_getElem?_getD, List.getD_eq_getElem?_getD] at e1
  have q1 : (cntOf runs.reverse)[i]? = some ((cntOf runs.reverse)[i]) := List.getElem?_eq_getElem i1
  have q2 : (cntOf runs)[i]? = some ((cntOf runs)[i]) := List.getElem?_eq_getElem i2
  unfold cntOf at q1 q2
  rw [q1, q2] at e1
  exact e1
theorem less_iff {r1 r2 : List Int} {b1 b2 : Int} (h1 : ∀ r ∈ r1, 0 ≤ r) (h2 : ∀ r ∈ r2, 0 ≤ r) (hb1 : 0 ≤ b1) (hb2 : 0 ≤ b2) :
    LessP (stOf r1 b1) (stOf r2 b2) ↔ ∀ z ∈ rangeKs 1 (topOf (stOf r1 b1) (stOf r2 b2)).toNat, level (stOf r1 b1) z < level (stOf r2 b2) z := by
  have htop : 1 ≤ topOf (stOf r1 b1) (stOf r2 b2) ∧ b1 + 1 ≤ topOf (stOf r1 b1) (stOf r2 b2) ∧ b2 + 1 ≤ topOf (stOf r1 b1) (stOf r2 b2) := by
    unfold topOf longest
    have e1 : (stOf r1 b1).b = b1 := rfl
    have e2 : (stOf r2 b2).b = b2 := rfl
    rw [e1, e2]
    omega
  unfold LessP
  rw [← level_one h1, ← level_one h2]
  generalize topOf (stOf r1 b1) (stOf r2 b2) = top at htop
  obtain ⟨t1, t2, t3⟩ := htop
  by_cases hs : (stOf r1 b1).cnt.length ≤ 1 ∧ (stOf r2 b2).cnt.length ≤ 1
  · rw [if_pos hs]
    constructor
    · rintro ⟨g1, g2⟩ z hz
      have hz' := mem_rangeKs hz
      rw [simple_level h1 hs.1 (by omega), simple_level h2 hs.2 (by omega)] at g1 ⊢
      have : (z - 1) * (stOf r1 b1).nt ≤ (z - 1) * (stOf r2 b2).nt := Int.mul_le_mul_of_nonneg_left g2 (by omega)
      rw [Int.sub_mul, Int.sub_mul] at this
      omega
    · intro g
      have g1 := g 1 (mem_rangeKs_of (Int.le_refl _) (by omega))
      have g2 := g top (mem_rangeKs_of (by omega) (by omega))
      refine ⟨g1, ?_⟩
      rw [simple_level h1 hs.1 (by omega), simple_level h2 hs.2 (by omega)] at g2
      apply Classical.byContradiction
      intro hn
      have hn' : (stOf r2 b2).nt + 1 ≤ (stOf r1 b1).nt := by omega
      have : top * ((stOf r2 b2).nt + 1) ≤ top * (stOf r1 b1).nt := Int.mul_le_mul_of_nonneg_left hn' (by omega)
      rw [Int.mul_add] at this
      omega
  · rw [if_neg hs]
    constructor
    · rintro ⟨g1, g2⟩ z hz
      have hz' := mem_rangeKs hz
      by_cases e : z = 1
      · subst e; exact g1
      · exact g2 z (mem_rangeKs_of (by omega) (by omega))
    · intro g
      refine ⟨g 1 (mem_rangeKs_of (Int.le_refl _) (by omega)), fun z hz => ?_⟩
      have hz' := mem_rangeKs hz
      exact g z (mem_rangeKs_of (by omega) (by omega))
theorem topOf_comm (S1 S2 : WS) : topOf S2 S1 = topOf S1 S2 := by unfold topOf; omega
theorem ne_nil (S1 S2 : WS) (l : List Int) : neRows S1 S2 l = [] ↔ ∀ z ∈ l, level S1 z = level S2 z := by
  unfold neRows
  rw [List.map_eq_nil_iff, List.filter_eq_nil_iff]
  simp
namespace LawF
variable {tab fr sc both : List Int} {apart blanks M b1 b2 : Int}
theorem equal_iff (F : LawF tab fr sc both apart blanks M b1 b2) : EqualP (stOf (fr.reverse ++ both.reverse) b1) (stOf (both ++ sc) b2) ↔ neRows (stOf (fr.reverse ++ both.reverse) b1) (stOf (both ++ sc) b2) (rangeKs 1 (topOf (stOf (fr.reverse ++ both.reverse) b1) (stOf (both ++ sc) b2)).toNat) = [] := by
  rw [ne_nil, F.top]
  have hM := F.m0
  have hmb := F.mb
  have hbl := F.bl
  constructor
  · rintro ⟨g1, g2⟩ z hz
    have hnt : (stOf (fr.reverse ++ both.reverse) b1).nt = (stOf (both ++ sc) b2).nt := by rw [← cnt_nt F.r1, ← cnt_nt F.r2, g1]
    unfold level
    rw [g1, g2, hnt]
  · intro g
    have hd : ∀ z : Int, 1 ≤ z → z ≤ 1 + M → z * tab.getD (min z (tab.length : Int) - 1).toNat 0 + apart = 0 := by
      intro z h1 h2
      have := g z (mem_rangeKs_of h1 (by omega))
      have := F.level2 h1
      omega
    have ht := hd (1 + M) (by omega) (Int.le_refl _)
    have t0 : tab.getD (min (1 + M) (tab.length : Int) - 1).toNat 0 = 0 := by
      generalize tab.getD (min (1 + M) (tab.length : Int) - 1).toNat 0 = t at ht
      have ha : apart < 1 + M ∧ -apart < 1 + M := by omega
      apply Classical.byContradiction
      intro hne
      by_cases hp : 0 < t
      · have : (1 + M) * 1 ≤ (1 + M) * t := Int.mul_le_mul_of_nonneg_left (by omega) (by omega)
        omega
      · have : (1 + M) * t ≤ (1 + M) * (-1) := Int.mul_le_mul_of_nonneg_left (by omega) (by omega)
        omega
    have a0 : apart = 0 := by rw [t0] at ht; omega
    have all : ∀ z : Int, 1 ≤ z → tab.getD (min z (tab.length : Int) - 1).toNat 0 = 0 := by
      intro z h1
      by_cases h2 : z ≤ 1 + M
      · have := hd z h1 h2
        rw [a0, Int.add_zero] at this
        rcases Int.mul_eq_zero.mp this with h | h
        · omega
        · exact h
      · rw [F.last (ts := z) (by omega), ← F.last (ts := 1 + M) (Int.le_refl _)]; exact t0
    have hz : ∀ t ∈ tab, t = 0 := by
      intro t htm
      obtain ⟨i, hi, rfl⟩ := List.getElem_of_mem htm
      have := all (i + 1) (by omega)
      have e : (min ((i : Int) + 1) (tab.length : Int) - 1).toNat = i := by omega
      rw [e, List.getD_eq_getElem?_getD, List.getElem?_eq_getElem hi] at this
      exact this
    obtain ⟨f0, s0⟩ := F.zr hz
    have hb := F.apart_eq
    refine ⟨?_, ?_⟩
    · show cntOf (fr.reverse ++ both.reverse) = cntOf (both ++ sc)
      rw [f0, s0, List.reverse_nil, List.nil_append, List.append_nil]
      exact cnt_rev F.bo0
    · show b1 = b2
      omega
end LawF
end Mine
open PySem PySem.Spec PySem.Calls PySem.W PyProof.Rows PyProof.V
set_option Elab.async false
set_option maxRecDepth 100000
set_option maxHeartbeats 4000000
namespace Mine
theorem flt_yes {α β : Type} {l : List α} {p : α → Bool} {f : α → β} {i : Nat} {x : α} (h : l[i]? = some x) (hp : p x = true) : ((l.take (i + 1)).filter p).map f = ((l.take i).filter p).map f ++ [f x] := by
  rw [List.take_add_one, h, List.filter_append, List.map_append]
  simp [hp]
theorem flt_no {α β : Type} {l : List α} {p : α → Bool} {f : α → β} {i : Nat} {x : α} (h : l[i]? = some x) (hp : p x = false) : ((l.take (i + 1)).filter p).map f = ((l.take i).filter p).map f := by
  rw [List.take_add_one, h, List.filter_append, List.map_append]
  simp [hp]
theorem row_at {S1 S2 : WS} {l : List Int} {i : Nat} {d : Dat} (h : ((l.map (rowAt S1 S2)).map rowD)[i]? = some d) : ∃ z, l[i]? = some z ∧ d = rowD (z, level S1 z, level S2 z) := by
  rw [List.getElem?_map, List.getElem?_map] at h
  cases e : l[i]? with
  | none => rw [e] at h; cases h
  | some z => rw [e] at h; cases h; exact ⟨z, rfl, rfl⟩
theorem flt_all {α β : Type} {l : List α} {p : α → Bool} {f : α → β} {n : Nat} (h : l.length ≤ n) : ((l.take n).filter p).map f = (l.filter p).map f := by rw [List.take_of_length_le h]
end Mine
namespace Mine
theorem okRows (l : List (Int × Int × Int)) : kqdOk 9 (.list (l.map rowD)) = true := by
  unfold kqdOk
  rw [List.all_eq_true]
  intro d hd
  obtain ⟨r, _, rfl⟩ := List.mem_map.mp hd
  rfl
theorem ne_self {b : Bool} {d : Dat} (h : b = true ↔ d ≠ d) : b = false := by
  cases b with
  | false => rfl
  | true => exact absurd rfl (h.mp rfl)
end Mine
open PySem PySem.Spec PySem.Calls PySem.W PyProof.Rows PyProof.V
set_option Elab.async false
set_option maxRecDepth 100000
set_option maxHeartbeats 8000000
namespace Mine
section
variable {prog : Program} {w : World} {A : Around} {h₀ : Heap} {L : Addr} {m : Str → Option Value} {env : Env} {ct elt : PySem.Expr} {x : Str} {scope : Scope} {cl : List (Str × Addr)} {s : Shared} {S : Led → Prop} {P : Nat → Value → Prop} {Fin : List Value → Led → Prop} {news : Led}
theorem compInvT {n : Nat} (J : Nat → List Value → Prop)
    (turn : ∀ i ys v I oI C oC D m₂ h tk (E' : Value → Shared → Prop), i < n → P i v → J i ys → LCg.NsObj oC m₂ → m₂ x = some v → Fr h₀ L h m → News h₀ L h ((I, oI) :: (C, oC) :: (D, LCg.lst ys) :: news) → LCg.Off3 I C D news → ((@Ne Nat I C) ∧ (@Ne Nat I D) ∧ (@Ne Nat C D)) →
      wpAny (model prog w) A (isTrue ct (compEnvC scope cl C env) (eval ct (compEnvC scope cl C env))) (fun ok s' => if ok = true then
        wpAny (model prog w) A (eval elt (compEnvC scope cl C env)) (LCg.CompEnd h₀ L m { s with heap := h, toks := tk } I oI C oC D (LCg.lst ys) S (fun y nx' => nx' = news ∧ J (i + 1) (ys ++ [y]))) E' s'
        else LCg.CompEnd h₀ L m { s with heap := h, toks := tk } I oI C oC D (LCg.lst ys) S (fun _ nx' => nx' = news ∧ J (i + 1) ys) Value.none s') E' { s with heap := h, toks := tk })
    (done : ∀ ys, J n ys → Fin ys news) : ∀ (k i : Nat) (ys : List Value), i + k = n → J i ys → LCt.CompRestT prog w A h₀ L m env ct elt x scope cl s S P Fin k i ys news := by
  intro k
  induction k with
  | zero => intro i ys e hj; have e' : i = n := e; subst e'; exact LCt.CompRestT.zero (done ys hj)
  | succ k ih =>
    intro i ys e hj
    refine LCt.CompRestT.succ fun v I oI C oC D m₂ h tk E' hP hC hx F N off ne => ?_
    refine wpAny_mono (turn i ys v I oI C oC D m₂ h tk E' (by omega) hP hj hC hx F N off ne) (fun ok s₂ hq => ?_) fun _ _ q => q
    by_cases hok : ok = true
    · rw [if_pos hok] at hq ⊢
      refine wpAny_mono hq (fun y s₃ hr => ?_) fun _ _ q => q
      obtain ⟨h', tk', nx', e2, F', N', off', hS, rfl, hj'⟩ := hr
      exact ⟨h', tk', nx', e2, F', N', off', hS, ih (i + 1) (ys ++ [y]) (by omega) hj'⟩
    · rw [if_neg hok] at hq ⊢
      obtain ⟨h', tk', nx', e2, F', N', off', hS, rfl, hj'⟩ := hq
      exact ⟨h', tk', nx', e2, F', N', off', hS, ih (i + 1) ys (by omega) hj'⟩
end
theorem datInt_inv {tups : Led} {v : Value} {n : Int} (h : DatIn tups v (.int n)) : ∃ t, v = .int n t := by
  cases h; exact ⟨_, rfl⟩
theorem datCons_inv {tups : Led} {vs : List Value} {d : Dat} {ds : List Dat} (h : DatAll tups vs (d :: ds)) : ∃ v vs', vs = v :: vs' ∧ DatIn tups v d ∧ DatAll tups vs' ds := by
  cases h with
  | cons h1 h2 => exact ⟨_, _, rfl, h1, h2⟩
theorem datNil_inv {tups : Led} {vs : List Value} (h : DatAll tups vs []) : vs = [] := by
  cases h; rfl
theorem datTup_inv {tups : Led} {v : Value} {ds : List Dat} (h : DatIn tups v (.tuple ds)) : ∃ ad n vs, v = .ref ad ∧ (ad, ({ cls := .type "tuple", data := .seq vs.toArray n } : Obj)) ∈ tups ∧ DatAll tups vs ds := by
  cases h with
  | tuple hm hd => exact ⟨_, _, _, rfl, hm, hd⟩
theorem row_open {tups : Led} {v : Value} {z a b : Int} (h : DatIn tups v (rowD (z, a, b))) : ∃ ad n t1 t2 t3, v = .ref ad ∧ (ad, ({ cls := .type "tuple", data := .seq #[.int z t1, .int a t2, .int b t3] n } : Obj)) ∈ tups := by
  obtain ⟨ad, n, vs, e, hm, d0⟩ := datTup_inv h
  obtain ⟨v1, vs1, rfl, h1, d1⟩ := datCons_inv d0
  obtain ⟨v2, vs2, rfl, h2, d2⟩ := datCons_inv d1
  obtain ⟨v3, vs3, rfl, h3, d3⟩ := datCons_inv d2
  obtain ⟨t1, rfl⟩ := datInt_inv h1
  obtain ⟨t2, rfl⟩ := datInt_inv h2
  obtain ⟨t3, rfl⟩ := datInt_inv h3
  have e0 := datNil_inv d3
  subst e0
  exact ⟨ad, n, t1, t2, t3, e, hm⟩
theorem datGet {tups : Led} {vs : List Value} {ds : List Dat} (h : DatAll tups vs ds) {i : Nat} {v : Value} (hv : vs.toArray[i]? = some v) : ∃ d, ds[i]? = some d ∧ DatIn tups v d := by
  have h' : vs[i]? = some v := by simpa using hv
  have hl : i < ds.length := by rw [← h.length]; exact (List.getElem?_eq_some_iff.mp h').1
  obtain ⟨v', e, hd⟩ := h.get hl
  rw [h'] at e
  cases e
  exact ⟨ds[i], by simp [hl], hd⟩
end Mine
open PySem PySem.Spec PySem.Calls PySem.W PyProof.Rows PyProof.V
set_option Elab.async false
set_option maxRecDepth 100000
set_option maxHeartbeats 8000000
namespace Mine
abbrev testsOf (env : Env) (ifs : List PySem.Expr) : Sem Bool := forIn ifs true fun c r => if r = true then do let ok ← isTrue c env (eval c env); pure (ForInStep.yield ok) else pure (ForInStep.yield r)
section
variable {prog : Program} {w : World} {A : Around} {E : Value → Shared → Prop} {s : Shared}
/-- a list comprehension over a tuple target, turn by turn -/
theorem tupLoop {elt iter : PySem.Expr} {elts ifs : List PySem.Expr} {x1} {tp : Pos} {scope : Scope} {pos : Pos} {it acc : Value} {env : Env} {R : Result → Shared → Prop} (I : Nat → Shared → Prop)
    (turn : ∀ n s, I n s → wpAny (model prog w) A (pyNext it) (fun r s₁ => match r with
      | none => R (.ok .next) s₁
      | some v => wpAny (model prog w) A (letOwnedTupleGo (.Tuple elts x1 tp) it v) (fun _ s₁' => wpAny (model prog w) A (assign (.Tuple elts x1 tp) env v) (fun _ s₂ =>
          wpAny (model prog w) A (testsOf env ifs) (fun ok s₃ => if ok = true then wpAny (model prog w) A (eval elt env) (fun x s₄ =>
              wpAny (model prog w) A (call (.builtin "list.append") [acc, x]) (fun _ s₅ => ∃ m, m < n ∧ I m s₅) (notedBy (model prog w) A env fun e s' => R (.error e) s') s₄) (notedBy (model prog w) A env fun e s' => R (.error e) s') s₃
            else ∃ m, m < n ∧ I m s₃) (notedBy (model prog w) A env fun e s' => R (.error e) s') s₂)
          (notedBy (model prog w) A env fun e s' => R (.error e) s') s₁') (notedBy (model prog w) A env fun e s' => R (.error e) s') s₁) (notedBy (model prog w) A env fun e s' => R (.error e) s') s)
    (n : Nat) (h : I n s) : codeAny (model prog w) A (.compLoop (.ListComp elt [⟨.Tuple elts x1 tp, iter, ifs, 0⟩] scope pos) 0 it acc env) R s := by
  refine codeAny_loop rfl I (fun n s hI => ?_) n h
  show wpAny _ A ((compTurn (.ListComp elt [⟨.Tuple elts x1 tp, iter, ifs, 0⟩] scope pos) 0 it acc env).onRaise (fun x => do noteFrame x env; theTreesLotGoes x)) _ _ s
  refine wpAny_noted ?_
  rw [compTurn_list]
  refine wpAny_bind (wpAny_standAt (wpAny_bind (wpAny_mono (turn n s hI) (fun r s₁ h₁ => ?_) fun _ _ h' => h')))
  cases r with
  | none => exact wpAny_pure h₁
  | some v =>
    refine wpAny_bind (wpAny_mono h₁ (fun _ s₁' h₁' => ?_) fun _ _ h' => h')
    refine wpAny_bind (wpAny_mono h₁' (fun _ s₂ h₂ => wpAny_bind (wpAny_mono h₂ (fun ok s₃ h₃ => ?_) fun _ _ h' => h')) fun _ _ h' => h')
    cases ok with
    | false => exact wpAny_pure ⟨rfl, h₃⟩
    | true => exact wpAny_bind (wpAny_bind (wpAny_mono h₃ (fun x s₄ h₄ => wpAny_bind (wpAny_mono h₄ (fun _ s₅ h₅ => wpAny_pure (wpAny_pure ⟨rfl, h₅⟩)) fun _ _ h' => h')) fun _ _ h' => h'))
end
end Mine
open PySem PySem.Spec PySem.Calls PySem.W PyProof.Rows PyProof.V
set_option Elab.async false
set_option maxRecDepth 100000
set_option maxHeartbeats 8000000
namespace Mine
open LCg
section
variable {prog : Program} {w : World} {A : Around} {E : Value → Shared → Prop} {s : Shared} {h₀ : Heap} {L : Addr} {m : Str → Option Value} {env : Env}
abbrev Turn3 (prog : Program) (w : World) (A : Around) (h₀ : Heap) (L : Addr) (m : Str → Option Value) (env : Env) (ifs : List PySem.Expr) (elt : PySem.Expr) (x₁ x₂ x₃ : Str) (scope : Scope) (cl : List (Str × Addr)) (s : Shared) (S : Led → Prop) (P : Nat → Value → Prop) (n : Nat) (J : Nat → List Value → Led → Prop) : Prop :=
  ∀ i v ys news, i < n → P i v → S news → J i ys news → ∃ (t : Addr) (ot : Obj) (v₁ v₂ v₃ : Value) (nt : Nat), v = .ref t ∧ (t, ot) ∈ news ∧ ot.cls = .type "tuple" ∧ ot.data = .seq #[v₁, v₂, v₃] nt ∧
      ∀ I oI C oC D m₂ h tk (E' : Value → Shared → Prop), NsObj oC m₂ → m₂ x₁ = some v₁ → m₂ x₂ = some v₂ → m₂ x₃ = some v₃ → Fr h₀ L h m → News h₀ L h ((I, oI) :: (C, oC) :: (D, lst ys) :: news) → Off3 I C D news → ((@Ne Nat I C) ∧ (@Ne Nat I D) ∧ (@Ne Nat C D)) →
      wpAny (model prog w) A (testsOf (compEnvC scope cl C env) ifs) (fun ok s' => if ok = true then
        wpAny (model prog w) A (eval elt (compEnvC scope cl C env)) (CompEnd h₀ L m { s with heap := h, toks := tk } I oI C oC D (lst ys) S (fun y news' => J (i + 1) (ys ++ [y]) news')) E' s'
        else CompEnd h₀ L m { s with heap := h, toks := tk } I oI C oC D (lst ys) S (fun _ news' => J (i + 1) ys news') Value.none s') E' { s with heap := h, toks := tk }

theorem block_3 {elt iter : PySem.Expr} {ifs : List PySem.Expr} {x₁ x₂ x₃ : Str} {px px₂ px₃ tp : Pos} {tk} {scope : Scope} {cl : List (Str × Addr)} {pos : Pos} {s₂ : Shared} {I : Addr} {fp : List Addr} {n : Nat} {P : Nat → Value → Prop} {St : Nat → Heap → Prop} {S : Led → Prop} {news : Led}
    {J : Nat → List Value → Led → Prop} {RR : Value → Addr → Result → Shared → Prop}
    (W : Walks prog w A I fp [I] n P St) (hsz : n ≤ sizeLine) (hIo : ∀ i h, St i h → ∃ o, h.get? I = some o)
    (hSt : ∀ i h h' o nw, St i h → h.get? I = some o → h'.get? I = some o → (∀ b o, h₀.get? b = some o → h'.get? b = some o) → News h₀ L h' nw → S nw → St i h')
    (hcell : ∀ y ∈ scope.names, y.2 ≠ .cell) (hkind : scope.kind = .function) (hx : scope.names.lookup x₁ = some .local) (hx₂ : scope.names.lookup x₂ = some .local) (hx₃ : scope.names.lookup x₃ = some .local) (h12 : x₁ ≠ x₂) (h13 : x₁ ≠ x₃) (h23 : x₂ ≠ x₃) (hh : A.handled = none) (hLI : ∀ i h, St i h → ∃ l j, h.IsListIter I l j) (hst : St 0 s₂.heap) (hfp : ∀ b ∈ fp, b < s₂.heap.objs.size)
    (F : Fr h₀ L s₂.heap m) (N : News h₀ L s₂.heap news) (hIL : L ≠ I) (hI₀ : h₀.get? I = none) (off : ∀ p ∈ news, p.1 ≠ I) (hS : S news)
    (R : Turn3 prog w A h₀ L m env ifs elt x₁ x₂ x₃ scope cl s₂ S P n J) (hJ : J 0 [] news)
    (hRR : ∀ D C h tk m' ys news', Fr h₀ L h m → News h₀ L h ((D, lst ys) :: news') → Off1 D news' → h.Ns C m' → h₀.get? C = none → h₀.get? D = none → C ≠ L → D ≠ L → C ≠ D → (∀ p ∈ news', p.1 ≠ C) → J n ys news' → RR (.ref D) C (.ok .next) { s₂ with heap := h, toks := tk }) :
    wpAny (model prog w) A (newList []) (fun acc s₃ => wpAny (model prog w) A (newFunctionEnv scope env.globals cl [] env.qual none .none (some env)) (fun cenv s₄ =>
      codeAny (model prog w) A (.compStart (.ListComp elt [⟨.Tuple [.Name x₁ px, .Name x₂ px₂, .Name x₃ px₃] tk tp, iter, ifs, 0⟩] scope pos) 0 (.ref I) acc { cenv with scope := relabel scope env }) (RR acc cenv.locals) s₄) E s₃) E s₂ := by
  refine wpAny_newObj_type (wpAny_newFunctionEnv hcell (by intro y hy; simp at hy) (fun h₁ hns₁ hsb₁ => ?_) hkind)
  dsimp only at hns₁ hsb₁ ⊢
  generalize hH2 : s₂.heap.push { cls := .type "list", dict := none, data := .seq ([] : List Value).toArray } = H2 at hns₁ hsb₁ ⊢
  have hC : H2.objs.size = s₂.heap.objs.size + 1 := by rw [← hH2, Heap.size_push]
  have hDC : s₂.heap.objs.size ≠ H2.objs.size := by rw [hC]; exact Nat.ne_of_lt (Nat.lt_succ_self _)
  have below : ∀ b, b < s₂.heap.objs.size → b ≠ H2.objs.size ∧ b ≠ s₂.heap.objs.size := fun b hb => ⟨by rw [hC]; exact Nat.ne_of_lt (Nat.lt_succ_of_lt hb), Nat.ne_of_lt hb⟩
  have hDf : s₂.heap.objs.size ∉ fp := fun hm => Nat.lt_irrefl _ (hfp _ hm)
  have hCf : H2.objs.size ∉ fp := fun hm => by have := hfp _ hm; rw [hC] at this; exact Nat.lt_irrefl _ (Nat.lt_of_succ_lt this)
  have hIf : I ∈ fp := W.sub I (List.mem_singleton.mpr rfl)
  have hIlt : I < s₂.heap.objs.size := hfp I hIf
  have old : ∀ b o, s₂.heap.get? b = some o → h₁.get? b = some o := fun b o e => hsb₁.extBut b o (below b (Heap.lt_size e)).1 (Heap.get?_push_of_some _ (hH2 ▸ Heap.get?_push_of_some _ e))
  have hacc : h₁.get? s₂.heap.objs.size = some (lst []) := hsb₁.extBut _ _ hDC (Heap.get?_push_of_some _ (hH2 ▸ Heap.get?_push_size _ rfl))
  have hst₁ : St 0 h₁ := W.frame _ _ _ hst fun b _ o e => old b o e
  have fresh : ∀ a, s₂.heap.objs.size ≤ a → s₂.heap.get? a = none := fun a ha => by
    cases e : s₂.heap.get? a with
    | none => rfl
    | some o' => exact absurd (Heap.lt_size e) (Nat.not_lt.mpr ha)
  have fresh₀ : ∀ a, s₂.heap.objs.size ≤ a → h₀.get? a = none := fun a ha => by
    cases e : h₀.get? a with
    | none => rfl
    | some o' => have := F.keep a o' e; rw [fresh a ha] at this; cases this
  have hD₀ : h₀.get? s₂.heap.objs.size = none := fresh₀ _ (Nat.le_refl _)
  have hC₀ : h₀.get? H2.objs.size = none := fresh₀ _ (by rw [hC]; exact Nat.le_succ _)
  have hLlt : L < s₂.heap.objs.size := F.ns.lt
  have hDL : s₂.heap.objs.size ≠ L := Ne.symm (below L hLlt).2
  have hCL : H2.objs.size ≠ L := Ne.symm (below L hLlt).1
  have hCI : I ≠ H2.objs.size := (below I hIlt).1
  have hDI : I ≠ s₂.heap.objs.size := (below I hIlt).2
  have off₀ : Off3 I H2.objs.size s₂.heap.objs.size news := Off3.of fun p hp => ⟨off p hp, (below _ (Heap.lt_size (N p hp).1)).1, (below _ (Heap.lt_size (N p hp).1)).2⟩
  have loop : ∀ s₃ : Shared, s₃ = { s₂ with heap := h₁, toks := s₂.toks + ([] : List (Str × Value)).length } →
      codeAny (model prog w) A (.compLoop (.ListComp elt [⟨.Tuple [.Name x₁ px, .Name x₂ px₂, .Name x₃ px₃] tk tp, iter, ifs, 0⟩] scope pos) 0 (.ref I) (.ref s₂.heap.objs.size) (compEnvC scope cl H2.objs.size env))
        (RR (.ref s₂.heap.objs.size) H2.objs.size) s₃ := by
    rintro s₃ rfl
    refine tupLoop
      (fun k s' => ∃ h' tk i ys m' news', s' = { s₂ with heap := h', toks := tk } ∧ i ≤ n ∧ k = n + 1 - i ∧ ys.length ≤ i ∧ St i h' ∧ Fr h₀ L h' m ∧ h'.Ns H2.objs.size m' ∧ News h₀ L h' ((s₂.heap.objs.size, lst ys) :: news') ∧
        Off3 I H2.objs.size s₂.heap.objs.size news' ∧ S news' ∧ J i ys news') ?_ (n + 1)
      ⟨h₁, _, 0, [], _, news, rfl, Nat.zero_le _, rfl, Nat.le_refl _, hst₁, F.keeps old, hns₁, fun p hp => ?_, off₀, hS, hJ⟩
    · rintro k s' ⟨h', tk, i, ys, m', news', rfl, hi, rfl, hyl, hst', F', hn', N', off', hS', hJ'⟩
      by_cases hlt : i < n
      · refine W.item i _ _ _ hlt hst' fun v h₂ tk₂ hPv hst₂ hk₂ => ?_
        obtain ⟨t, ot, v₁, v₂, v₃, nt, rfl, hmt, hct, hdt, R''⟩ := R i v ys news' hlt hPv hS' hJ'
        have off3 := off'.mem
        have N₂ : News h₀ L h₂ ((s₂.heap.objs.size, lst ys) :: news') := news_but N' hk₂ fun p hp => by
          rcases List.mem_cons.mp hp with rfl | hp
          · exact Ne.symm hDI
          · exact (off3 p hp).1
        have ht : IsTup h₂ t #[v₁, v₂, v₃] := ⟨ot, (N₂ _ (List.mem_cons_of_mem _ hmt)).1, hct, nt, hdt⟩
        obtain ⟨lI, jI, hLi⟩ := hLI _ _ hst₂
        refine wpAny_letOwnedTupleGo_listiter hLi ?_
        refine assign_Tuple_tuple hh ht rfl rfl fun h₅ he => ?_
        have he' : ∀ b o, h₂.get? b = some o → h₅.get? b = some o := fun b o e => he b o (Nat.ne_of_lt (Heap.lt_size e)) e
        refine assignInOrder_cons (wpAny_assign_Name (wpAny_storeName_local (lookup_relabel_local hx) ((hn'.at' fun o e => hk₂ _ o (by simpa using Ne.symm hCI) e).at' fun o e => he' _ o e) (fun h₆ hn₆ hs₆ => ?_) (by simp [compEnvC, relabel, hkind])))
        refine assignInOrder_cons (wpAny_assign_Name (wpAny_storeName_local (lookup_relabel_local hx₂) hn₆ (fun h₇ hn₇ hs₇ => ?_) (by simp [compEnvC, relabel, hkind])))
        refine assignInOrder_cons (wpAny_assign_Name (wpAny_storeName_local (lookup_relabel_local hx₃) hn₇ (fun h₃ hn₃ hs₃ => ?_) (by simp [compEnvC, relabel, hkind])))
        refine assignInOrder_nil ?_
        have old3 : ∀ b o, b ≠ H2.objs.size → h₂.get? b = some o → h₃.get? b = some o := fun b o hb e => hs₃.extBut b o hb (hs₇.extBut b o hb (hs₆.extBut b o hb (he' b o e)))
        have hst₃ : St (i + 1) h₃ := W.frame _ _ _ hst₂ fun b hb o e => old3 b o (fun q => hCf (by rw [← q]; exact hb)) e
        obtain ⟨oI, heI⟩ := hIo _ _ hst₃
        obtain ⟨oC, heC, hoC⟩ := ns_obj hn₃
        have F₃ : Fr h₀ L h₃ m := ((((fr_but F' hk₂ hIL hI₀).keeps he').change hs₆ hCL hC₀).change hs₇ hCL hC₀).change hs₃ hCL hC₀
        have N₃ : News h₀ L h₃ ((I, oI) :: (H2.objs.size, oC) :: (s₂.heap.objs.size, lst ys) :: news') := fun p hp => by
          rcases List.mem_cons.mp hp with rfl | hp
          · exact ⟨heI, Ne.symm hIL, hI₀⟩
          · rcases List.mem_cons.mp hp with rfl | hp
            · exact ⟨heC, hCL, hC₀⟩
            · have z := N₂ p hp
              refine ⟨old3 _ _ ?_ z.1, z.2⟩
              rcases List.mem_cons.mp hp with rfl | hp
              · exact hDC
              · exact (off3 p hp).2.1
        refine wpAny_mono (R'' I oI H2.objs.size oC s₂.heap.objs.size _ h₃ _ _ hoC (by simp [h12, h13]) (by simp [h23]) (by simp) F₃ N₃ off' ⟨hCI, hDI, Ne.symm hDC⟩) (fun ok s₄ h₄ => ?_) fun _ _ e => e
        cases ok with
        | true =>
          simp only [if_true] at h₄ ⊢
          refine wpAny_mono h₄ (fun y s₅ h₅ => ?_) fun _ _ e => e
          obtain ⟨h₄, tk₄, news₄, rfl, F₄, N₄, off₄, hS₄, R₄⟩ := h₅
          have zI := (N₄ (I, oI) List.mem_cons_self).1
          have zC := (N₄ (H2.objs.size, oC) (List.mem_cons_of_mem _ List.mem_cons_self)).1
          have zD := (N₄ (s₂.heap.objs.size, lst ys) (List.mem_cons_of_mem _ (List.mem_cons_of_mem _ List.mem_cons_self))).1
          have N₄' : News h₀ L h₄ news₄ := fun p hp => N₄ p (List.mem_cons_of_mem _ (List.mem_cons_of_mem _ (List.mem_cons_of_mem _ hp)))
          have hst₄ : St (i + 1) h₄ := hSt _ _ _ _ _ hst₃ heI zI F₄.keep N₄' hS₄
          refine append_at (hsz := by show ys.toArray.size ≤ sizeLine; rw [List.size_toArray]; exact Nat.le_trans (Nat.le_trans hyl hi) hsz) zD fun h₅ hs₅ hD₅ => ?_
          have off4 := off₄.mem
          refine ⟨n + 1 - (i + 1), by omega, h₅, tk₄, i + 1, ys ++ [y], _, news₄, rfl, hlt, rfl, by rw [List.length_append, List.length_singleton]; exact Nat.succ_le_succ hyl, W.frame _ _ _ hst₄ fun b hb o e => hs₅.extBut b o (fun q => hDf (q ▸ hb)) e, F₄.change hs₅ hDL hD₀,
            (hoC.ns zC).sameBut hs₅ (Ne.symm hDC), fun p hp => ?_, off₄, hS₄, R₄⟩
          rcases List.mem_cons.mp hp with rfl | hp
          · exact ⟨hD₅.trans (congrArg some (lst_snoc ys y)), hDL, hD₀⟩
          · exact ⟨hs₅.extBut _ _ (off4 p hp).2.2 (N₄' p hp).1, (N₄' p hp).2⟩
        | false =>
          simp only [Bool.false_eq_true, if_false] at h₄ ⊢
          obtain ⟨h₅, tk₄, news₄, rfl, F₄, N₄, off₄, hS₄, R₄⟩ := h₄
          have zI := (N₄ (I, oI) List.mem_cons_self).1
          have zC := (N₄ (H2.objs.size, oC) (List.mem_cons_of_mem _ List.mem_cons_self)).1
          have N₄' : News h₀ L h₅ news₄ := fun p hp => N₄ p (List.mem_cons_of_mem _ (List.mem_cons_of_mem _ (List.mem_cons_of_mem _ hp)))
          have hst₄ : St (i + 1) h₅ := hSt _ _ _ _ _ hst₃ heI zI F₄.keep N₄' hS₄
          refine ⟨n + 1 - (i + 1), by omega, h₅, tk₄, i + 1, ys, _, news₄, rfl, hlt, rfl, Nat.le_succ_of_le hyl, hst₄, F₄, hoC.ns zC, fun p hp => ?_, off₄, hS₄, R₄⟩
          rcases List.mem_cons.mp hp with rfl | hp
          · exact N₄ _ (List.mem_cons_of_mem _ (List.mem_cons_of_mem _ List.mem_cons_self))
          · exact N₄' p hp
      · obtain rfl : i = n := Nat.le_antisymm hi (Nat.not_lt.mp hlt)
        refine W.done _ _ _ hst' fun h₂ tk₂ hk₂ => ?_
        have off3 := off'.mem
        exact hRR _ _ h₂ tk₂ _ ys news' (fr_but F' hk₂ hIL hI₀) (news_but N' hk₂ fun p hp => by
          rcases List.mem_cons.mp hp with rfl | hp
          · exact Ne.symm hDI
          · exact (off3 p hp).1) off'.one (hn'.at' fun o e => hk₂ _ o (by simpa using Ne.symm hCI) e) hC₀ hD₀ hCL hDL (Ne.symm hDC) (fun p hp => (off3 p hp).2.1) hJ'
    · rcases List.mem_cons.mp hp with rfl | hp
      · exact ⟨hacc, hDL, hD₀⟩
      · exact ⟨old _ _ (N p hp).1, (N p hp).2⟩
  exact codeAny_compStart_list (loop _ rfl) (W.self 0 _ _ _ hst₁ (loop _ rfl))

/-- what the walk stops at: the source of a comprehension over triples is evaluated -/
structure Src3 (prog : Program) (w : World) (A : Around) (h₀ : Heap) (L : Addr) (m : Str → Option Value) (env : Env) (ifs : List PySem.Expr) (elt : PySem.Expr) (x₁ x₂ x₃ : Str) (scope : Scope) (cl : List (Str × Addr)) (Q : Value → Shared → Prop) (xv : Value) (s₁ : Shared) : Prop where
  out : ∃ ax its news J, xv = .ref ax ∧ A.handled = none ∧ Fr h₀ L s₁.heap m ∧ News h₀ L s₁.heap news ∧ SrcAt h₀ ax its news ∧ its.size ≤ sizeLine ∧ J 0 [] news ∧
    (∀ g, Turn3 prog w A h₀ L m env ifs elt x₁ x₂ x₃ scope cl { s₁ with heap := g } (SrcAt h₀ ax its) (fun i v => its[i]? = some v) its.size J) ∧ ∀ g ys news', J its.size ys news' → FinE h₀ L m { s₁ with heap := g } Q ys news'

theorem ListComp_3 {elt iter : PySem.Expr} {ifs : List PySem.Expr} {x₁ x₂ x₃ : Str} {px px₂ px₃ tp : Pos} {tk} {scope : Scope} {cl : List (Str × Addr)} {pos : Pos} {Q : Value → Shared → Prop} (F₀ : Fr h₀ L s.heap m)
    (hclos : closureFor scope env = pure cl) (hcell : ∀ y ∈ scope.names, y.2 ≠ .cell) (hkind : scope.kind = .function)
    (hnames : ∀ y ∈ scope.names, y.2 = .local → scope.names.lookup y.1 = some .local) (hx : scope.names.lookup x₁ = some .local) (hx₂ : scope.names.lookup x₂ = some .local) (hx₃ : scope.names.lookup x₃ = some .local) (h12 : x₁ ≠ x₂) (h13 : x₁ ≠ x₃) (h23 : x₂ ≠ x₃)
    (h : wpAny (model prog w) A (eval iter env) (Src3 prog w A h₀ L m env ifs elt x₁ x₂ x₃ scope cl Q) E s)
    (hs : ∀ x, foldedSetIterable iter env x = pure x := by intro _; rfl) :
    wpAny (model prog w) A (eval (.ListComp elt [⟨.Tuple [.Name x₁ px, .Name x₂ px₂, .Name x₃ px₃] tk tp, iter, ifs, 0⟩] scope pos) env) Q E s := by
  rw [eval_ListComp]
  refine wpAny_comprehension_free (use := none) rfl hs hclos hkind hnames (wpAny_mono h (fun xv s₁ h₁ => ?_) fun _ _ e => e)
  obtain ⟨ax, its, news, J, rfl, hh, F, N, S, hsz, hJ, R, Z⟩ := h₁.out
  have hl := S.list F.keep N
  have hlt : ax < s₁.heap.objs.size := by obtain ⟨_, e, _⟩ := hl; exact Heap.lt_size e
  refine wpAny_pyIter_list hl ?_
  have up : ∀ b o, s₁.heap.get? b = some o → (s₁.heap.push { cls := .type "list_iterator", data := .fields #[.ref ax, .int 0 0] }).get? b = some o := fun b o e => Heap.get?_push_of_some _ e
  refine block_3 (Walks.list hh s₁.heap.objs.size ax (Nat.ne_of_lt hlt) its) hsz (fun i h st => by obtain ⟨o, e, _⟩ := st.1; exact ⟨o, e⟩) list_st hcell hkind hx hx₂ hx₃ h12 h13 h23 hh (fun i h st => ⟨_, _, st.1⟩) ⟨⟨_, Heap.get?_push_size _ rfl, rfl, rfl⟩, hl.push _⟩ (fun b hb => ?_)
    (F.keeps up) (N.grown up) (Nat.ne_of_lt F.ns.lt) (next_is_new F) (fun p hp => Nat.ne_of_lt (Heap.lt_size (N p hp).1)) S (R _) hJ ?_
  · show b < (s₁.heap.push _).objs.size
    rw [Heap.size_push]
    rcases List.mem_cons.mp hb with rfl | hb
    · exact Nat.lt_succ_self _
    · rw [List.mem_singleton.mp hb]; exact Nat.lt_succ_of_lt hlt
  · intro D C h tk m' ys news' F' N' o1 hn hC₀ hD₀ hCL hDL hCD offC fin
    refine ⟨m', hn, fun h'' hs'' => Z s₁.heap _ _ fin D h'' tk (F'.change hs'' hCL hC₀) (fun p hp => ?_) o1⟩
    refine ⟨hs''.extBut _ _ ?_ (N' p hp).1, (N' p hp).2⟩
    rcases List.mem_cons.mp hp with rfl | hp
    · exact Ne.symm hCD
    · exact offC p hp
end
end Mine
open PySem PySem.Spec PySem.Calls PySem.W PyProof.Rows PyProof.V
set_option Elab.async false
set_option maxRecDepth 100000
set_option maxHeartbeats 8000000
namespace Mine
local macro_rules | `(tactic| walk_at $k:str) => `(tactic| ((rename StopAt $k => hS9); clear hS9; refine Stop.out ?_))




section
variable {prog : Program} {w : World} {A : Around} {E : Value → Shared → Prop} {s : Shared} {env : Env} {h₀ : Heap} {x : PySem.Str} {body : List Stmt} {Q : Flow → Shared → Prop}
abbrev dsS' (l : Addr) (rest : Led) (x : Str) (stored : List Str) (m₀ : Str → Option Value) (P : List Int → List Dat → Prop) (pre : List Int) : (Str → Option Value) → Led → Prop :=
  KstS (σ := DS) (dsLed l rest) (fun _ => []) (dsFacts l) x stored m₀ (fun pre c => P pre c.ds) pre
theorem rangeD' {r : Addr} {a₀ b₀ : Int} {t₀ u₀ v₀ : Tok} {m₀ : PySem.Str → Option Value} {l : Addr} {rest : Led} (stored : List Str) (P : List Int → List Dat → Prop)
    (hh : A.handled = none) (hr : IsRange s.heap r a₀ b₀ 1 t₀ u₀ v₀) (F : Fr h₀ env.locals s.heap m₀) (N : News h₀ env.locals s.heap ((l, W.listOf #[] 0) :: rest)) (hp : P [] [])
    (turn : ∀ (vs : List Value) (ds : List Dat) (ep : Nat) (tups : Led) (pre : List Int) (k : Int) t (u : Str → Option Value) h tk own, k = a₀ + (pre.length : Int) → k < b₀ → OwnOff own (l :: (rest ++ tups).map (·.1)) → DatAll tups vs ds → OwnOff tups [l] → P pre ds →
      Fr h₀ env.locals h (fun z => if z = x then some (.int k t) else if stored.contains z then u z else m₀ z) → News h₀ env.locals h ((l, W.listOf vs.toArray ep) :: (rest ++ (tups ++ own))) →
      wpAny (model prog w) A (execs body env) (InvPostG h₀ env.locals (dsS' l rest x stored m₀ P (pre ++ [k])) own { s with heap := h, toks := tk } Q) E { s with heap := h, toks := tk })
    (done : ∀ (vs : List Value) (ds : List Dat) (ep : Nat) (tups : Led) (u : PySem.Str → Option Value) h tk, DatAll tups vs ds → OwnOff tups [l] → P (rangeKs a₀ (b₀ - a₀).toNat) ds → Fr h₀ env.locals h (fun z => if z = x then u z else if stored.contains z then u z else m₀ z) → News h₀ env.locals h ((l, W.listOf vs.toArray ep) :: (rest ++ tups)) → Q .next { s with heap := h, toks := tk }) :
    wpAny (model prog w) A (pyIter (.ref r)) (fun it s₂ => LoopAtV prog w A h₀ env x body Q E it s₂) E s := by
  refine rangeG (σ := DS) (dsLed l rest) (fun _ => []) (dsFacts l) stored (fun pre c => P pre c.ds) ⟨[], [], 0, []⟩ hh hr F (by simpa [dsLed] using N) ⟨.nil, fun _ h => (nomatch h)⟩ (fun _ h => (nomatch h)) hp ?_ ?_
  · rintro ⟨vs, ds, ep, tups⟩ pre k t u h tk own hk hb hoff ⟨hd, ho⟩ hp' F' N'
    refine turn vs ds ep tups pre k t u h tk own hk hb (by simpa [dsLed] using hoff) hd ho hp' F' ?_
    simpa [dsLed, List.append_assoc] using N'
  · rintro ⟨vs, ds, ep, tups⟩ u h tk ⟨hd, ho⟩ hp' F' N'
    exact done vs ds ep tups u h tk hd ho hp' F' N'
theorem endRow' {l D : Addr} {rest : Led} {stored : List Str} {m₀ : Str → Option Value} {P : List Int → List Dat → Prop} {pre : List Int} {L : Addr} {m' : Str → Option Value} {own news' tups : Led} {s₁ : Shared} {h' : Heap} {tk : Nat} {vs : List Value} {ds : List Dat} {ep : Nat} {k a b : Int} {ti ta tb : Tok}
    (hd : DatAll tups vs ds) (hT : OwnOff tups [l]) (ha : OwnOff own (l :: (rest ++ tups).map (·.1))) (F : Fr h₀ L h' m') (N : News h₀ L h' news') (hm : (l, W.listOf (vs ++ [Value.ref D]).toArray ep) ∈ news') (hD : (D, ({ cls := .type "tuple", data := .seq #[.int k ti, .int a ta, .int b tb] } : Obj)) ∈ news') (hlt : l < D) (hown : ∀ p ∈ own, p.1 < D)
    (hp : P pre (ds ++ [rowD (k, a, b)])) (hn : ∀ p ∈ rest, p ∈ news') (ht : ∀ p ∈ tups, p ∈ news') (ho : ∀ p ∈ own, p ∈ news') (hr : ∀ z, z ≠ x → stored.contains z = false → m' z = m₀ z) :
    InvEndG h₀ L (dsS' l rest x stored m₀ P pre) own s₁ { s₁ with heap := h', toks := tk } :=
  endG (σ := DS) (Led := dsLed l rest) (ps := fun _ => []) (Facts := dsFacts l) ⟨vs ++ [Value.ref D], ds ++ [rowD (k, a, b)], ep, (D, _) :: tups⟩ F N (List.forall_mem_cons.mpr ⟨hm, List.forall_mem_append.mpr ⟨hn, List.forall_mem_cons.mpr ⟨hD, ht⟩⟩⟩) ho (offRow ha hown) ⟨datRow hd, offTup hT hlt⟩ (fun _ h => (nomatch h)) (fun z h1 _ h3 => hr z h1 h3) hp
end
theorem newsRow {h₀ h : Heap} {L : Addr} {t b : Led} {x : Addr × Obj} (N : News h₀ L h b) (hs : ∀ p ∈ t, p ∈ b) (hm : x ∈ t) : News h₀ L h (x :: b) := fun p hp => by
  rcases List.mem_cons.mp hp with rfl | hp
  · exact N _ (hs _ hm)
  · exact N p hp
theorem pick3 {h₀ h : Heap} {L : Addr} {nn : Led} {l t : Addr} {W1 W2 : WW} {S1 S2 : WS} {ys : List Value} {tab : List Int} (N : News h₀ L h nn) (_hT : IntsAre ys tab) (m1 : (l, W.listOf #[] 0) ∈ nn) (m2 : ∀ e ∈ W1.led S1, e ∈ nn) (m3 : ∀ e ∈ W2.led S2, e ∈ nn) (m4 : (t, LCg.lst ys) ∈ nn) :
    News h₀ L h ((l, W.listOf #[] 0) :: (W1.led S1 ++ (W2.led S2 ++ [(t, LCg.lst ys)]))) := by
  intro p hp
  rcases List.mem_cons.mp hp with rfl | hp
  · exact N _ m1
  · rcases List.mem_append.mp hp with hp | hp
    · exact N _ (m2 p hp)
    · rcases List.mem_append.mp hp with hp | hp
      · exact N _ (m3 p hp)
      · rw [List.mem_singleton.mp hp]; exact N _ m4


structure RetEnd (h₀ : Heap) (L : Addr) (s : Shared) (f : Flow) (s' : Shared) : Prop where
  out : f = .ret (.bool true) ∧ ∃ h tk m, s' = { s with heap := h, toks := tk } ∧ Fr h₀ L h m
theorem RetEnd.of {h₀ h : Heap} {L : Addr} {m : Str → Option Value} {s : Shared} {tk : Nat} (F : Fr h₀ L h m) : RetEnd h₀ L s (.ret (.bool true)) { s with heap := h, toks := tk } :=
  ⟨rfl, h, tk, m, rfl, F⟩
theorem body_cut {prog : Program} {w : World} {A : Around} {E : Value → Shared → Prop} {s : Shared} {h₀ : Heap} {L : Addr} {m : Str → Option Value} {c : Sem Flow} {Q : Flow → Shared → Prop} (F : Fr h₀ L s.heap m)
    (h1 : Fr h₀ L s.heap m → wpAny (model prog w) A c (RetEnd h₀ L s) (fun _ _ => False) s)
    (h2 : ∀ h tk m', Fr h₀ L h m' → Q (.ret (.bool true)) { s with heap := h, toks := tk }) : wpAny (model prog w) A c Q E s :=
  wpAny_mono (h1 F) (fun f s' hm => by
    obtain ⟨rfl, h, tk, m', rfl, F⟩ := hm.out
    exact h2 h tk m' F) fun _ _ h => h.elim
structure IfEnd (h₀ : Heap) (L : Addr) (m : Str → Option Value) (B : Led) (s : Shared) (f : Flow) (s' : Shared) : Prop where
  out : f = .next ∧ ∃ h tk, s' = { s with heap := h, toks := tk } ∧ Fr h₀ L h m ∧ News h₀ L h B
theorem IfEnd.of {h₀ h : Heap} {L : Addr} {m : Str → Option Value} {B nn : Led} {s : Shared} {tk : Nat} (F : Fr h₀ L h m) (N : News h₀ L h nn) (hs : ∀ p ∈ B, p ∈ nn) : IfEnd h₀ L m B s .next { s with heap := h, toks := tk } :=
  ⟨rfl, h, tk, rfl, F, newsSub N hs⟩
theorem if_cut {prog : Program} {w : World} {A : Around} {E : Value → Shared → Prop} {s : Shared} {h₀ : Heap} {L : Addr} {m : Str → Option Value} {B : Led} {st : Stmt} {env : Env} {Q : Flow → Shared → Prop}
    (F : Fr h₀ L s.heap m) (N : News h₀ L s.heap B)
    (h1 : Fr h₀ L s.heap m → News h₀ L s.heap B → wpAny (model prog w) A (exec st env) (IfEnd h₀ L m B s) (fun _ _ => False) s)
    (h2 : ∀ h tk, Fr h₀ L h m → News h₀ L h B → Q .next { s with heap := h, toks := tk }) :
    wpAny (model prog w) A (exec st env) Q E s :=
  wpAny_mono (h1 F N) (fun f s' hm => by
    obtain ⟨rfl, h, tk, rfl, F, N⟩ := hm.out
    exact h2 h tk F N) fun _ _ h => h.elim
open LCg in
theorem src3_of {w : World} {prog : Program} {A : Around} {h₀ : Heap} {L : Addr} {m : Str → Option Value} {env : Env} {ifs : List PySem.Expr} {elt : PySem.Expr} {x₁ x₂ x₃ : Str} {scope : Scope} {cl : List (Str × Addr)} {Q : Value → Shared → Prop} {s₁ : Shared} {lR : Addr} {vsR : List Value} {epR : Nat} {l : List Int} {S1 S2 : WS} {tupR B : Led} (J : Nat → List Value → Led → Prop)
    (hdR : DatAll tupR vsR ((l.map (rowAt S1 S2)).map rowD)) (hl : l.length ≤ 1000) (hh : A.handled = none) (F : Fr h₀ L s₁.heap m) (N : News h₀ L s₁.heap B) (hm : (lR, W.listOf vsR.toArray epR) ∈ B) (hs : ∀ p ∈ tupR, p ∈ B) (hJ : J 0 [] B) (hJB : ∀ i ys nx, J i ys nx → ∀ p ∈ B, p ∈ nx)
    (turn : ∀ g i ys nx z q₁ q₂ q₃ I oI C oC D m₂ h tk (E' : Value → Shared → Prop), l[i]? = some z → J i ys nx → SrcAt h₀ lR vsR.toArray nx → NsObj oC m₂ → m₂ x₁ = some (.int z q₁) → m₂ x₂ = some (.int (level S1 z) q₂) → m₂ x₃ = some (.int (level S2 z) q₃) → Fr h₀ L h m → News h₀ L h ((I, oI) :: (C, oC) :: (D, lst ys) :: nx) → Off3 I C D nx → ((@Ne Nat I C) ∧ (@Ne Nat I D) ∧ (@Ne Nat C D)) →
      wpAny (model prog w) A (testsOf (compEnvC scope cl C env) ifs) (fun ok s' => if ok = true then
        wpAny (model prog w) A (eval elt (compEnvC scope cl C env)) (CompEnd h₀ L m { { s₁ with heap := g } with heap := h, toks := tk } I oI C oC D (lst ys) (SrcAt h₀ lR vsR.toArray) (fun y news' => J (i + 1) (ys ++ [y]) news')) E' s'
        else CompEnd h₀ L m { { s₁ with heap := g } with heap := h, toks := tk } I oI C oC D (lst ys) (SrcAt h₀ lR vsR.toArray) (fun _ news' => J (i + 1) ys news') Value.none s') E' { { s₁ with heap := g } with heap := h, toks := tk })
    (done : ∀ g ys nx, J l.length ys nx → FinE h₀ L m { s₁ with heap := g } Q ys nx) :
    Src3 prog w A h₀ L m env ifs elt x₁ x₂ x₃ scope cl Q (.ref lR) s₁ := by
  have hsz : vsR.toArray.size = l.length := by rw [List.size_toArray, hdR.length, List.length_map, List.length_map]
  refine ⟨lR, vsR.toArray, B, J, rfl, hh, F, N, .inr ⟨_, hm, rfl, _, rfl⟩, by rw [hsz, sizeLine_eq]; omega, hJ, ?_, ?_⟩
  · intro g i v ys nx hi hP hS hj
    obtain ⟨d8, hd1, hd2⟩ := datGet hdR hP
    obtain ⟨z8, hz8, e8⟩ := row_at hd1
    subst e8
    obtain ⟨a8, n8, q1, q2, q3, e8, hm8⟩ := row_open hd2
    subst e8
    refine ⟨a8, _, _, _, _, n8, rfl, hJB _ _ _ hj _ (hs _ hm8), rfl, rfl, ?_⟩
    intro I oI C oC D m₂ h tk E' hC h1 h2 h3 F N off ne
    exact turn g i ys nx z8 q1 q2 q3 I oI C oC D m₂ h tk E' hz8 hj hS hC h1 h2 h3 F N off ne
  · intro g ys nx hj
    rw [hsz] at hj
    exact done g ys nx hj
open LCg in
/-- a comprehension over the rows that makes rows -/
abbrev J3 (l : List Int) (p : Int → Bool) (f : Int → Int × Int × Int) (B : Led) (i : Nat) (ys : List Value) (nx : Led) : Prop := ∃ tups, nx = tups ++ B ∧ DatAll tups ys (((l.take i).filter p).map fun z => rowD (f z))
open LCg in
theorem src3_D {w : World} {prog : Program} {A : Around} {h₀ : Heap} {L : Addr} {m : Str → Option Value} {env : Env} {ifs : List PySem.Expr} {elt : PySem.Expr} {x₁ x₂ x₃ : Str} {scope : Scope} {cl : List (Str × Addr)} {Q : Value → Shared → Prop} {s₁ : Shared} {lR : Addr} {vsR : List Value} {epR : Nat} {l : List Int} {S1 S2 : WS} {tupR B : Led} (p : Int → Bool) (f : Int → Int × Int × Int)
    (hdR : DatAll tupR vsR ((l.map (rowAt S1 S2)).map rowD)) (hl : l.length ≤ 1000) (hh : A.handled = none) (F : Fr h₀ L s₁.heap m) (N : News h₀ L s₁.heap B) (hm : (lR, W.listOf vsR.toArray epR) ∈ B) (hs : ∀ p ∈ tupR, p ∈ B)
    (turn : ∀ g i ys tups z q₁ q₂ q₃ I oI C oC D m₂ h tk (E' : Value → Shared → Prop), l[i]? = some z → DatAll tups ys (((l.take i).filter p).map fun z => rowD (f z)) → NsObj oC m₂ → m₂ x₁ = some (.int z q₁) → m₂ x₂ = some (.int (level S1 z) q₂) → m₂ x₃ = some (.int (level S2 z) q₃) → Fr h₀ L h m → News h₀ L h ((I, oI) :: (C, oC) :: (D, lst ys) :: (tups ++ B)) → Off3 I C D (tups ++ B) → SrcAt h₀ lR vsR.toArray (tups ++ B) → ((@Ne Nat I C) ∧ (@Ne Nat I D) ∧ (@Ne Nat C D)) →
      wpAny (model prog w) A (testsOf (compEnvC scope cl C env) ifs) (fun ok s' => if ok = true then
        wpAny (model prog w) A (eval elt (compEnvC scope cl C env)) (CompEnd h₀ L m { { s₁ with heap := g } with heap := h, toks := tk } I oI C oC D (lst ys) (SrcAt h₀ lR vsR.toArray) (fun y news' => J3 l p f B (i + 1) (ys ++ [y]) news')) E' s'
        else CompEnd h₀ L m { { s₁ with heap := g } with heap := h, toks := tk } I oI C oC D (lst ys) (SrcAt h₀ lR vsR.toArray) (fun _ news' => J3 l p f B (i + 1) ys news') Value.none s') E' { { s₁ with heap := g } with heap := h, toks := tk })
    (done : ∀ g ys tups, DatAll tups ys ((l.filter p).map fun z => rowD (f z)) → FinE h₀ L m { s₁ with heap := g } Q ys (tups ++ B)) :
    Src3 prog w A h₀ L m env ifs elt x₁ x₂ x₃ scope cl Q (.ref lR) s₁ := by
  refine src3_of (J3 l p f B) hdR hl hh F N hm hs ⟨[], rfl, .nil⟩ (fun i ys nx hj q hq => ?_) ?_ ?_
  · obtain ⟨tups, rfl, _⟩ := hj
    exact List.mem_append.mpr (.inr hq)
  · rintro g i ys nx z q₁ q₂ q₃ I oI C oC D m₂ h tk E' hz ⟨tups, rfl, hj⟩ hS hC h1 h2 h3 F N off ne
    exact turn g i ys tups z q₁ q₂ q₃ I oI C oC D m₂ h tk E' hz hj hC h1 h2 h3 F N off hS ne
  · rintro g ys nx ⟨tups, rfl, hj⟩
    rw [List.take_length] at hj
    exact done g ys tups hj
open LCg in
theorem end3_yes {h₀ : Heap} {L I C D D' lR : Addr} {m : Str → Option Value} {s₁ : Shared} {oI oC : Obj} {h' : Heap} {tk : Nat} {all tups B : Led} {l : List Int} {p : Int → Bool} {f : Int → Int × Int × Int} {i : Nat} {z : Int} {ys : List Value} {its : Array Value} {t₁ t₂ t₃ : Tok}
    (F : Fr h₀ L h' m) (N : News h₀ L h' all) (hz : l[i]? = some z) (hj : DatAll tups ys (((l.take i).filter p).map fun z => rowD (f z))) (hS : SrcAt h₀ lR its (tups ++ B)) (off : Off3 I C D (tups ++ B)) (hp : p z = true)
    (hD : (D', ({ cls := .type "tuple", data := .seq #[.int (f z).1 t₁, .int (f z).2.1 t₂, .int (f z).2.2 t₃] } : Obj)) ∈ all) (sub : ∀ p ∈ (I, oI) :: (C, oC) :: (D, lst ys) :: (tups ++ B), p ∈ all) (ne : I < D' ∧ C < D' ∧ D < D') :
    CompEnd h₀ L m s₁ I oI C oC D (lst ys) (SrcAt h₀ lR its) (fun y news' => J3 l p f B (i + 1) (ys ++ [y]) news') (.ref D') { s₁ with heap := h', toks := tk } := by
  refine CompEnd.intro F N ((D', ({ cls := .type "tuple", data := .seq #[.int (f z).1 t₁, .int (f z).2.1 t₂, .int (f z).2.2 t₃] } : Obj)) :: (tups ++ B)) ?_ ⟨⟨Ne.symm (Nat.ne_of_lt ne.1), Ne.symm (Nat.ne_of_lt ne.2.1), Ne.symm (Nat.ne_of_lt ne.2.2)⟩, off⟩ ?_ ⟨_ :: tups, rfl, ?_⟩
  · intro q hq
    rcases List.mem_cons.mp hq with rfl | hq
    · exact sub _ (.head _)
    · rcases List.mem_cons.mp hq with rfl | hq
      · exact sub _ (.tail _ (.head _))
      · rcases List.mem_cons.mp hq with rfl | hq
        · exact sub _ (.tail _ (.tail _ (.head _)))
        · rcases List.mem_cons.mp hq with rfl | hq
          · exact hD
          · exact sub _ (.tail _ (.tail _ (.tail _ hq)))
  · rcases hS with hS | ⟨o, ho, r⟩
    · exact .inl hS
    · exact .inr ⟨o, .tail _ ho, r⟩
  · rw [flt_yes hz hp]
    exact datRow hj
open LCg in
theorem end3_no {h₀ : Heap} {L I C D lR : Addr} {m : Str → Option Value} {s₁ : Shared} {oI oC : Obj} {h' : Heap} {tk : Nat} {all tups B : Led} {l : List Int} {p : Int → Bool} {f : Int → Int × Int × Int} {i : Nat} {z : Int} {ys : List Value} {its : Array Value} {y : Value}
    (F : Fr h₀ L h' m) (N : News h₀ L h' all) (hz : l[i]? = some z) (hj : DatAll tups ys (((l.take i).filter p).map fun z => rowD (f z))) (hS : SrcAt h₀ lR its (tups ++ B)) (off : Off3 I C D (tups ++ B)) (hp : p z = false)
    (sub : ∀ p ∈ (I, oI) :: (C, oC) :: (D, lst ys) :: (tups ++ B), p ∈ all) :
    CompEnd h₀ L m s₁ I oI C oC D (lst ys) (SrcAt h₀ lR its) (fun _ news' => J3 l p f B (i + 1) ys news') y { s₁ with heap := h', toks := tk } := by
  refine CompEnd.intro F N (tups ++ B) sub off hS ⟨tups, rfl, ?_⟩
  rw [flt_no hz hp]
  exact hj
theorem newsDrop {h₀ h : Heap} {L : Addr} {a : Addr × Obj} {t X : Led} (N : News h₀ L h (a :: (t ++ X))) : News h₀ L h X := fun p hp => N p (.tail _ (List.mem_append.mpr (.inr hp)))
open LCg in
/-- a comprehension over the rows that makes ints -/
theorem src3_I {w : World} {prog : Program} {A : Around} {h₀ : Heap} {L : Addr} {m : Str → Option Value} {env : Env} {elt : PySem.Expr} {x₁ x₂ x₃ : Str} {scope : Scope} {cl : List (Str × Addr)} {Q : Value → Shared → Prop} {s₁ : Shared} {lR : Addr} {vsR : List Value} {epR : Nat} {l : List Int} {S1 S2 : WS} {tupR B : Led} (f : Int → Int)
    (hdR : DatAll tupR vsR ((l.map (rowAt S1 S2)).map rowD)) (hl : l.length ≤ 1000) (hh : A.handled = none) (F : Fr h₀ L s₁.heap m) (N : News h₀ L s₁.heap B) (hm : (lR, W.listOf vsR.toArray epR) ∈ B) (hs : ∀ p ∈ tupR, p ∈ B)
    (turn : ∀ g i ys z q₁ q₂ q₃ I oI C oC D m₂ h tk (E' : Value → Shared → Prop), l[i]? = some z → IntsAre ys ((l.take i).map f) → NsObj oC m₂ → m₂ x₁ = some (.int z q₁) → m₂ x₂ = some (.int (level S1 z) q₂) → m₂ x₃ = some (.int (level S2 z) q₃) → Fr h₀ L h m → News h₀ L h ((I, oI) :: (C, oC) :: (D, lst ys) :: B) → Off3 I C D B → SrcAt h₀ lR vsR.toArray B → ((@Ne Nat I C) ∧ (@Ne Nat I D) ∧ (@Ne Nat C D)) →
        wpAny (model prog w) A (eval elt (compEnvC scope cl C env)) (CompEnd h₀ L m { { s₁ with heap := g } with heap := h, toks := tk } I oI C oC D (lst ys) (SrcAt h₀ lR vsR.toArray) (fun y news' => news' = B ∧ IntsAre (ys ++ [y]) ((l.take (i + 1)).map f))) E' { { s₁ with heap := g } with heap := h, toks := tk })
    (done : ∀ g ys, IntsAre ys (l.map f) → FinE h₀ L m { s₁ with heap := g } Q ys B) :
    Src3 prog w A h₀ L m env [] elt x₁ x₂ x₃ scope cl Q (.ref lR) s₁ := by
  refine src3_of (fun i ys nx => nx = B ∧ IntsAre ys ((l.take i).map f)) hdR hl hh F N hm hs ⟨rfl, .nil⟩ (fun i ys nx hj q hq => ?_) ?_ ?_
  · obtain ⟨rfl, _⟩ := hj
    exact hq
  · rintro g i ys nx z q₁ q₂ q₃ I oI C oC D m₂ h tk E' hz ⟨rfl, hj⟩ hS hC h1 h2 h3 F N off ne
    refine wpAny_tests_nil ?_
    rw [if_pos rfl]
    exact turn g i ys z q₁ q₂ q₃ I oI C oC D m₂ h tk E' hz hj hC h1 h2 h3 F N off hS ne
  · rintro g ys nx ⟨rfl, hj⟩
    rw [List.take_length] at hj
    exact done g ys hj
open LCg in
theorem end3_int {h₀ : Heap} {L I C D lR : Addr} {m : Str → Option Value} {s₁ : Shared} {oI oC : Obj} {h' : Heap} {tk : Nat} {all B : Led} {l : List Int} {f : Int → Int} {i : Nat} {z : Int} {ys : List Value} {its : Array Value} {t : Tok}
    (F : Fr h₀ L h' m) (N : News h₀ L h' all) (hz : l[i]? = some z) (hj : IntsAre ys ((l.take i).map f)) (hS : SrcAt h₀ lR its B) (off : Off3 I C D B)
    (sub : ∀ p ∈ (I, oI) :: (C, oC) :: (D, lst ys) :: B, p ∈ all) :
    CompEnd h₀ L m s₁ I oI C oC D (lst ys) (SrcAt h₀ lR its) (fun y news' => news' = B ∧ IntsAre (ys ++ [y]) ((l.take (i + 1)).map f)) (.int (f z) t) { s₁ with heap := h', toks := tk } := by
  refine CompEnd.intro F N B sub off hS ⟨rfl, ?_⟩
  rw [List.take_add_one, hz, List.map_append]
  exact ints_snoc hj
theorem isnot_same {prog : Program} {w : World} {A : Around} {E : Value → Shared → Prop} {s : Shared} {Q : Value → Shared → Prop} {c d : Bool} (e : c = d) (h : Q (.bool false) s) : wpAny (model prog w) A (compareOp .IsNot (.bool c) (.bool d)) Q E s := by
  refine isnot_bool ?_
  rw [e, bne_self_eq_false]
  exact h
theorem same_bool {b : Bool} {P : Prop} [Decidable P] (h : b = true ↔ P) : b = decide P := by
  rw [Bool.eq_iff_iff, h, decide_eq_true_eq]
theorem min_pos {S1 S2 : WS} {l : List Int} {M : Int} (h1 : M ∈ l.map fun z => level S2 z - level S1 z) (h2 : ∀ a, a ∈ (l.map fun z => level S2 z - level S1 z) → M ≤ a) : (∀ z ∈ l, level S1 z < level S2 z) ↔ M > 0 := by
  constructor
  · intro h
    obtain ⟨z, hz, rfl⟩ := List.mem_map.mp h1
    have := h z hz
    omega
  · intro h z hz
    have := h2 _ (List.mem_map.mpr ⟨z, hz, rfl⟩)
    omega
theorem max_neg {S1 S2 : WS} {l : List Int} {M : Int} (h1 : M ∈ l.map fun z => level S2 z - level S1 z) (h2 : ∀ a, a ∈ (l.map fun z => level S2 z - level S1 z) → a ≤ M) : (∀ z ∈ l, level S2 z < level S1 z) ↔ M < 0 := by
  constructor
  · intro h
    obtain ⟨z, hz, rfl⟩ := List.mem_map.mp h1
    have := h z hz
    omega
  · intro h z hz
    have := h2 _ (List.mem_map.mpr ⟨z, hz, rfl⟩)
    omega
theorem same_iff {b c : Bool} {P : Prop} (h1 : b = true ↔ P) (h2 : c = true ↔ P) : b = c := by
  rw [Bool.eq_iff_iff, h1, h2]
theorem datNil {l : List (Int × Int × Int)} : Dat.list (l.map rowD) = Dat.list [] ↔ l = [] := by
  simp
section
variable {prog : Program} {w : World} {A : Around} {E : Value → Shared → Prop} {s : Shared} {h₀ : Heap} {L : Addr} {Q : Value → Shared → Prop} {news : Led}
theorem itemLast {value slice : PySem.Expr} {l : Addr} {vs : List Value} {ns : List Int} {ep : Nat} {u : Tok} (N : News h₀ L s.heap news) (hm : (l, W.listOf vs.toArray ep) ∈ news) (hi : IntsAre vs ns) (h1 : 1 ≤ ns.length)
    (h : ∀ tk, Q (.int (ns.getD (ns.length - 1) 0) tk) s)
    (hs : subscripted slice false (.ref l) (.int (-1) u) = operate [.ref l, .int (-1) u] (getItem (.ref l) (.int (-1) u)) := by with_unfolding_all rfl)
    (hg : ∀ r, letTemporaryGo value (.ref l) r = pure () := by intro _; with_unfolding_all rfl) :
    wpAny (model prog w) A (subscriptTail value slice (.ref l) (.int (-1) u)) Q E s := by
  refine item_list_ints_neg (News.isList N hm) hi (by decide) (by omega) (by decide) (fun t => ?_) hs hg
  have e : ((-1 : Int) + (ns.length : Int)).toNat = ns.length - 1 := by omega
  rw [e]
  exact h t
end
theorem row_last {tab : List Int} (h : Row tab) : -1 ≤ tab.getD (tab.length - 1) 0 ∧ tab.getD (tab.length - 1) 0 ≤ 1 := by
  have hl : tab.length - 1 < tab.length := by have := h.1; omega
  rw [List.getD_eq_getElem?_getD, List.getElem?_eq_getElem hl]
  exact h.2.2 _ (List.getElem_mem hl)
theorem mulRow {tab : List Int} {a : Int} (h : Row tab) : IntMulOk a (tab.getD (tab.length - 1) 0) := by
  have := row_last h
  exact .of_right (intBits_le_64 (by omega) (by omega))
theorem datTwo {a b c d : Int} (h : a = c ∧ b = d) : Dat.list [.int a, .int b] = Dat.list [.int c, .int d] := by rw [h.1, h.2]
local macro_rules | `(tactic| mul_fits) => `(tactic| exact mulRow (by assumption))
def MidN (h₀ : Heap) (L : Addr) (m0 : Str → Option Value) (s s' : Shared) : Prop :=
  ∃ h tk lN vsN nsN ep, s' = { s with heap := h, toks := tk } ∧ Fr h₀ L h (fun y => if y = Str.ofString "numbers" then some (.ref lN) else m0 y) ∧ News h₀ L h [(lN, W.listOf vsN.toArray ep)] ∧ IntsAre vsN nsN ∧ 1 ≤ nsN.length ∧ nsN.length ≤ 63
theorem MidN.of {h₀ : Heap} {L : Addr} {m0 m' : Str → Option Value} {s : Shared} {h : Heap} {tk : Nat} {lN : Addr} {vsN : List Value} {nsN : List Int} {ep : Nat} {news : Led} (F : Fr h₀ L h m') (N : News h₀ L h news) (hm : m' (Str.ofString "numbers") = some (.ref lN)) (hr : ∀ z, z ≠ Str.ofString "numbers" → m' z = m0 z)
    (hl : (lN, W.listOf vsN.toArray ep) ∈ news) (hi : IntsAre vsN nsN) (h1 : 1 ≤ nsN.length) (h2 : nsN.length ≤ 63) : MidN h₀ L m0 s { s with heap := h, toks := tk } := by
  refine ⟨h, tk, lN, vsN, nsN, ep, rfl, ?_, fun p hp => ?_, hi, h1, h2⟩
  · have e : (fun y => if y = Str.ofString "numbers" then some (.ref lN) else m0 y) = m' := by
      funext y
      by_cases hy : y = Str.ofString "numbers"
      · rw [if_pos hy, hy, hm]
      · rw [if_neg hy, hr y hy]
    rw [e]; exact F
  · rw [List.mem_singleton.mp hp]; exact N _ hl

theorem fmod_bd (a b : Int) (hb : 0 < b) : 0 ≤ a.fmod b ∧ a.fmod b < b := by
  rw [Int.fmod_eq_emod_of_nonneg _ (Int.le_of_lt hb)]
  exact ⟨Int.emod_nonneg _ (by omega), Int.emod_lt_of_pos _ hb⟩
theorem tab_row (ns : List Int) (h : 1 ≤ ns.length) : Row (List.map (fun k' => k'.fmod 3 - 1) (List.take 7 ns)) := by
  refine ⟨by simp; omega, by simp; omega, fun t ht => ?_⟩
  obtain ⟨k, _, rfl⟩ := List.mem_map.mp ht
  have := fmod_bd k 3 (by decide)
  omega
theorem both_bd (l : List Int) : ∀ r ∈ List.map (fun k' => k'.fmod 4) l, 0 ≤ r ∧ r ≤ 3 := by
  intro r hr
  obtain ⟨k, _, rfl⟩ := List.mem_map.mp hr
  have := fmod_bd k 4 (by decide)
  omega
theorem apart_bd (a : Int) : -2 ≤ (a.fdiv 7 + 2).fmod 5 - 2 ∧ (a.fdiv 7 + 2).fmod 5 - 2 ≤ 2 := by
  have := fmod_bd (a.fdiv 7 + 2) 5 (by decide)
  omega
theorem blanks_bd (a : Int) : 0 ≤ (a.fdiv 35).fmod 3 ∧ (a.fdiv 35).fmod 3 ≤ 2 := by
  have := fmod_bd (a.fdiv 35) 3 (by decide)
  omega
theorem both_len (ns : List Int) : (List.map (fun k' : Int => k'.fmod 4) (List.take (min 10 ns.length - 7) (List.drop 7 ns))).length ≤ 3 := by
  simp; omega

theorem mid_if {prog : Program} {w : World} {A : Around} {E : Value → Shared → Prop} {s : Shared} {h₀ : Heap} {L : Addr} {m0 : Str → Option Value} {v0 : Value} {st : Stmt} {env : Env} {Q : Flow → Shared → Prop}
    (_F : Fr h₀ L s.heap (fun y => if y = Str.ofString "numbers" then some v0 else m0 y))
    (h1 : wpAny (model prog w) A (exec st env) (fun f s' => f = .next ∧ MidN h₀ L m0 s s') E s)
    (h2 : ∀ h tk lN vsN nsN ep, Fr h₀ L h (fun y => if y = Str.ofString "numbers" then some (.ref lN) else m0 y) → News h₀ L h [(lN, W.listOf vsN.toArray ep)] → IntsAre vsN nsN → 1 ≤ nsN.length → nsN.length ≤ 63 → Q .next { s with heap := h, toks := tk }) :
    wpAny (model prog w) A (exec st env) Q E s :=
  wpAny_mono h1 (fun f s' hm => by
    obtain ⟨rfl, h, tk, lN, vsN, nsN, ep, rfl, F, N, hi, a1, a2⟩ := hm
    exact h2 h tk lN vsN nsN ep F N hi a1 a2) fun _ _ h => h

theorem main_01 : PySem.Challenge.rw_pe0294_01.Holds := Mine.hd (by
  k_go0
  (all_goals try k_fold)
  rename Fr _ _ _ _ => lF0
  refine body_cut lF0 ?body ?endq
  case endq =>
    clear lF0
    intro h6 tk6 m6 F6
    k_steps
  clear lF0
  intro F7
  have hStop : StopAt "exec If" := ⟨⟩
  k_steps
  refine Stop.mk ?_
  rename Fr _ _ _ _ => lF
  rename News _ _ _ _ => lN
  rename Heap.CodeRec _ _ _ => lX1
  rename Dflts _ _ _ _ _ _ => lX2
  clear lX1 lX2
  refine mid_if lF ?br ?rest
  case br =>
    k_steps
    case _ =>
      rename Fr _ _ _ _ => eF
      rename News _ _ _ _ => eN
      refine MidN.of eF eN rfl (by intro z hz; simp [hz]) (List.Mem.head _) (nsN := [1, 2, 0, 1, 2, 2, 0]) (by repeat' constructor) (by decide) (by decide)
    case _ =>
      rename Fr _ _ _ _ => eF
      rename News _ _ _ _ => eN
      rename IntsAre _ (List.take 63 _) => eI
      rename (decide _ = false) => e1
      refine MidN.of eF eN rfl (by intro z hz; simp [hz]) (List.Mem.tail _ (List.Mem.head _)) eI ?_ (by rw [List.length_take]; omega)
      have e2 := of_decide_eq_false e1
      exact Nat.pos_of_ne_zero fun h => e2 (List.eq_nil_of_length_eq_zero h)
  case rest =>
    clear lF lN
    intro h9 tk9 ln vsN nsN ep9 F9 N9 hiN hn1 hn2
    have hStop : StopAt "call ref" := ⟨⟩
    try dsimp only
    k_steps
    refine Stop.mk ?_
    rename Fr _ _ _ _ => lF
    rename News _ _ _ _ => lN
    rename IntsAre _ (List.map _ (List.take 7 nsN)) => hiT
    rename IntsAre _ (List.map _ (List.take (min 10 _ - 7) _)) => hiB
    dsimp only at lF lN
    have hRow := tab_row nsN hn1
    have hBb := both_bd (List.take (min 10 nsN.length - 7) (List.drop 7 nsN))
    have hBl := both_len nsN
    have hAp := apart_bd nsN.sum
    have hBk := blanks_bd nsN.sum
    generalize List.map (fun k' => k'.fmod 3 - 1) (List.take 7 nsN) = tab at hiT hRow
    generalize List.map (fun k' => k'.fmod 4) (List.take (min 10 nsN.length - 7) (List.drop 7 nsN)) = both at hiB hBb hBl
    generalize (nsN.sum.fdiv 7 + 2).fmod 5 - 2 = apart at lF hAp
    generalize (nsN.sum.fdiv 35).fmod 3 = blanks at lF hBk
    have hbd := bd_row hRow
    k_dflt (refine' ctr_use (runs_ctr _ _ _ _ tab ?m hiT hRow.1 (by have := hRow.2.1; omega) (fun i => by have := hbd i; omega)) ?k1 lF ?k3 lN ?k5 ?kK ?kd ?ku ?_; (case k1 => k_asm); (case k3 => k_asm); (case k5 => k_asm); (case kK => first | exact rfl | assumption); (case kd => ktr_room); (case ku => ktr_units); (case m => k_mem))
    intro r9 n9 h8 tk8 ho F8 N8
    obtain ⟨D, F1, S1, vf, wf, ef, eg, eh, e1, hif, hiw, e2⟩ := ho
    subst e1
    subst e2
    clear lF lN
    have hlen := row_lens hRow
    have hcs := row_colsum hRow
    have hfr := row_first hRow
    have hsc := row_second hRow
    have hzr := row_zero hRow
    generalize firstOf (mostL tab) (rangeKs 0 tab.length) = fr at hif hlen hcs hfr hzr
    generalize secondOf (mostL tab) (rangeKs 0 tab.length) = sc at hiw hlen hcs hsc hzr
    have hlf := hif.length
    have hls := hiw.length
    have hlb := hiB.length
    obtain ⟨hlen1, hlen2⟩ := hlen
    clear hbd
    have kMk := kstMark
    try dsimp only
    have hStop : StopAt "subscriptTail Name Slice ref ref" := ⟨⟩
    k_steps
    refine Stop.mk ?_
    k_dflt (refine' krv_ints ?Fu1 ?Nu1 ?lu1 ?ku1 ?iu1 ?_ ?su1 ?tu1 ?zu1; (case Fu1 => k_asm); (case Nu1 => k_asm); (case lu1 => exact News.isList (by k_asm) (by k_mem)); (case ku1 => exact IsPart.int _ _); (case iu1 => assumption); (case su1 => with_unfolding_all rfl); (case tu1 => kmk_pure); (case zu1 => (rw [List.size_toArray, sizeLine_eq]; omega)))
    intro D' ws' h' F' N' l1 hI' hC'
    have hl' := IntsAre.length hI'
    (try k_lt l1)
    (try k_sweep)
    have hStop : StopAt "subscriptTail Name Slice ref ref" := ⟨⟩
    k_steps
    refine Stop.mk ?_
    k_dflt (refine' krv_ints ?Fu2 ?Nu2 ?lu2 ?ku2 ?iu2 ?_ ?su2 ?tu2 ?zu2; (case Fu2 => k_asm); (case Nu2 => k_asm); (case lu2 => exact News.isList (by k_asm) (by k_mem)); (case ku2 => exact IsPart.int _ _); (case iu2 => assumption); (case su2 => with_unfolding_all rfl); (case tu2 => kmk_pure); (case zu2 => (rw [List.size_toArray, sizeLine_eq]; omega)))
    intro D' ws' h' F' N' l1 hI' hC'
    have hl' := IntsAre.length hI'
    (try k_lt l1)
    (try k_sweep)
    have hStop : StopAt "call ref" := ⟨⟩
    k_steps
    refine Stop.mk ?_
    have hR1 : ∀ r ∈ fr.reverse ++ both.reverse, 0 ≤ r ∧ r ≤ 100 := by
      intro r hr
      rcases List.mem_append.mp hr with hr | hr
      · have := hfr r (List.mem_reverse.mp hr); omega
      · have := hBb r (List.mem_reverse.mp hr); omega
    have hR2 : ∀ r ∈ both ++ sc, 0 ≤ r ∧ r ≤ 100 := by
      intro r hr
      rcases List.mem_append.mp hr with hr | hr
      · have := hBb r hr; omega
      · have := hsc r hr; omega
    have hL1 : (fr.reverse ++ both.reverse).length ≤ 1000 := by rw [List.length_append, List.length_reverse, List.length_reverse]; omega
    have hL2 : (both ++ sc).length ≤ 1000 := by rw [List.length_append]; omega
    -- lead
    rename Fr _ _ _ _ => lF
    rename News _ _ _ _ => lN
    k_dflt (refine' ctr_use (lead_ctr _ _ _ _ _ _ _ ?m ?i hL1 hR1 ?b0 ?b1) ?k1 lF ?k3 lN ?k5 ?kK ?kd ?ku ?_; (case k1 => k_asm); (case k3 => k_asm); (case k5 => k_asm); (case kK => first | exact rfl | assumption); (case kd => ktr_room); (case ku => ktr_units); (case m => k_mem); (case i => assumption); (case b0 => omega); (case b1 => omega))
    intro r9 n9 h7 tk7 ho F7 N7
    obtain ⟨⟨X1, tX1, e1, hX1, hX1l⟩, e2⟩ := ho
    subst e1
    subst e2
    clear lF lN
    try dsimp only
    have hStop : StopAt "binaryOp Add str str" := ⟨⟩
    k_steps
    refine Stop.mk ?_
    refine PyProof.Rows.add_str ?_ ?h9u3
    case h9u3 => (have h8 := lit_x_len); (have h7 := lit_n_len); (rw [sizeLine_eq]); omega
    intro t9 k9
    have hStop : StopAt "call ref" := ⟨⟩
    k_steps
    refine Stop.mk ?_
    rename Fr _ _ _ _ => lF
    rename News _ _ _ _ => lN
    generalize hbe1 : (blanks + if 0 - apart > 0 then 0 - apart else 0) = b1 at hX1
    have hbb1 : 0 ≤ b1 ∧ b1 ≤ 100 := by omega
    k_dflt (refine' ctr_use (make_ctr _ _ _ ?m) ?k1 lF ?k3 lN ?k5 ?kK ?kd ?ku ?_; (case k1 => k_asm); (case k3 => k_asm); (case k5 => k_asm); (case kK => first | exact rfl | assumption); (case kd => ktr_room); (case ku => ktr_units); (case m => (have h8 := lit_x_len; have h7 := lit_n_len; rw [Str.length_append]; omega)))
    intro r9 n9 h7 tk7 ho F7 N7
    obtain ⟨W1, S1, hS1, e1, hi1, e2⟩ := ho
    subst e1
    subst e2
    clear lF lN
    rw [parse_x hX1 lit_x (fun r hr => (hR1 r hr).1) hbb1.1 (by decide) (by decide)] at hS1
    have ok1 : S1.Ok := by rw [← hS1]; exact st_ok hR1 hL1 hbb1.1 hbb1.2
    dsimp only [WW.led, List.cons_append, List.nil_append] at N7
    try dsimp only
    have hStop : StopAt "call ref" := ⟨⟩
    k_steps
    refine Stop.mk ?_
    rename Fr _ _ _ _ => lF
    rename News _ _ _ _ => lN
    k_dflt (refine' ctr_use (lead_ctr _ _ _ _ _ _ _ ?m ?i hL2 hR2 ?b0 ?b1) ?k1 lF ?k3 lN ?k5 ?kK ?kd ?ku ?_; (case k1 => k_asm); (case k3 => k_asm); (case k5 => k_asm); (case kK => first | exact rfl | assumption); (case kd => ktr_room); (case ku => ktr_units); (case m => k_mem); (case i => assumption); (case b0 => omega); (case b1 => omega))
    intro r9 n9 h7 tk7 ho F7 N7
    obtain ⟨⟨X2, tX2, e1, hX2, hX2l⟩, e2⟩ := ho
    subst e1
    subst e2
    clear lF lN
    try dsimp only
    have hStop : StopAt "binaryOp Add str str" := ⟨⟩
    k_steps
    refine Stop.mk ?_
    refine PyProof.Rows.add_str ?_ ?h9u4
    case h9u4 => (have h8 := lit_x_len); (have h7 := lit_n_len); (rw [sizeLine_eq]); omega
    intro t9 k9
    have hStop : StopAt "call ref" := ⟨⟩
    k_steps
    refine Stop.mk ?_
    rename Fr _ _ _ _ => lF
    rename News _ _ _ _ => lN
    generalize hbe2 : (blanks + if apart > 0 then apart else 0) = b2 at hX2
    have hbb2 : 0 ≤ b2 ∧ b2 ≤ 100 := by omega
    k_dflt (refine' ctr_use (make_ctr _ _ _ ?m) ?k1 lF ?k3 lN ?k5 ?kK ?kd ?ku ?_; (case k1 => k_asm); (case k3 => k_asm); (case k5 => k_asm); (case kK => first | exact rfl | assumption); (case kd => ktr_room); (case ku => ktr_units); (case m => (have h8 := lit_x_len; have h7 := lit_n_len; rw [Str.length_append]; omega)))
    intro r9 n9 h7 tk7 ho F7 N7
    obtain ⟨W2, S2, hS2, e1, hi2, e2⟩ := ho
    subst e1
    subst e2
    clear lF lN
    rw [parse_x hX2 lit_n (fun r hr => (hR2 r hr).1) hbb2.1 (by decide) (by decide)] at hS2
    have ok2 : S2.Ok := by rw [← hS2]; exact st_ok hR2 hL2 hbb2.1 hbb2.2
    dsimp only [WW.led, List.cons_append, List.nil_append] at N7
    try dsimp only
    have hStop : StopAt "pyIter ref" := ⟨⟩
    k_steps
    refine Stop.mk ?_
    rename Fr _ _ _ _ => lF
    rename News _ _ _ _ => lN
    rename IsRange _ _ _ _ _ _ _ _ => lR
    rename (_ ∈ fr ++ sc ++ both ++ _) => hMm
    rename (∀ a : Int, a ∈ fr ++ sc ++ both ++ _ → _) => hMx
    rename Int => M
    have hM0 : 0 ≤ M := by
      have := hMx (blanks + if apart < 0 then -apart else apart) (by simp)
      omega
    have hM1 : M ≤ 100 := by
      simp only [List.mem_append, List.mem_singleton] at hMm
      rcases hMm with ((h | h) | h) | h
      · have := hfr M h; omega
      · have := hsc M h; omega
      · have := hBb M h; omega
      · omega
    dsimp only at lF
    have lN2 := pick3 lN hiT (l := _) (t := _) (W1 := W1) (W2 := W2) (S1 := S1) (S2 := S2) (by k_mem) (by dsimp only [WW.led]; kst_allIn) (by dsimp only [WW.led]; kst_allIn) (by k_mem)
    dsimp only [WW.led, List.cons_append, List.nil_append] at lN2
    clear lN
    with_unfolding_all refine rangeD' [Str.ofString "column"] (fun pre ds => ds = (pre.map fun z => rowD (z, colOf z (KStt.codes X1), colOf z (KStt.codes X1) + z * tab.getD (min z (tab.length : Int) - 1).toNat 0 + apart))) rfl lR lF lN2 rfl ?turn ?done
    case turn =>
      clear lF lN2 lR
      intro vs ds ep tups pre k ti u h tok own hk1 hk2 hoff hd hT hp F1 N1
      replace hp : ds = pre.map fun z => rowD (z, colOf z (KStt.codes X1), colOf z (KStt.codes X1) + z * tab.getD (min z (tab.length : Int) - 1).toNat 0 + apart) := hp
      try simp only [List.nil_append, List.cons_append, List.append_nil] at N1
      have hvl : vs.length ≤ pre.length := by rw [hd.length, hp, List.length_map]; exact Nat.le_refl _
      have hR1' := hRow.1
      have hiTl := hiT.length
      (try k_fold)
      have hStop : StopAt "call ref" := ⟨⟩
      k_steps
      refine Stop.mk ?_
      k_dflt (refine' ctr_use (column_ctr _ _ _ _ _ ?zu5) ?k1u5 ?k2u5 ?k3u5 ?k4u5 ?k5u5 ?kKu5 ?kdu5 ?kuu5 ?_; (case k1u5 => k_asm); (case k2u5 => k_asm); (case k3u5 => k_asm); (case k4u5 => k_asm); (case k5u5 => k_asm); (case kKu5 => first | exact rfl | assumption); (case kdu5 => ktr_room); (case kuu5 => ktr_units); (case zu5 => omega))
      intro r9 n9 h' tk' ho9 F' N'
      obtain ⟨⟨t', e1⟩, e2⟩ := ho9
      subst e1
      subst e2
      (try dsimp only)
      (try k_sweep)
      k_steps
      rename Fr _ _ _ _ => eF
      rename News _ _ _ _ => eN
      rename (_ < _ ∧ _ < _ ∧ _ < _ ∧ _ < _ ∧ _ < _ ∧ _ < _ ∧ _ < _ ∧ _ < _ ∧ _ < _ ∧ _ < _ ∧ AllLt _ _) => eLt
      simp only [List.push_toArray] at eN
      with_unfolding_all refine' endRow' hd hT hoff eF eN ?hm ?hD ?hlt ?hown ?hp ?hn ?ht ?ho ?hr
      case hm => k_mem
      case hD => k_mem
      case hlt => exact eLt.1
      case hown => exact fun p9 h9 => kst_ltOf eLt.2.2.2.2.2.2.2.2.2.2 p9 (by simp only [List.mem_append]; exact .inr h9)
      case hp =>
        rw [List.map_append, ← hp]
        have e9 : (if (tab.length : Int) < k then (tab.length : Int) else k) = min k (tab.length : Int) := by omega
        rw [e9]
        rfl
      case hn => kst_anyIn
      case ht => kst_anyIn
      case ho => kst_anyIn
      case hr =>
        intro z z1 z3
        simp only [List.contains_cons, List.contains_nil, Bool.or_false, beq_eq_false_iff_ne, ne_eq] at z3
        simp [z1, z3]
    case done =>
      clear lF lN2 lR
      intro vsR dsR epR tupR uR hR9 tokR hdR hTR hpR FR NR
      replace hpR : dsR = (rangeKs 1 (1 + M + 1 - 1).toNat).map fun z => rowD (z, colOf z (KStt.codes X1), colOf z (KStt.codes X1) + z * tab.getD (min z (tab.length : Int) - 1).toNat 0 + apart) := hpR
      try simp only [List.nil_append, List.cons_append, List.append_nil] at NR
      try dsimp only
      have hLF : LawF tab fr sc both apart blanks M b1 b2 := ⟨hRow, hcs, fun r hr => (hfr r hr).1, fun r hr => (hsc r hr).1, fun r hr => (hBb r hr).1, hzr, by omega, hbe1.symm, hbe2.symm, hMm, hMx⟩
      have htop : topOf S1 S2 = 1 + M := by rw [← hS1, ← hS2]; exact hLF.top
      have hrow : dsR = ((rangeKs 1 (topOf S1 S2).toNat).map (rowAt S1 S2)).map rowD := by
        rw [hpR, htop, List.map_map]
        have e9 : (1 + M + 1 - 1).toNat = (1 + M).toNat := by omega
        rw [e9]
        refine List.map_congr_left fun z hz => ?_
        have hz1 := (mem_rangeKs hz).1
        have e1 := hLF.level1 hz1
        have e2 := hLF.level2 hz1
        rw [hX1, e1, e2, hS1, hS2]
        rfl
      have hRl : vsR.length ≤ 101 := by rw [hdR.length, hrow, List.length_map, List.length_map, rangeKs_length, htop]; omega
      rw [hrow] at hdR
      have hRk : (rangeKs 1 (topOf S1 S2).toNat).length ≤ 1000 := by rw [rangeKs_length, htop]; omega
      have hRk0 : 0 < (rangeKs 1 (topOf S1 S2).toNat).length := by rw [rangeKs_length, htop]; omega
      have hStop : StopAt "exec If" := ⟨⟩
      k_steps
      refine Stop.mk ?_
      rename Fr _ _ _ _ => lF
      rename News _ _ _ _ => lN
      w_top off
      k_with_none
      refine if_cut lF lN ?b0 ?r0
      case b0 =>
        clear lF lN
        intro F8 N8
        have hStop : StopAt "call ref" := ⟨⟩
        k_steps
        refine Stop.mk ?_
        rename Fr _ _ _ _ => lF
        rename News _ _ _ _ => lN
        k_dflt (refine' ctr_use (new_ctr _ W1 W2 S1 S2 ?m1 ?m2 hi1 hi2 ok1 ok2) ?k1 lF ?k3 lN ?k5 ?kK ?kd ?ku ?_; (case k1 => k_asm); (case k3 => k_asm); (case k5 => k_asm); (case kK => first | exact rfl | assumption); (case kd => ktr_room); (case ku => ktr_units); (case m1 => (dsimp only [WW.led]; kst_allIn)); (case m2 => (dsimp only [WW.led]; kst_allIn)))
        intro r9 n9 h7 tk7 ho F7 N7
        obtain ⟨lA, vsA, epA, tupA, e1, hdA, e2⟩ := ho
        subst e1
        subst e2
        clear lF lN
        try dsimp only
        have hStop : StopAt "eval ListComp" := ⟨⟩
        k_steps
        refine Stop.mk ?_
        k_dflt (refine LCt.ListComp_T (F₀ := by k_asm) (by with_unfolding_all rfl) (by decide) (by rfl) (by decide) (by rfl) ?_)
        k_steps
        rename Fr _ _ _ _ => lF
        rename News _ _ _ _ => lN
        with_unfolding_all refine' LCt.CompSrcT.ledger rfl lF lN ?mm ?sz ?hh
        case mm => k_mem
        case sz => rw [List.size_toArray, sizeLine_eq]; omega
        case hh =>
          clear lF lN
          intro g8
          refine compInvT (fun i ys => DatAll tupR ys ((((rangeKs 1 (topOf S1 S2).toNat).take i).filter fun ts => level S1 ts != level S2 ts).map fun ts => rowD (rowAt S1 S2 ts))) ?turn ?done _ 0 [] (Nat.zero_add _) .nil
          case turn =>
            intro i ys v I oI C oC D8 m₂ h tk E' hi hP hJ hC hx F N off ne
            obtain ⟨d8, hd1, hd2⟩ := datGet hdR hP
            obtain ⟨z8, hz8, e8⟩ := row_at hd1
            subst e8
            obtain ⟨a8, n8, q1, q2, q3, e8, hm8⟩ := row_open hd2
            subst e8
            have N9 := newsRow N (t := tupR) (by kst_anyIn) hm8
            clear N
            try simp only [List.cons_append, List.nil_append] at N9
            k_steps
            all_goals (rename Fr _ _ _ _ => eF; rename News _ _ _ _ => eN)
            all_goals first
              | exact LCg.CompEnd.intro eF eN _ (fun p hp => List.mem_cons_of_mem _ hp) off (.inr ⟨_, (by k_mem), rfl, _, rfl⟩) ⟨rfl, by rw [flt_yes hz8 (by simpa using (by assumption : ¬ level S1 z8 = level S2 z8))]; exact hJ.append (.one hd2)⟩
              | exact LCg.CompEnd.intro eF eN _ (fun p hp => List.mem_cons_of_mem _ hp) off (.inr ⟨_, (by k_mem), rfl, _, rfl⟩) ⟨rfl, by rw [flt_no hz8 (by simpa using (by assumption : level S1 z8 = level S2 z8))]; exact hJ⟩
          case done =>
            intro ys hJ
            rw [flt_all (by rw [rangeKs_length, List.size_toArray, hdR.length, List.length_map, List.length_map, rangeKs_length]; exact Nat.le_refl _)] at hJ
            have hJ' : DatAll tupR ys ((neRows S1 S2 (rangeKs 1 (topOf S1 S2).toNat)).map rowD) := by unfold neRows; rw [List.map_map]; exact hJ
            have hStop : StopAt "compareOp NotEq ref ref" := ⟨⟩
            intro D9 h9 tk9 F9 N9 off9
            k_steps
            refine Stop.mk ?_
            rename Fr _ _ _ _ => lF
            rename News _ _ _ _ => lN
            with_unfolding_all refine' neDat lN (.list ?m1 (hdA.mono ?s1)) (.list ?m2 (hJ'.mono ?s2)) ?k1 ?k2 ?ku ?_
            case m1 => k_mem
            case m2 => k_mem
            case s1 => kst_anyIn
            case s2 => kst_anyIn
            case k1 => exact okRows _
            case k2 => exact okRows _
            case ku => ktr_units
            intro b9 hb9
            have e9 := ne_self hb9
            subst e9
            k_steps
            rename Fr _ _ _ _ => eF
            rename News _ _ _ _ => eN
            exact IfEnd.of eF eN (by kst_anyIn)
      case r0 =>
      clear lF lN
      intro h6 tk6 F6 N6
      have hStop : StopAt "exec If" := ⟨⟩
      k_steps
      refine Stop.mk ?_
      rename Fr _ _ _ _ => lF
      rename News _ _ _ _ => lN
      refine if_cut lF lN ?b1 ?r1
      case b1 =>
        clear lF lN
        intro F8 N8
        have hStop : StopAt "call ref" := ⟨⟩
        k_steps
        refine Stop.mk ?_
        rename Fr _ _ _ _ => lF
        rename News _ _ _ _ => lN
        k_dflt (refine' ctr_use (nlw_ctr _ W1 W2 S1 S2 ?m1 ?m2 hi1 hi2 ok1 ok2) ?k1 lF ?k3 lN ?k5 ?kK ?kd ?ku ?_; (case k1 => k_asm); (case k3 => k_asm); (case k5 => k_asm); (case kK => first | exact rfl | assumption); (case kd => ktr_room); (case ku => ktr_units); (case m1 => (dsimp only [WW.led]; kst_allIn)); (case m2 => (dsimp only [WW.led]; kst_allIn)))
        intro r9 n9 h7 tk7 ho F7 N7
        obtain ⟨lB, vsB, epB, tupB, e1, hdB, e2⟩ := ho
        subst e1
        subst e2
        clear lF lN
        try dsimp only
        have hStop : StopAt "eval ListComp" := ⟨⟩
        k_steps
        refine Stop.mk ?_
        k_dflt (refine LCt.ListComp_T (F₀ := by k_asm) (by with_unfolding_all rfl) (by decide) (by rfl) (by decide) (by rfl) ?_)
        k_steps
        rename Fr _ _ _ _ => lF
        rename News _ _ _ _ => lN
        with_unfolding_all refine' LCt.CompSrcT.ledger rfl lF lN ?mm ?sz ?hh
        case mm => k_mem
        case sz => rw [List.size_toArray, sizeLine_eq]; omega
        case hh =>
        clear lF lN
        intro g8
        refine compInvT (fun i ys => DatAll tupR ys ((((rangeKs 1 (topOf S1 S2).toNat).take i).filter fun ts => decide (level S1 ts ≥ level S2 ts)).map fun ts => rowD (rowAt S1 S2 ts))) ?turn ?done _ 0 [] (Nat.zero_add _) .nil
        case turn =>
          intro i ys v I oI C oC D8 m₂ h tk E' hi hP hJ hC hx F N off ne
          obtain ⟨d8, hd1, hd2⟩ := datGet hdR hP
          obtain ⟨z8, hz8, e8⟩ := row_at hd1
          subst e8
          obtain ⟨a8, n8, q1, q2, q3, e8, hm8⟩ := row_open hd2
          subst e8
          have N9 := newsRow N (t := tupR) (by kst_anyIn) hm8
          clear N
          try simp only [List.cons_append, List.nil_append] at N9
          k_steps
          all_goals (rename Fr _ _ _ _ => eF; rename News _ _ _ _ => eN)
          all_goals first
            | exact LCg.CompEnd.intro eF eN _ (fun p hp => List.mem_cons_of_mem _ hp) off (.inr ⟨_, (by k_mem), rfl, _, rfl⟩) ⟨rfl, by rw [flt_yes hz8 (by simpa using (by assumption : level S2 z8 ≤ level S1 z8))]; exact hJ.append (.one hd2)⟩
            | exact LCg.CompEnd.intro eF eN _ (fun p hp => List.mem_cons_of_mem _ hp) off (.inr ⟨_, (by k_mem), rfl, _, rfl⟩) ⟨rfl, by rw [flt_no hz8 (by simpa using (by assumption : ¬ level S2 z8 ≤ level S1 z8))]; exact hJ⟩
        case done =>
        intro ys hJ
        rw [flt_all (by rw [rangeKs_length, List.size_toArray, hdR.length, List.length_map, List.length_map, rangeKs_length]; exact Nat.le_refl _)] at hJ
        have hJ' : DatAll tupR ys ((geRows S1 S2 (rangeKs 1 (topOf S1 S2).toNat)).map rowD) := by unfold geRows; rw [List.map_map]; exact hJ
        have hStop : StopAt "compareOp NotEq ref ref" := ⟨⟩
        intro D9 h9 tk9 F9 N9 off9
        k_steps
        refine Stop.mk ?_
        rename Fr _ _ _ _ => lF
        rename News _ _ _ _ => lN
        with_unfolding_all refine' neDat lN (.list ?m1 (hdB.mono ?s1)) (.list ?m2 (hJ'.mono ?s2)) ?k1 ?k2 ?ku ?_
        case m1 => k_mem
        case m2 => k_mem
        case s1 => kst_anyIn
        case s2 => kst_anyIn
        case k1 => exact okRows _
        case k2 => exact okRows _
        case ku => ktr_units
        intro b9 hb9
        have e9 := ne_self hb9
        subst e9
        k_steps
        rename Fr _ _ _ _ => eF
        rename News _ _ _ _ => eN
        exact IfEnd.of eF eN (by kst_anyIn)
      case r1 =>
      clear lF lN
      intro h6 tk6 F6 N6
      have hStop : StopAt "exec If" := ⟨⟩
      k_steps
      refine Stop.mk ?_
      rename Fr _ _ _ _ => lF
      rename News _ _ _ _ => lN
      refine if_cut lF lN ?b2 ?r2
      case b2 =>
        clear lF lN
        intro F8 N8
        have hStop : StopAt "call ref" := ⟨⟩
        k_steps
        refine Stop.mk ?_
        rename Fr _ _ _ _ => lF
        rename News _ _ _ _ => lN
        k_dflt (refine' ctr_use (nlw_ctr _ W2 W1 S2 S1 ?m1 ?m2 hi2 hi1 ok2 ok1) ?k1 lF ?k3 lN ?k5 ?kK ?kd ?ku ?_; (case k1 => k_asm); (case k3 => k_asm); (case k5 => k_asm); (case kK => first | exact rfl | assumption); (case kd => ktr_room); (case ku => ktr_units); (case m1 => (dsimp only [WW.led]; kst_allIn)); (case m2 => (dsimp only [WW.led]; kst_allIn)))
        intro r9 n9 h7 tk7 ho F7 N7
        obtain ⟨lB, vsB, epB, tupB, e1, hdB, e2⟩ := ho
        subst e1
        subst e2
        clear lF lN
        try dsimp only
        have hStop : StopAt "eval ListComp" := ⟨⟩
        k_steps
        refine Stop.mk ?_
        k_dflt (refine ListComp_3 (F₀ := by k_asm) (by with_unfolding_all rfl) (by decide) (by rfl) (by decide) (by rfl) (by rfl) (by rfl) (by decide) (by decide) (by decide) ?_)
        k_steps
        rename Fr _ _ _ _ => lF
        rename News _ _ _ _ => lN
        with_unfolding_all refine' src3_D (S1 := S1) (S2 := S2) (fun z => decide (level S2 z ≥ level S1 z)) (rowAt S2 S1) hdR hRk rfl lF lN ?hm ?hs ?turn ?done
        case hm => k_mem
        case hs => kst_anyIn
        case turn =>
          clear lF lN
          intro g i ys tups z q₁ q₂ q₃ I oI C oC D8 m₂ h tk E' hz hJ hC hx1 hx2 hx3 F N off hS ne
          refine wpAny_tests_one ?_
          k_steps
          case _ =>
            rename Fr _ _ _ _ => eF
            rename News _ _ _ _ => eN
            rename (_ < _ ∧ _ < _ ∧ _ < _ ∧ AllLt _ _) => eLt
            with_unfolding_all exact end3_yes eF eN hz hJ hS off (by simpa using (by assumption : level S1 z ≤ level S2 z)) (.head _) (fun p hp => List.mem_cons_of_mem _ hp) ⟨eLt.1, eLt.2.1, eLt.2.2.1⟩
          case _ =>
            rename Fr _ _ _ _ => eF
            rename News _ _ _ _ => eN
            with_unfolding_all exact end3_no eF eN hz hJ hS off (by simpa using (by assumption : ¬ level S1 z ≤ level S2 z)) (fun p hp => hp)
        case done =>
        clear lF lN
        intro g ys tups hJ
        have hJ' : DatAll tups ys ((geRows S2 S1 (rangeKs 1 (topOf S2 S1).toNat)).map rowD) := by unfold geRows; rw [List.map_map, topOf_comm]; exact hJ
        have hStop : StopAt "compareOp NotEq ref ref" := ⟨⟩
        intro D9 h9 tk9 F9 N9 off9
        k_steps
        refine Stop.mk ?_
        rename Fr _ _ _ _ => lF
        rename News _ _ _ _ => lN
        with_unfolding_all refine' neDat lN (.list ?m1 (hdB.mono ?s1)) (.list ?m2 (hJ'.mono ?s2)) ?k1 ?k2 ?ku ?_
        case m1 => exact List.mem_cons_of_mem _ (List.mem_append.mpr (.inr (List.mem_cons_self)))
        case m2 => k_mem
        case s1 => kst_anyIn
        case s2 => kst_anyIn
        case k1 => exact okRows _
        case k2 => exact okRows _
        case ku => ktr_units
        intro b9 hb9
        have e9 := ne_self hb9
        subst e9
        k_steps
        rename Fr _ _ _ _ => eF
        rename News _ _ _ _ => eN
        exact IfEnd.of eF eN (by kst_anyIn)
      case r2 =>
      clear lF lN
      intro h6 tk6 F6 N6
      have hStop : StopAt "exec If" := ⟨⟩
      k_steps
      refine Stop.mk ?_
      rename Fr _ _ _ _ => lF
      rename News _ _ _ _ => lN
      refine if_cut lF lN ?b3 ?r3
      case b3 =>
        clear lF lN
        intro F8 N8
        have hStop : StopAt "call ref" := ⟨⟩
        k_steps
        refine Stop.mk ?_
        rename Fr _ _ _ _ => lF
        rename News _ _ _ _ => lN
        k_dflt (refine' ctr_use (less_ctr _ W1 W2 S1 S2 ?m1 ?m2 hi1 hi2 ok1 ok2) ?k1 lF ?k3 lN ?k5 ?kK ?kd ?ku ?_; (case k1 => k_asm); (case k3 => k_asm); (case k5 => k_asm); (case kK => first | exact rfl | assumption); (case kd => ktr_room); (case ku => ktr_units); (case m1 => (dsimp only [WW.led]; kst_allIn)); (case m2 => (dsimp only [WW.led]; kst_allIn)))
        intro r9 n9 h7 tk7 ho F7 N7
        obtain ⟨⟨b8, e1, hb8⟩, e2⟩ := ho
        subst e1
        subst e2
        clear lF lN
        try dsimp only
        have hStop : StopAt "eval ListComp" := ⟨⟩
        k_steps
        refine Stop.mk ?_
        k_dflt (refine ListComp_3 (F₀ := by k_asm) (by with_unfolding_all rfl) (by decide) (by rfl) (by decide) (by rfl) (by rfl) (by rfl) (by decide) (by decide) (by decide) ?_)
        k_steps
        rename Fr _ _ _ _ => lF
        rename News _ _ _ _ => lN
        with_unfolding_all refine' src3_I (S1 := S1) (S2 := S2) (fun z => level S2 z - level S1 z) hdR hRk rfl lF lN ?hm ?hs ?turn ?done
        case hm => k_mem
        case hs => kst_anyIn
        case turn =>
          clear lF lN
          intro g i ys z q₁ q₂ q₃ I oI C oC D8 m₂ h tk E' hz hJ hC hx1 hx2 hx3 F N off hS ne
          k_steps
          case _ =>
            rename Fr _ _ _ _ => eF
            rename News _ _ _ _ => eN
            with_unfolding_all exact end3_int (f := fun z => level S2 z - level S1 z) eF eN hz hJ hS off (fun p hp => hp)
        case done =>
        clear lF lN
        intro g ys hJ
        have hJl := hJ.length
        have hLess : LessP S1 S2 ↔ ∀ z ∈ rangeKs 1 (topOf S1 S2).toNat, level S1 z < level S2 z := by
          rw [← hS1, ← hS2]
          exact less_iff hLF.r1 hLF.r2 hLF.b01 hLF.b02
        intro D9 h9 tk9 F9 N9 off9
        have hStop : StopAt "compareOp IsNot bool bool" := ⟨⟩
        k_steps
        refine Stop.mk ?_
        rename Fr _ _ _ _ => lF
        rename News _ _ _ _ => lN
        rename (_ ∈ List.map _ (rangeKs 1 (topOf S1 S2).toNat)) => hm1
        rename (∀ a : Int, a ∈ List.map _ (rangeKs 1 (topOf S1 S2).toNat) → _) => hm2
        refine isnot_same (same_bool (hb8.trans (hLess.trans (min_pos hm1 hm2)))) ?_
        k_steps
        rename Fr _ _ _ _ => eF
        rename News _ _ _ _ => eN
        exact IfEnd.of eF eN (by kst_anyIn)
      case r3 =>
      clear lF lN
      intro h6 tk6 F6 N6
      have hStop : StopAt "exec If" := ⟨⟩
      k_steps
      refine Stop.mk ?_
      rename Fr _ _ _ _ => lF
      rename News _ _ _ _ => lN
      refine if_cut lF lN ?b4 ?r4
      case b4 =>
        clear lF lN
        intro F8 N8
        have hStop : StopAt "call ref" := ⟨⟩
        k_steps
        refine Stop.mk ?_
        rename Fr _ _ _ _ => lF
        rename News _ _ _ _ => lN
        k_dflt (refine' ctr_use (less_ctr _ W2 W1 S2 S1 ?m1 ?m2 hi2 hi1 ok2 ok1) ?k1 lF ?k3 lN ?k5 ?kK ?kd ?ku ?_; (case k1 => k_asm); (case k3 => k_asm); (case k5 => k_asm); (case kK => first | exact rfl | assumption); (case kd => ktr_room); (case ku => ktr_units); (case m1 => (dsimp only [WW.led]; kst_allIn)); (case m2 => (dsimp only [WW.led]; kst_allIn)))
        intro r9 n9 h7 tk7 ho F7 N7
        obtain ⟨⟨b8, e1, hb8⟩, e2⟩ := ho
        subst e1
        subst e2
        clear lF lN
        try dsimp only
        have hStop : StopAt "eval ListComp" := ⟨⟩
        k_steps
        refine Stop.mk ?_
        k_dflt (refine ListComp_3 (F₀ := by k_asm) (by with_unfolding_all rfl) (by decide) (by rfl) (by decide) (by rfl) (by rfl) (by rfl) (by decide) (by decide) (by decide) ?_)
        k_steps
        rename Fr _ _ _ _ => lF
        rename News _ _ _ _ => lN
        with_unfolding_all refine' src3_I (S1 := S1) (S2 := S2) (fun z => level S2 z - level S1 z) hdR hRk rfl lF lN ?hm ?hs ?turn ?done
        case hm => k_mem
        case hs => kst_anyIn
        case turn =>
          clear lF lN
          intro g i ys z q₁ q₂ q₃ I oI C oC D8 m₂ h tk E' hz hJ hC hx1 hx2 hx3 F N off hS ne
          k_steps
          case _ =>
            rename Fr _ _ _ _ => eF
            rename News _ _ _ _ => eN
            with_unfolding_all exact end3_int (f := fun z => level S2 z - level S1 z) eF eN hz hJ hS off (fun p hp => hp)
        case done =>
        clear lF lN
        intro g ys hJ
        have hJl := hJ.length
        have hLess2 : LessP S2 S1 ↔ ∀ z ∈ rangeKs 1 (topOf S1 S2).toNat, level S2 z < level S1 z := by
          rw [topOf_comm, ← hS1, ← hS2]
          exact less_iff hLF.r2 hLF.r1 hLF.b02 hLF.b01
        intro D9 h9 tk9 F9 N9 off9
        have hStop : StopAt "compareOp IsNot bool bool" := ⟨⟩
        k_steps
        refine Stop.mk ?_
        rename Fr _ _ _ _ => lF
        rename News _ _ _ _ => lN
        rename (_ ∈ List.map _ (rangeKs 1 (topOf S1 S2).toNat)) => hm1
        rename (∀ a : Int, a ∈ List.map _ (rangeKs 1 (topOf S1 S2).toNat) → _) => hm2
        refine isnot_same (same_bool (hb8.trans (hLess2.trans (max_neg hm1 hm2)))) ?_
        k_steps
        rename Fr _ _ _ _ => eF
        rename News _ _ _ _ => eN
        exact IfEnd.of eF eN (by kst_anyIn)
      case r4 =>
      clear lF lN
      intro h6 tk6 F6 N6
      have hStop : StopAt "exec If" := ⟨⟩
      k_steps
      refine Stop.mk ?_
      rename Fr _ _ _ _ => lF
      rename News _ _ _ _ => lN
      refine if_cut lF lN ?b5 ?r5
      case b5 =>
        clear lF lN
        intro F8 N8
        have hStop : StopAt "call ref" := ⟨⟩
        k_steps
        refine Stop.mk ?_
        rename Fr _ _ _ _ => lF
        rename News _ _ _ _ => lN
        k_dflt (refine' ctr_use (equal_ctr _ W1 W2 S1 S2 ?m1 ?m2 hi1 hi2 ok1 ok2) ?k1 lF ?k3 lN ?k5 ?kK ?kd ?ku ?_; (case k1 => k_asm); (case k3 => k_asm); (case k5 => k_asm); (case kK => first | exact rfl | assumption); (case kd => ktr_room); (case ku => ktr_units); (case m1 => (dsimp only [WW.led]; kst_allIn)); (case m2 => (dsimp only [WW.led]; kst_allIn)))
        intro r9 n9 h7 tk7 ho F7 N7
        obtain ⟨⟨b8, e1, hb8⟩, e2⟩ := ho
        subst e1
        subst e2
        clear lF lN
        try dsimp only
        have hStop : StopAt "eval ListComp" := ⟨⟩
        k_steps
        refine Stop.mk ?_
        k_dflt (refine LCt.ListComp_T (F₀ := by k_asm) (by with_unfolding_all rfl) (by decide) (by rfl) (by decide) (by rfl) ?_)
        k_steps
        rename Fr _ _ _ _ => lF
        rename News _ _ _ _ => lN
        with_unfolding_all refine' LCt.CompSrcT.ledger rfl lF lN ?mm ?sz ?hh
        case mm => k_mem
        case sz => rw [List.size_toArray, sizeLine_eq]; omega
        case hh =>
        clear lF lN
        intro g8
        refine compInvT (fun i ys => DatAll tupR ys ((((rangeKs 1 (topOf S1 S2).toNat).take i).filter fun ts => level S1 ts != level S2 ts).map fun ts => rowD (rowAt S1 S2 ts))) ?turn ?done _ 0 [] (Nat.zero_add _) .nil
        case turn =>
          intro i ys v I oI C oC D8 m₂ h tk E' hi hP hJ hC hx F N off ne
          obtain ⟨d8, hd1, hd2⟩ := datGet hdR hP
          obtain ⟨z8, hz8, e8⟩ := row_at hd1
          subst e8
          obtain ⟨a8, n8, q1, q2, q3, e8, hm8⟩ := row_open hd2
          subst e8
          have N9 := newsRow N (t := tupR) (by kst_anyIn) hm8
          clear N
          try simp only [List.cons_append, List.nil_append] at N9
          k_steps
          all_goals (rename Fr _ _ _ _ => eF; rename News _ _ _ _ => eN)
          all_goals first
            | exact LCg.CompEnd.intro eF eN _ (fun p hp => List.mem_cons_of_mem _ hp) off (.inr ⟨_, (by k_mem), rfl, _, rfl⟩) ⟨rfl, by rw [flt_yes hz8 (by simpa using (by assumption : ¬ level S1 z8 = level S2 z8))]; exact hJ.append (.one hd2)⟩
            | exact LCg.CompEnd.intro eF eN _ (fun p hp => List.mem_cons_of_mem _ hp) off (.inr ⟨_, (by k_mem), rfl, _, rfl⟩) ⟨rfl, by rw [flt_no hz8 (by simpa using (by assumption : level S1 z8 = level S2 z8))]; exact hJ⟩
        case done =>
        intro ys hJ
        rw [flt_all (by rw [rangeKs_length, List.size_toArray, hdR.length, List.length_map, List.length_map, rangeKs_length]; exact Nat.le_refl _)] at hJ
        have hJ' : DatAll tupR ys ((neRows S1 S2 (rangeKs 1 (topOf S1 S2).toNat)).map rowD) := by unfold neRows; rw [List.map_map]; exact hJ
        have hEqual : EqualP S1 S2 ↔ neRows S1 S2 (rangeKs 1 (topOf S1 S2).toNat) = [] := by
          rw [← hS1, ← hS2]
          exact hLF.equal_iff
        intro D9 h9 tk9 F9 N9 off9
        have hStop : StopAt "compareOp Eq ref ref" := ⟨⟩
        k_steps
        refine Stop.mk ?_
        rename Fr _ _ _ _ => lF
        rename News _ _ _ _ => lN
        with_unfolding_all refine' eqDat (d := .list ((neRows S1 S2 (rangeKs 1 (topOf S1 S2).toNat)).map rowD)) (e := .list []) lN (.list ?m1 (hJ'.mono ?s1)) (.list (vs := []) ?m2 .nil) ?k1 ?k2 ?ku ?_
        case m1 => k_mem
        case m2 => k_mem
        case s1 => kst_anyIn
        case k1 => exact okRows _
        case k2 => exact okRows []
        case ku => ktr_units
        intro b9 hb9
        have hStop : StopAt "compareOp IsNot bool bool" := ⟨⟩
        k_steps
        refine Stop.mk ?_
        refine isnot_same (same_iff (hb8.trans hEqual) (hb9.trans datNil)) ?_
        k_steps
        rename Fr _ _ _ _ => eF
        rename News _ _ _ _ => eN
        exact IfEnd.of eF eN (by kst_anyIn)
      case r5 =>
      clear lF lN
      intro h6 tk6 F6 N6
      have hiTl := hiT.length
      have hR1' := hRow.1
      have hFar : ∀ z : Int, 1 + M ≤ z → level S1 z = colOf z (KStt.codes X1) ∧ level S2 z = colOf z (KStt.codes X1) + z * tab.getD (tab.length - 1) 0 + apart := by
        intro z hz
        have e1 := hLF.level1 (z := z) (by omega)
        have e2 := hLF.level2 (z := z) (by omega)
        rw [hLF.last hz] at e2
        rw [hX1, e1, hS1] 
        rw [hS1, hS2] at e2
        exact ⟨rfl, e2.symm⟩
      have hStop : StopAt "call ref" := ⟨⟩
      k_steps
      refine Stop.mk ?_
      k_dflt (refine' ctr_use (column_ctr _ _ _ _ _ ?zu6) ?k1u6 ?k2u6 ?k3u6 ?k4u6 ?k5u6 ?kKu6 ?kdu6 ?kuu6 ?_; (case k1u6 => k_asm); (case k2u6 => k_asm); (case k3u6 => k_asm); (case k4u6 => k_asm); (case k5u6 => k_asm); (case kKu6 => first | exact rfl | assumption); (case kdu6 => ktr_room); (case kuu6 => ktr_units); (case zu6 => omega))
      intro r9 n9 h' tk' ho9 F' N'
      obtain ⟨⟨t', e1⟩, e2⟩ := ho9
      subst e1
      subst e2
      (try dsimp only)
      (try k_sweep)
      have hStop : StopAt "call ref" := ⟨⟩
      k_steps
      refine Stop.mk ?_
      k_dflt (refine' ctr_use (level_ctr _ W1 _ ?mu7 hi1 ok1 _ _ ?zu7) ?k1u7 ?k2u7 ?k3u7 ?k4u7 ?k5u7 ?kKu7 ?kdu7 ?kuu7 ?_; (case k1u7 => k_asm); (case k2u7 => k_asm); (case k3u7 => k_asm); (case k4u7 => k_asm); (case k5u7 => k_asm); (case kKu7 => first | exact rfl | assumption); (case kdu7 => ktr_room); (case kuu7 => ktr_units); (case zu7 => omega); (case mu7 => (dsimp only [WW.led]; kst_allIn)))
      intro r9 n9 h' tk' ho9 F' N'
      obtain ⟨⟨t', e1⟩, e2⟩ := ho9
      subst e1
      subst e2
      (try dsimp only)
      (try k_sweep)
      have hStop : StopAt "call ref" := ⟨⟩
      k_steps
      refine Stop.mk ?_
      k_dflt (refine' ctr_use (level_ctr _ W2 _ ?mu8 hi2 ok2 _ _ ?zu8) ?k1u8 ?k2u8 ?k3u8 ?k4u8 ?k5u8 ?kKu8 ?kdu8 ?kuu8 ?_; (case k1u8 => k_asm); (case k2u8 => k_asm); (case k3u8 => k_asm); (case k4u8 => k_asm); (case k5u8 => k_asm); (case kKu8 => first | exact rfl | assumption); (case kdu8 => ktr_room); (case kuu8 => ktr_units); (case zu8 => omega); (case mu8 => (dsimp only [WW.led]; kst_allIn)))
      intro r9 n9 h' tk' ho9 F' N'
      obtain ⟨⟨t', e1⟩, e2⟩ := ho9
      subst e1
      subst e2
      (try dsimp only)
      (try k_sweep)
      have hStop : StopAt "subscriptTail Name UnaryOp ref int" := ⟨⟩
      k_steps
      refine Stop.mk ?_
      with_unfolding_all refine' itemLast ?k1u9 ?k2u9 ?k3u9 ?k4u9 ?_ ?k8u9 ?k9u9
      case k1u9 => k_asm
      case k2u9 => k_mem
      case k3u9 => assumption
      case k4u9 => assumption
      case k8u9 => with_unfolding_all rfl
      case k9u9 => intro _; with_unfolding_all rfl
      intro t8
      have hStop : StopAt "compareOp Eq ref ref" := ⟨⟩
      k_steps
      refine Stop.mk ?_
      rename Fr _ _ _ _ => lF
      rename News _ _ _ _ => lN
      with_unfolding_all refine' eqDat lN (.list ?m1 (.cons (.int _ _) (.cons (.int _ _) .nil))) (.list ?m2 (.cons (.int _ _) (.cons (.int _ _) .nil))) ?k1 ?k2 ?ku ?_
      case m1 => k_mem
      case m2 => k_mem
      case k1 => rfl
      case k2 => rfl
      case ku => ktr_units
      intro b9 hb9
      have e9 := hb9.mpr (datTwo (hFar _ (by omega)))
      subst e9
      k_steps
      rename Fr _ _ _ _ => eF
      exact RetEnd.of eF)
end Mine
theorem PySem.Challenge.cw_pe0294_01_holds : PySem.Challenge.rw_pe0294_01.Holds :=
  Mine.main_01
