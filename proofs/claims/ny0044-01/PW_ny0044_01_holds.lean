import PyProof.Rows.All
import Wide.All
import OpenK.AllK
import Wide.FinOn
import PySem.Challenge.RW_ny0044_01
open PySem PySem.W PyProof.Rows
set_option Elab.async false
set_option maxRecDepth 100000
namespace Mine
/-- a goal laid aside, so that the walk stops at it -/
structure Hold (P : Prop) : Prop where
  mk :: out : P
set_option maxRecDepth 100000 in
set_option maxHeartbeats 8000000 in
open_top hd for PySem.Challenge.rw_ny0044_01
end Mine

namespace Mine
/-- a text with its two margins of blanks -/
def pad (a : Nat) (nm : Str) (b : Nat) : Str := ⟨(List.replicate a 32 ++ nm.cps.toList ++ List.replicate b 32).toArray⟩
/-- a text that has signs, and neither opens nor ends with a blank -/
def Solid (nm : Str) : Prop := ∃ c d : Nat, nm.cps.toList[0]? = some c ∧ c ≠ 32 ∧ nm.cps.toList[nm.length - 1]? = some d ∧ d ≠ 32
theorem Solid.pos {nm : Str} (h : Solid nm) : 0 < nm.length := by
  obtain ⟨c, _, h, _⟩ := h
  have := (List.getElem?_eq_some_iff.mp h).1
  simpa [Str.length] using this
theorem len_list (x : Str) : x.cps.toList.length = x.length := by simp [Str.length]
theorem pad_len (a b : Nat) (nm : Str) : (pad a nm b).length = a + nm.length + b := by
  unfold pad
  simp [Str.length]
  omega
theorem pad_get (a b : Nat) (nm : Str) (i : Nat) : (pad a nm b).cps[i]? = (List.replicate a 32 ++ nm.cps.toList ++ List.replicate b 32)[i]? := by
  unfold pad
  simp only [List.getElem?_toArray]
theorem item_of {x : Str} {i : Nat} {c : Nat} (h : x.cps[i]? = some c) : Txt.item x (i : Int) = ⟨#[c]⟩ := by
  have hi : i < x.length := (Array.getElem?_eq_some_iff.mp h).1
  have e : seqIndex? (i : Int) x.length = some i := by
    unfold seqIndex?
    simp
    omega
  unfold Txt.item Txt.charAt
  rw [e]
  simp [h]
theorem blank_is : (Str.ofString " ") = ⟨#[32]⟩ := by decide +kernel
theorem item_ne {x : Str} {i : Nat} {c : Nat} (h : x.cps[i]? = some c) (hc : c ≠ 32) : Txt.item x (i : Int) ≠ Str.ofString " " := by
  rw [item_of h, blank_is]
  intro e
  injection e with e
  simp at e
  exact hc e
theorem item_eq {x : Str} {i : Nat} (h : x.cps[i]? = some 32) : Txt.item x (i : Int) = Str.ofString " " := by
  rw [item_of h, blank_is]
theorem pad_left {a b : Nat} {nm : Str} {i : Nat} (h : i < a) : Txt.item (pad a nm b) (i : Int) = Str.ofString " " := by
  apply item_eq
  rw [pad_get, List.append_assoc, List.getElem?_append_left (by simpa using h)]
  simp [h]
theorem pad_first {a b : Nat} {nm : Str} (hs : Solid nm) : Txt.item (pad a nm b) (a : Int) ≠ Str.ofString " " := by
  have hp := hs.pos
  obtain ⟨c, _, h, hc, _⟩ := hs
  refine item_ne (c := c) ?_ hc
  rw [pad_get, List.append_assoc, List.getElem?_append_right (by simp), List.length_replicate, Nat.sub_self, List.getElem?_append_left (by rw [len_list]; exact hp)]
  exact h
theorem pad_right {a b : Nat} {nm : Str} {i : Nat} (h1 : a + nm.length ≤ i) (h2 : i < a + nm.length + b) : Txt.item (pad a nm b) (i : Int) = Str.ofString " " := by
  apply item_eq
  have ll := len_list nm
  rw [pad_get, List.getElem?_append_right (by rw [List.length_append, List.length_replicate, ll]; exact h1)]
  rw [List.getElem?_replicate, List.length_append, List.length_replicate, ll, if_pos (by omega)]
theorem pad_last {a b : Nat} {nm : Str} (hs : Solid nm) : Txt.item (pad a nm b) ((a + nm.length - 1 : Nat) : Int) ≠ Str.ofString " " := by
  have hp := hs.pos
  obtain ⟨_, d, _, _, h, hd⟩ := hs
  refine item_ne (c := d) ?_ hd
  rw [pad_get, List.append_assoc, List.getElem?_append_right (by simp; omega), List.length_replicate, List.getElem?_append_left (by rw [len_list]; omega)]
  rw [show a + nm.length - 1 - a = nm.length - 1 by omega]
  exact h
theorem pad_slice {a b i q : Nat} {nm : Str} (hi : i ≤ a) (hq : q ≤ b) : Txt.slice (pad a nm b) (some (i : Int)) (some ((a + nm.length + b - q : Nat) : Int)) = pad (a - i) nm (b - q) := by
  have h := beq_iff_eq.mp (slice_closesL (x := pad a nm b) (i := (i : Int)) (j := ((a + nm.length + b - q : Nat) : Int)) (by omega) (by omega) (by rw [pad_len]; omega))
  rw [h]
  have e1 : ((i : Nat) : Int).toNat = i := by omega
  have e2 : (((a + nm.length + b - q : Nat) : Int) - (i : Int)).toNat = a + nm.length + b - q - i := by omega
  rw [e1, e2]
  unfold pad
  congr 1
  simp only [List.append_assoc]
  congr 1
  have ll := len_list nm
  obtain ⟨j, rfl⟩ : ∃ j, a = i + j := ⟨a - i, by omega⟩
  obtain ⟨k, rfl⟩ : ∃ k, b = q + k := ⟨b - q, by omega⟩
  rw [← List.replicate_append_replicate, List.append_assoc, List.drop_left' (by simp), show i + j - i = j by omega, show q + k - q = k by omega, show i + j + nm.length + (q + k) - q - i = j + nm.length + k by omega]
  rw [Nat.add_comm q k, ← List.replicate_append_replicate, ← List.append_assoc, ← List.append_assoc, List.take_left' (by simp [ll]; omega), List.append_assoc]
/-- blanks -/
def bl (n : Nat) : Str := ⟨(List.replicate n 32).toArray⟩
theorem bl_len (n : Nat) : (bl n).length = n := by simp [bl, Str.length]
theorem foldl_app (l : List (Array Nat)) : ∀ acc : Array Nat, (l.foldl (· ++ ·) acc).toList = acc.toList ++ (l.map Array.toList).flatten := by
  induction l with
  | nil => intro acc; simp
  | cons x r ih => intro acc; rw [List.foldl_cons, ih]; simp
theorem mul_blank {n : Int} (h : 0 ≤ n) : Txt.mul (Str.ofString " ") n = bl n.toNat := by
  obtain ⟨k, rfl⟩ := Int.eq_ofNat_of_zero_le h
  rw [blank_is]
  unfold Txt.mul bl
  match k with
  | 0 => simp [Str.empty]
  | 1 => simp
  | k + 2 =>
    rw [if_neg (by omega), if_neg (by simp [Str.length]; omega)]
    congr 1
    apply Array.ext'
    rw [foldl_app]
    have e : ((k + 2 : Nat) : Int).toNat = k + 2 := by omega
    simp only [e, List.map_replicate]
    generalize k + 2 = j
    induction j with
    | zero => rfl
    | succ j ih => rw [List.replicate_succ, List.flatten_cons, List.replicate_succ]; simp
theorem pad_eq (a b : Nat) (nm : Str) : bl a ++ nm ++ bl b = pad a nm b := by
  show Str.append (Str.append (bl a) nm) (bl b) = _
  unfold Str.append bl pad
  congr 1
  apply Array.ext'
  simp
end Mine

namespace Mine
/-- a state that a datum c tells: the ledger, some names, the rest as it was -/
structure WSt {σ : Type} (h₀ : Heap) (L : Addr) (s : Shared) (Led : σ → List (Addr × Obj)) (ps : σ → List (Str × Value)) (stored : List Str) (m₀ : Str → Option Value) (P : σ → Prop) (s₂ : Shared) : Prop where
  mk :: out : ∃ (c : σ) (h : Heap) (tk : Nat) (m' : Str → Option Value), s₂ = { s with heap := h, toks := tk } ∧ Fr h₀ L h m' ∧ News h₀ L h (Led c) ∧ (∀ p ∈ ps c, m' p.1 = some p.2) ∧ (∀ z, (∀ p ∈ ps c, z ≠ p.1) → stored.contains z = false → m' z = m₀ z) ∧ P c
def WTurn {σ : Type} (h₀ : Heap) (L : Addr) (s : Shared) (Led : σ → List (Addr × Obj)) (ps : σ → List (Str × Value)) (stored : List Str) (m₀ : Str → Option Value) (P : σ → Prop) (f : Flow) (s₂ : Shared) : Prop :=
  match f with
  | .next => WSt h₀ L s Led ps stored m₀ P s₂
  | _ => False
section
variable {prog : Program} {w : World} {A : Around} {E : Value → Shared → Prop} {Q : Flow → Shared → Prop} {s : Shared} {env : Env} {h₀ : Heap} {L : Addr}
theorem while_cut {σ : Type} {test : Expr} {body : List Stmt} {pos : Pos} {m₀ : Str → Option Value} (Led : σ → List (Addr × Obj)) (ps : σ → List (Str × Value)) (stored : List Str) (P : σ → Prop) (μ : σ → Nat) (Out : σ → Prop) (c₀ : σ)
    (F : Fr h₀ L s.heap m₀) (N : News h₀ L s.heap (Led c₀)) (hk : ∀ p ∈ ps c₀, m₀ p.1 = some p.2) (hp : P c₀)
    (turn : ∀ (c : σ) (u : Str → Option Value) h tk, P c → Fr h₀ L h (kstB (fun z => if stored.contains z then u z else m₀ z) (ps c)) → News h₀ L h (Led c) →
      wpAny (model prog w) A (isTrue test env (eval test env)) (fun b s₂ =>
        if b = true then wpAny (model prog w) A (execs body env) (WTurn h₀ L s Led ps stored m₀ fun c' => P c' ∧ μ c' < μ c) E s₂ else WSt h₀ L s Led ps stored m₀ (fun c' => P c' ∧ Out c') s₂) E { s with heap := h, toks := tk })
    (after : ∀ (c : σ) (u : Str → Option Value) h tk, P c → Out c → Fr h₀ L h (kstB (fun z => if stored.contains z then u z else m₀ z) (ps c)) → News h₀ L h (Led c) → Q .next { s with heap := h, toks := tk })
    (hE : PassesOwn (model prog w) A env E := by passes_own) :
    wpAny (model prog w) A (exec (.While test body [] pos) env) Q E s := by
  refine ksw_while Led ps (fun _ => True) stored P μ c₀ F N trivial hk hp (fun c u h tk _ hp' F' N' => ?_) hE
  refine wpAny_mono (turn c u h tk hp' F' N') (fun b s₂ p => ?_) fun _ _ x => x
  cases b with
  | true =>
    simp only [if_true] at p ⊢
    refine wpAny_mono p (fun f s₃ q => ?_) fun _ _ x => x
    cases f with
    | next =>
      obtain ⟨c', h', tk', m', e, F₁, N₁, a, b, hp₁, hm⟩ := WSt.out q
      exact ⟨c', h', tk', m', Led c', e, F₁, N₁, fun _ hp => hp, trivial, a, b, hp₁, hm⟩
    | brk => exact q.elim
    | cont => exact q.elim
    | ret v => exact q.elim
  | false =>
    simp only [Bool.false_eq_true, if_false] at p ⊢
    obtain ⟨c', h', tk', m', e, F₁, N₁, a, b, hp₁, ho⟩ := p.out
    subst e
    exact after c' m' h' tk' hp₁ ho (ksw_fr a b F₁) N₁
end
end Mine

namespace Mine
local macro_rules | `(tactic| k_steps) => `(tactic| repeat' (first | (k_unfold; (try dsimp only)) | walk1 | (dsimp only; walk1) | (leave1; (try dsimp only)) | fail "no step"))
local macro_rules | `(tactic| walk_at "exec While BoolOp cons nil") => `(tactic| refine Mine.Hold.out ?_)
local macro_rules | `(tactic| walk_at "subscriptTail Name Name str int") => `(tactic| (k_here; (with_reducible show wpAny _ _ (subscriptTail _ _ (Value.str (Mine.pad _ _ _) _) (Value.int _ _)) _ _ _); (refine KXi.item (Mine.pad_len _ _ _) (by omega) (by omega) (by omega) ?_); intro kxiE))
theorem len_pad {prog : Program} {w : World} {A : Around} {E : Value → Shared → Prop} {s : Shared} {a b : Nat} {nm : Str} {t : Tok} {Q : Value → Shared → Prop} (hsz : a + nm.length + b ≤ 1000)
    (h : Q (.int ((a + nm.length + b : Nat) : Int) (s.toks + 1)) { s with toks := s.toks + 1 + 1 }) : wpAny (model prog w) A (call (.builtin "len") [.str (pad a nm b) t]) Q E s := by
  have e := pad_len a b nm
  refine PySem.P.len_str (by rw [e]; omega) ?_
  rw [e]
  exact h
local macro_rules | `(tactic| walk_at "call builtin:len") => `(tactic| (k_here; (with_reducible show wpAny _ _ (call (Value.builtin "len") [Value.str (Mine.pad _ _ _) _]) _ _ _); (refine Mine.len_pad (by assumption) ?_)))
set_option maxRecDepth 100000 in
set_option maxHeartbeats 8000000 in
theorem strip_ok (w : World) (mean : ExcName → Option Value) (mg mb : Str → Option Value) (news : List (Addr × Obj)) (a b k : Nat) (nm : Str) (hnm : Solid nm) (hsz : a + nm.length + b ≤ 1000) (tA tB : Tok) :
    CbClaim PySem.Challenge.rw_ny0044_01.row.toRowW.prog w (Mine.hd.heap_39 w.params) Mine.hd.view_39 (looseW Mine.hd.view_39 []) mean mg mb 28 news [] True [.str (pad a nm b) tA, .int k tB] (fun t => .str (pad (a - k) nm (b - (k - a))) t) := by
  k_fill
  dsimp only [CbClaim, CbLists, CbRet]
  intro dp un gd cn cs a₀ ccd cl outer A₀ base h₀ L m S Q E B F X N T hk hpre hd hu hret
  have hpos := hnm.pos
  refine wpAny_call ?_
  refine' code_def (binds := [(Str.ofString "s", .str (pad a nm b) tA), (Str.ofString "amount", .int k tB)]) B F X N T rfl rfl hk ?k6 ?k7 (by ktr_room) ?k9 ?kB ?_ ?c2 ?c3 ?c4 ?c5
  case k6 => k_dflt k_is
  case k7 => k_dflt k_is
  case k9 => exact BindsTo.of_eq rfl
  case kB => exact locs rfl
  case c2 => exact rfl
  case c3 => exact rfl
  case c4 => exact rfl
  case c5 => decide
  intro g L₁ h₁ FG F₁ N₁ B₁ X₁ T₁
  w_on
  k_fold
  k_steps
  refine Hold.mk ?_
  rename Fr g _ _ _ => F1
  rename News g _ _ _ => N1
  with_unfolding_all refine while_cut (fun _ => news) (fun c : Int × Tok × Int × Tok => [(Str.ofString "lpos", .int c.1 c.2.1), (Str.ofString "amount", .int c.2.2.1 c.2.2.2)]) [] (fun c => 0 ≤ c.1 ∧ 0 ≤ c.2.2.1 ∧ c.1 + c.2.2.1 = k ∧ c.1 ≤ a) (fun c => c.2.2.1.toNat) (fun c => c.2.2.1 = 0 ∨ c.1 = a) ⟨0, _, k, tB⟩ F1 N1 (by kst_all) ⟨by dsimp only <;> omega, by dsimp only <;> omega, by dsimp only <;> omega, by dsimp only <;> omega⟩ ?_ ?_
  · rintro ⟨i, ti, j, tj⟩ u h tk' ⟨i1, i2, i3, i4⟩ F2 N2
    dsimp only at i1 i2 i3 i4 F2
    clear F1 N1
    k_steps
    · rename (_ == _) = true => hc
      rename Fr g _ _ _ => F3
      rename News g _ _ _ => N3
      have hi : i < a := by
        rcases Int.lt_or_eq_of_le i4 with hlt | rfl
        · exact hlt
        · exact absurd (beq_iff_eq.mp hc) (pad_first hnm)
      exact ⟨⟨i + 1, _, j - 1, _⟩, _, _, _, rfl, F3, N3, by kst_all, by (intro z h2 _; simp only [List.forall_mem_cons, List.not_mem_nil, false_implies, implies_true, and_true, ne_eq] at h2; simp [h2, kstB]), ⟨by dsimp only <;> omega, by dsimp only <;> omega, by dsimp only <;> omega, by dsimp only <;> omega⟩, by dsimp only <;> omega⟩
    · rename Fr g _ _ _ => F3
      rename News g _ _ _ => N3
      rename (_ == _) = false => hc
      have hi : i = a := by
        rcases Int.lt_or_eq_of_le i4 with hlt | rfl
        · exfalso
          obtain ⟨n, rfl⟩ := Int.eq_ofNat_of_zero_le i1
          rw [show Txt.item (pad a nm b) (n : Int) = Str.ofString " " from pad_left (by omega)] at hc
          simp at hc
        · rfl
      exact ⟨⟨i, ti, j, tj⟩, _, _, _, rfl, F3, N3, by kst_all, by (intro z h2 _; simp only [List.forall_mem_cons, List.not_mem_nil, false_implies, implies_true, and_true, ne_eq] at h2; simp [h2, kstB]), ⟨i1, i2, i3, i4⟩, .inr hi⟩
    · rename Fr g _ _ _ => F3
      rename News g _ _ _ => N3
      rename j = 0 => hj
      exact ⟨⟨i, ti, j, tj⟩, _, _, _, rfl, F3, N3, by kst_all, by (intro z h2 _; simp only [List.forall_mem_cons, List.not_mem_nil, false_implies, implies_true, and_true, ne_eq] at h2; simp [h2, kstB]), ⟨i1, i2, i3, i4⟩, .inl hj⟩
  · rintro ⟨i, ti, j, tj⟩ u h tk' ⟨i1, i2, i3, i4⟩ ho F2 N2
    dsimp only at i1 i2 i3 i4 ho F2
    clear F1 N1
    k_steps
    refine Hold.mk ?_
    rename Fr g _ _ _ => F1
    rename News g _ _ _ => N1
    with_unfolding_all refine while_cut (fun _ => news) (fun c : Int × Tok × Int × Tok => [(Str.ofString "rpos", .int c.1 c.2.1), (Str.ofString "amount", .int c.2.2.1 c.2.2.2)]) [] (fun c => 0 ≤ c.2.2.1 ∧ c.1 - c.2.2.1 = ((a + nm.length + b : Nat) : Int) - 1 - j ∧ ((a + nm.length : Nat) : Int) - 1 ≤ c.1 ∧ c.1 ≤ ((a + nm.length + b : Nat) : Int) - 1) (fun c => c.2.2.1.toNat) (fun c => c.2.2.1 = 0 ∨ c.1 = ((a + nm.length : Nat) : Int) - 1) ⟨((a + nm.length + b : Nat) : Int) - 1, _, j, tj⟩ F1 N1 (by kst_all) ⟨by dsimp only <;> omega, by dsimp only <;> omega, by dsimp only <;> omega, by dsimp only <;> omega⟩ ?_ ?_
    · rintro ⟨r, tr, q, tq⟩ u h tk' ⟨r1, r2, r3, r4⟩ F2 N2
      dsimp only at r1 r2 r3 r4 F2
      clear F1 N1
      k_steps
      · rename Fr g _ _ _ => F3
        rename News g _ _ _ => N3
        rename (_ == _) = true => hc
        rename q ≠ 0 => hq
        have hr : ((a + nm.length : Nat) : Int) - 1 ≠ r := by
          rintro rfl
          have := pad_last (a := a) (b := b) hnm
          rw [show ((a + nm.length - 1 : Nat) : Int) = ((a + nm.length : Nat) : Int) - 1 by omega] at this
          exact absurd (beq_iff_eq.mp hc) this
        exact ⟨⟨r - 1, _, q - 1, _⟩, _, _, _, rfl, F3, N3, by kst_all, by (intro z h2 _; simp only [List.forall_mem_cons, List.not_mem_nil, false_implies, implies_true, and_true, ne_eq] at h2; simp [h2, kstB]), ⟨by dsimp only <;> omega, by dsimp only <;> omega, by dsimp only <;> omega, by dsimp only <;> omega⟩, by dsimp only <;> omega⟩
      · rename Fr g _ _ _ => F3
        rename News g _ _ _ => N3
        rename (_ == _) = false => hc
        have hr : r = ((a + nm.length : Nat) : Int) - 1 := by
          rcases Int.lt_or_eq_of_le r3 with hlt | e
          · exfalso
            obtain ⟨n, rfl⟩ := Int.eq_ofNat_of_zero_le (show 0 ≤ r by omega)
            rw [show Txt.item (pad a nm b) (n : Int) = Str.ofString " " from pad_right (by omega) (by omega)] at hc
            simp at hc
          · exact e.symm
        exact ⟨⟨r, tr, q, tq⟩, _, _, _, rfl, F3, N3, by kst_all, by (intro z h2 _; simp only [List.forall_mem_cons, List.not_mem_nil, false_implies, implies_true, and_true, ne_eq] at h2; simp [h2, kstB]), ⟨r1, r2, r3, r4⟩, .inr hr⟩
      · rename Fr g _ _ _ => F3
        rename News g _ _ _ => N3
        rename q = 0 => hq
        exact ⟨⟨r, tr, q, tq⟩, _, _, _, rfl, F3, N3, by kst_all, by (intro z h2 _; simp only [List.forall_mem_cons, List.not_mem_nil, false_implies, implies_true, and_true, ne_eq] at h2; simp [h2, kstB]), ⟨r1, r2, r3, r4⟩, .inl hq⟩
    · rintro ⟨r, tr, q, tq⟩ u h tk' ⟨r1, r2, r3, r4⟩ ho2 F2 N2
      dsimp only at r1 r2 r3 r4 ho2 F2
      clear F1 N1
      k_steps
      refine slice_strN_ss (hsz := ?hz) (s := ⟨_, _, _, _, _⟩) F2 N2 ?_
      case hz => rw [pad_len, sizeLine_eq]; omega
      intro h9 t9 k9 F9 N9
      have e : Txt.slice (pad a nm b) (some i) (some (r + 1)) = pad (a - k) nm (b - (k - a)) := by
        obtain ⟨n, rfl⟩ := Int.eq_ofNat_of_zero_le i1
        obtain ⟨d, hd⟩ : ∃ d : Nat, r + 1 = ((a + nm.length + b - d : Nat) : Int) ∧ d ≤ b := ⟨(((a + nm.length + b : Nat) : Int) - 1 - r).toNat, by omega, by omega⟩
        rw [hd.1, pad_slice (by omega) hd.2]
        congr 1 <;> omega
      rw [e]
      clear F2 N2
      k_steps
      exact hret _ _ _ (by assumption) (by assumption)
end Mine

namespace Mine
/-- the table of a set that holds one text -/
def oneTab (w : World) (h : Int) : SetTable := { mask := 7, place := #[SetTable.bits h % 8], dummies := #[], finger := 0, led := !(w.params.followText "set-order"), moves := 0, plain := false }
/-- a set of one text -/
def oneSet (w : World) (x : Str) (t : Tok) : Obj := { cls := .type "set", dict := none, data := .set #[(hashStr w x, .str x t)] 1 (oneTab w (hashStr w x)) }
def noSet (w : World) : Obj := { cls := .type "set", dict := none, data := .set #[] 0 (.fresh 0 0 (!(w.params.followText "set-order"))) }
section
variable {prog : Program} {w : World} {A : Around} {E : Value → Shared → Prop} {s : Shared} {a : Addr} {x : Str} {t : Tok}
theorem free_fresh (led : Bool) (h : Int) : (SetTable.fresh 0 0 led).freeSlot h = some (SetTable.bits h % 8, false) := by
  unfold SetTable.freeSlot SetTable.probe SetTable.probeStart
  simp only [SetTable.fresh]
  have e : (10 * SetTable.turns 7) = 219 + 1 := by decide
  rw [e]
  unfold SetTable.probe.go
  have e2 : SetTable.slot { mask := 7, place := #[], dummies := #[], finger := 0, led := led, moves := 0, plain := true } (SetTable.bits h % (7 + 1)) = .empty := by
    simp [SetTable.slot, SetTable.has]
  simp only [e2]
  rfl
theorem lay_fresh (led : Bool) (h : Int) (v : Value) : layNew (.fresh 0 0 led) #[] h v = (#[(h, v)], { mask := 7, place := #[SetTable.bits h % 8], dummies := #[], finger := 0, led := led, moves := 0, plain := true }, false, false) := by
  unfold layNew
  rw [free_fresh]
  simp only [SetTable.put, SetTable.fresh]
  have e1 : SetTable.below #[] (SetTable.bits h % 8) = 0 := by rfl
  have e2 : SetTable.has #[] (SetTable.bits h % 8) = false := by simp [SetTable.has]
  simp [e1, e2, SetTable.insertAt, SetTable.orStandIn, SetTable.fits, SetTable.fill]
theorem add_one {Q : Bool → Shared → Prop} (ho : s.heap.get? a = some (noSet w))
    (h : Q true { s with heap := s.heap.update a (Obj.putSet #[(hashStr w x, .str x t)] (oneTab w (hashStr w x))) }) :
    wpAny (model prog w) A (setAddHashed a (.str x t) (hashStr w x)) Q E s := by
  unfold setAddHashed setAddHashedIn
  refine wpAny_holding (wpAny_bind (wpAny_setState_of ho rfl rfl ?_))
  dsimp only
  rw [show byScan (.str x t) #[] = true by simp [byScan, Value.scannable, scanBound]]
  simp only [↓reduceIte]
  unfold setAddByScan
  refine wpAny_bind ?_
  refine wpAny_bind (wpAny_rule ?_)
  refine wpAny_bind ?_
  refine wpAny_of_eq (a := ScanMet.absent) ?_ ?_
  · simp [setScan, setScanStrs]
  dsimp only
  rw [lay_fresh]
  dsimp only
  refine wpAny_bind (wpAny_pure ?_)
  simp only [↓reduceIte]
  rw [hashByValue_scannable 8 (show (Value.str x t).scannable = true from rfl)]
  refine wpAny_bind (wpAny_pure ?_)
  simp only [plainKind, Bool.false_eq_true, ↓reduceIte]
  refine wpAny_bind (wpAny_storeSet_of ho rfl ?_ (by rw [sizeLine_eq]; simp))
  rw [if_neg (by simp [SetTable.tooFull, SetTable.fill])]
  exact wpAny_pure (wpAny_pure h)
theorem put_one (x : Str) (t : Tok) : Obj.putSet #[(hashStr w x, .str x t)] (oneTab w (hashStr w x)) (noSet w) = oneSet w x t := rfl
theorem set_new {Q₁ : Value → Shared → Prop} (v : Value)
    (h : Q₁ (.ref s.heap.objs.size) { s with heap := s.heap.push (noSet w) }) :
    codeAny (model prog w) A (.call (.builtin "set.__new__") ⟨[.type "set", v], []⟩) (wants Q₁ E) s := by
  refine codeAny_of_tree ?_
  show wpAny _ A.in1 (do checkBuiltinCall "set.__new__" ⟨[.type "set", v], []⟩; again (.builtin "set.__new__" ⟨[.type "set", v], []⟩)) _ _ s
  refine wpAny_bind (wpAny_of_eq (PySem.F.newCall_set_1 v) (wpAny_pure ⟨plainId_quiet PySem.F.plain_set_new _, codeAny_builtin PySem.F.entry_set_new ?_⟩))
  rw [Around.under_plainId PySem.F.plain_set_new _]
  unfold Builtin.«set.__new__» Builtin.Frozenset.newClass
  have hsub := sub_set_self
  obtain ⟨hp, g, d, tk, os⟩ := s
  dsimp only
  wp_walk
  refine wpAny_askSetting (wpAny_pure ?_)
  dsimp only
  simp only [newObj]
  refine wpAny_bind (wpAny_alloc (wpAny_pure ?_))
  exact wpAny_pure h
theorem update_one {R : Result → Shared → Prop} {I l : Addr} (hh : A.handled = none) (hne : l ≠ I) (hI : s.heap.IsListIter I l 0) (hl : s.heap.IsList l #[.str x t]) (ho : s.heap.get? a = some (noSet w)) (h1 : a ≠ I) (h2 : a ≠ l)
    (h : ∀ h' tk, h'.get? a = some (oneSet w x t) → (∀ b o, b ≠ a → b ≠ I → s.heap.get? b = some o → h'.get? b = some o) → R (.ok (.ret .none)) { s with heap := h', toks := tk }) :
    codeAny (model prog w) A (.builtin "set.update.loop" ⟨[.ref a, .ref I], []⟩) R s := by
  have hh1 : A.in1.handled = none := hh
  have W := Walks.list (prog := prog) (w := w) hh1 I l hne #[.str x t]
  refine codeAny_builtin PyProof.Rows.F.entry_set_update_loop ?_
  rw [Around.under_plainId PyProof.Rows.F.plain_set_update_loop _]
  show wpAny _ A.in1 (pyNext (.ref I) >>= _) _ _ s
  refine wpAny_bind (W.item 0 s _ _ (by simp) ⟨hI, hl⟩ fun v h₁ tk₁ hP hst hk => ?_)
  have hv : v = .str x t := by simpa using hP.symm
  subst hv
  have ho₁ : h₁.get? a = some (noSet w) := hk a _ (by simp [h1]) ho
  show wpAny _ A.in1 (holding [Value.str x t] (setAdd a (.str x t)) >>= _) _ _ _
  refine wpAny_bind (wpAny_holding ?_)
  unfold setAdd
  refine wpAny_holding ?_
  refine wpAny_bind ((strKind prog w).pyHash (k := x) (strKind_is _ _ _ _) ?_)
  refine add_one (s := { s with heap := h₁, toks := tk₁ + 1 }) ho₁ ?_
  refine wpAny_pure ⟨plainId_quiet PyProof.Rows.F.plain_set_update_loop _, ?_⟩
  have sb := Heap.SameBut.update h₁ a (Obj.putSet #[(hashStr w x, .str x t)] (oneTab w (hashStr w x)))
  have ho₂ : (h₁.update a (Obj.putSet #[(hashStr w x, .str x t)] (oneTab w (hashStr w x)))).get? a = some (oneSet w x t) := by
    have := Heap.get?_update_self (Obj.putSet #[(hashStr w x, .str x t)] (oneTab w (hashStr w x))) ho₁ rfl
    rw [put_one] at this
    exact this
  have hst₂ := W.frame 1 _ (h₁.update a (Obj.putSet #[(hashStr w x, .str x t)] (oneTab w (hashStr w x)))) hst fun b hb o e => by
    rw [sb.2 b (by rintro rfl; simp at hb; exact hb.elim h1 h2)]
    exact e
  refine codeAny_builtin PyProof.Rows.F.entry_set_update_loop ?_
  rw [Around.under_plainId PyProof.Rows.F.plain_set_update_loop _]
  show wpAny _ A.in1 (pyNext (.ref I) >>= _) _ _ _
  refine wpAny_bind (W.done _ _ _ hst₂ fun h₂ tk₂ hk₂ => ?_)
  show wpAny _ A.in1 (ret Value.none) _ _ _
  refine wpAny_pure (h h₂ tk₂ (hk₂ a _ (by simp [h1]) ho₂) fun b o hb hbI e => ?_)
  refine hk₂ b o (by simp [hbI]) ?_
  rw [sb.2 b hb]
  exact hk b o (by simp [hbI]) e

set_option maxHeartbeats 3200000 in
theorem call_set_one {l : Addr} {Q : Value → Shared → Prop}
    (hh : A.handled = none) (hl : s.heap.IsList l #[.str x t])
    (h : ∀ (h' : Heap) (tk : Nat), h'.get? s.heap.objs.size = some (oneSet w x t) →
      (∀ b o, b < s.heap.objs.size → s.heap.get? b = some o → h'.get? b = some o) → Q (.ref s.heap.objs.size) { s with heap := h', toks := tk }) :
    wpAny (model prog w) A (call (.type "set") [.ref l]) Q E s := by
  obtain ⟨c, tl, hmro⟩ := PySem.F.called_set.mro
  have hmade := PySem.F.called_set.made
  have hsub := PySem.F.called_set.sub
  refine wpAny_call (codeAny_of_tree ?_)
  show wpAny _ _ (callAny (.type "set") _) _ _ _
  refine wpAny_pure ⟨Code.quiet_builtin _ (by decide +kernel), codeAny_builtin PySem.F.entry_type_call ?_⟩
  rw [Around.under_plain (weight_type_call_type "set" [.ref l] []) rfl]
  have h1 := PySem.F.called_set.notType
  have h2 := PySem.F.called_set.canCreate
  have hct := PySem.F.typeCall_set_1 (.ref l)
  repeat (any_goals (first | assumption | wp_step))
  refine codeAny_mono (set_new (.ref l) (E := E) (Q₁ := fun obj s₁ => obj = .ref s.heap.objs.size ∧ s₁ = { s with heap := s.heap.push (noSet w) }) ⟨rfl, rfl⟩) fun r s₁ hr => ?_
  cases r with
  | error e => exact hr
  | ok fl =>
    cases fl with
    | ret obj =>
      obtain ⟨rfl, rfl⟩ := hr
      have hS : (s.heap.push (noSet w)).get? s.heap.objs.size = some (noSet w) := Heap.get?_push_size _ rfl
      have hT : Shared.TypeIs { s with heap := s.heap.push (noSet w) } (.ref s.heap.objs.size) "set" := ⟨_, hS, rfl⟩
      have hli := PySem.F.called_set.init.lookup
      have hbi := PySem.F.called_set.init.bind (.ref s.heap.objs.size)
      repeat (any_goals (first | assumption | wp_step))
      refine codeAny_mono (codeAny_call_builtin (R := wants (fun r s₂ => r = .none ∧ ∃ h' tk, s₂ = { s with heap := h', toks := tk } ∧
          h'.get? s.heap.objs.size = some (oneSet w x t) ∧ (∀ b o, b < s.heap.objs.size → s.heap.get? b = some o → h'.get? b = some o)) E) PySem.F.called_set.init.plain PySem.F.entry_set_init (check_set_init_1 hT ?_)) fun r₂ s₂ hr₂ => ?_
      · obtain ⟨ol, hol, hcl, nl, hdl⟩ := hl
        obtain ⟨ocls, odict, odata, oslots⟩ := ol
        simp only at hcl hdl
        subst hcl; subst hdl
        have hol' : (s.heap.push (noSet w)).get? l = some { cls := .type "list", dict := odict, data := .seq #[.str x t] nl, slots := oslots } := Heap.get?_push_of_some _ hol
        have hsls := PySem.F.sub_list_set
        have hslf := PySem.F.sub_list_frozenset
        have hne : (Value.type "list" == Value.type "dict") = false := by decide
        have hl1 : (s.heap.push (noSet w)).IsList l #[.str x t] := ⟨_, hol', rfl, nl, rfl⟩
        unfold Builtin.«set.__init__» noKeywords Builtin.Frozenset.updateFrom
        generalize hPI : pyIter = PI
        unfold noSet at *
        wp_walk
        subst hPI
        refine wpAny_pyIter_list hl1 ?_
        refine wpAny_bind (wpAny_runValue ?_)
        have hlS : l < s.heap.objs.size := Heap.lt_size hol
        have hh3 : A.in1.in1.in1.handled = none := by simp [hh]
        have sz : (s.heap.push (noSet w)).objs.size = s.heap.objs.size + 1 := Heap.size_push ..
        refine update_one hh3 (l := l) (x := x) (t := t) (by rw [Heap.size_push]; exact Nat.ne_of_lt (Nat.lt_succ_of_lt hlS)) ⟨_, Heap.get?_push_size _ rfl, rfl, rfl⟩ (hl1.push _) (Heap.get?_push_of_some _ hS) (by rw [Heap.size_push]; exact Nat.ne_of_lt (Nat.lt_succ_self _)) (Nat.ne_of_gt hlS) fun h' tk e1 e2 => ?_
        show wpAny _ _ _ _ _ _
        refine wpAny_pure ?_
        show wpAny _ _ (ret Value.none) _ _ _
        refine wpAny_pure ⟨rfl, h', tk, rfl, e1, fun b o hb e => e2 b o (Nat.ne_of_lt hb) (by rw [Heap.size_push]; exact Nat.ne_of_lt (Nat.lt_succ_of_lt hb)) (Heap.get?_push_of_some _ (Heap.get?_push_of_some _ e))⟩
      · cases r₂ with
        | error e => exact hr₂
        | ok fl₂ =>
          cases fl₂ with
          | ret r =>
            obtain ⟨rfl, h', tk, rfl, hS', hk'⟩ := hr₂
            repeat (any_goals (first | assumption | wp_step))
            exact h _ _ hS' hk'
          | _ => exact hr₂.elim
    | _ => exact hr.elim
end
end Mine

namespace Mine
theorem owner_si : Manifest.owners.lookup (String.ofList ['r', 'o', 't', 'a', 'r', 'e', 't', 'i', '_', 't', 'e', 's'].reverse) = some Manifest.sig_set_iterator := by kernel_rfl
theorem slot_si_next : Slot "set_iterator" "__next__" "set_iterator.__next__" :=
  .of (owner := "set_iterator") (n := "__next__") (by rw [typeLookup_type, builtinLookup_eq_fast]; kernel_rfl) (by decide +kernel) (by decide +kernel) (by decide +kernel)
    (by first | exact .inl (by decide +kernel) | exact .inr (by decide +kernel)) (by rw [isSubtype_type]; kernel_rfl)
theorem entry_si_next : entryFor table "set_iterator.__next__" = some Builtin.«set_iterator.__next__» := entryFor_of_tree (by kernel_rfl)
theorem args_si_next (a : Value) : argsOk "set_iterator.__next__" ⟨[a], []⟩ := by
  unfold argsOk; rw [signature?_of (id := "set_iterator.__next__") (n := ['_', '_', 't', 'x', 'e', 'n', '_', '_']) (o := ['r', 'o', 't', 'a', 'r', 'e', 't', 'i', '_', 't', 'e', 's']) (by kernel_rfl) owner_si]; kernel_rfl
theorem slot_si_iter : Slot "set_iterator" "__iter__" "set_iterator.__iter__" :=
  .of (owner := "set_iterator") (n := "__iter__") (by rw [typeLookup_type, builtinLookup_eq_fast]; kernel_rfl) (by decide +kernel) (by decide +kernel) (by decide +kernel)
    (by first | exact .inl (by decide +kernel) | exact .inr (by decide +kernel)) (by rw [isSubtype_type]; kernel_rfl)
theorem args_si_iter (a : Value) : argsOk "set_iterator.__iter__" ⟨[a], []⟩ := by
  unfold argsOk; rw [signature?_of (id := "set_iterator.__iter__") (n := ['_', '_', 'r', 'e', 't', 'i', '_', '_']) (o := ['r', 'o', 't', 'a', 'r', 'e', 't', 'i', '_', 't', 'e', 's']) (by kernel_rfl) owner_si]; kernel_rfl
theorem entry_si_iter : entryFor table "set_iterator.__iter__" = some Builtin.«dict_keyiterator.__iter__» :=
  entryFor_alias (id' := "dict_keyiterator.__iter__") (by rw [fastTable_eq_tree]; kernel_rfl) (by first | rfl | decide +kernel) (by decide +kernel) (by rw [fastTable_eq_tree]; kernel_rfl)
theorem entry_set_iter : entryFor table "set.__iter__" = some Builtin.«frozenset.__iter__» :=
  entryFor_alias (id' := "frozenset.__iter__") (by rw [fastTable_eq_tree]; kernel_rfl) (by first | rfl | decide +kernel) (by decide +kernel) (by rw [fastTable_eq_tree]; kernel_rfl)
end Mine

namespace Mine
/-- where the set's iterator stands behind its one element -/
def nxt (w : World) (x : Str) : Nat := if w.params.followText "set-order" then 0 else SetTable.bits (hashStr w x) % 8 + 1
def iterObj (w : World) (x : Str) (sm : Addr) (k : Nat) : Obj := { cls := .type "set_iterator", data := .fields #[rawInt (if k = 0 then 0 else nxt w x : Nat), rawInt k, .ref sm, rawInt 1, rawInt 1] }
section
variable {prog : Program} {w : World} {A : Around} {E : Value → Shared → Prop} {s : Shared} {a I sm : Addr} {x : Str} {t : Tok}
theorem fits_one (w : World) (h : Int) : (oneTab w h).fits 1 = true := by simp [oneTab, SetTable.fits, SetTable.fill]
theorem pick_one {α : Type} (f : Nat → Nat) (e : α) : pickOrder f #[e] = #[e] := by
  unfold pickOrder
  simp [pickOrder.go, Nat.mod_one]
theorem walk_text {Q : Array (Int × Value) → Shared → Prop} (ho : s.heap.get? sm = some (oneSet w x t)) (hb : w.params.followText "set-order" = true) (h : Q #[(hashStr w x, .str x t)] s) : wpAny (model prog w) A (setWalk sm) Q E s := by
  unfold setWalk
  refine wpAny_bind (wpAny_setState_of ho rfl (fits_one w _) ?_)
  dsimp only
  unfold setsByText
  refine wpAny_bind (wpAny_bind (wpAny_askSetting (wpAny_pure ?_)))
  show wpAny _ _ (if w.params.followText "set-order" = true then _ else _) _ _ _
  rw [if_pos hb]
  refine wpAny_bind (wpAny_askSetting ?_)
  refine wpAny_pure ?_
  rw [pick_one]
  exact h
theorem below_one (j : Nat) (i : Nat) : SetTable.below #[j] i = if j < i then 1 else 0 := by
  unfold SetTable.below SetTable.below.go
  simp [SetTable.below.go]
theorem next_item {Q : Option (Value × Nat) → Shared → Prop} (ho : s.heap.get? sm = some (oneSet w x t)) (h : Q (some (.str x t, nxt w x)) s) : wpAny (model prog w) A (setNext sm 0 0 1) Q E s := by
  unfold setNext
  refine wpAny_bind (wpAny_setState_of ho rfl (fits_one w _) ?_)
  dsimp only
  unfold setsByText
  refine wpAny_bind (wpAny_bind (wpAny_askSetting (wpAny_pure ?_)))
  show wpAny _ _ (if w.params.followText "set-order" = true then _ else _) _ _ _
  unfold nxt at h
  by_cases hb : w.params.followText "set-order" = true
  · rw [if_pos hb] at h ⊢
    simp only [bne_self_eq_false, Bool.false_eq_true, if_false]
    refine wpAny_bind (walk_text ho hb ?_)
    exact wpAny_pure h
  · rw [if_neg hb] at h ⊢
    have hl : (oneTab w (hashStr w x)).led = true := by simp [oneTab, hb]
    refine wpAny_bind ?_
    show wpAny _ _ (if (!(oneTab w (hashStr w x)).led && !(#[(hashStr w x, Value.str x t)] : Array (Int × Value)).isEmpty) = true then _ else _) _ _ _
    rw [if_neg (by rw [hl]; simp)]
    refine wpAny_pure (wpAny_pure ?_)
    have e : (oneTab w (hashStr w x)).place = #[SetTable.bits (hashStr w x) % 8] := rfl
    rw [e, below_one, if_neg (by omega)]
    exact h
theorem next_none {Q : Option (Value × Nat) → Shared → Prop} (ho : s.heap.get? sm = some (oneSet w x t)) (h : Q none s) : wpAny (model prog w) A (setNext sm (nxt w x) 1 1) Q E s := by
  unfold setNext
  refine wpAny_bind (wpAny_setState_of ho rfl (fits_one w _) ?_)
  dsimp only
  unfold setsByText
  refine wpAny_bind (wpAny_bind (wpAny_askSetting (wpAny_pure ?_)))
  show wpAny _ _ (if w.params.followText "set-order" = true then _ else _) _ _ _
  unfold nxt
  by_cases hb : w.params.followText "set-order" = true
  · rw [if_pos hb]
    simp only [bne_self_eq_false, Bool.false_eq_true, if_false]
    refine wpAny_bind (walk_text ho hb ?_)
    exact wpAny_pure h
  · rw [if_neg hb, if_neg hb]
    have hl : (oneTab w (hashStr w x)).led = true := by simp [oneTab, hb]
    refine wpAny_bind ?_
    show wpAny _ _ (if (!(oneTab w (hashStr w x)).led && !(#[(hashStr w x, Value.str x t)] : Array (Int × Value)).isEmpty) = true then _ else _) _ _ _
    rw [if_neg (by rw [hl]; simp)]
    refine wpAny_pure (wpAny_pure ?_)
    have e : (oneTab w (hashStr w x)).place = #[SetTable.bits (hashStr w x) % 8] := rfl
    rw [e, below_one, if_pos (by omega)]
    exact h
theorem iter_type {k : Nat} (hi : s.heap.get? I = some (iterObj w x sm k)) : s.TypeIs (.ref I) "set_iterator" := ⟨_, hi, rfl⟩
theorem pyNext_one {Q : Option Value → Shared → Prop} (hi : s.heap.get? I = some (iterObj w x sm 0)) (ho : s.heap.get? sm = some (oneSet w x t))
    (hQ : ∀ h', h'.get? I = some (iterObj w x sm 1) → Heap.SameBut I s.heap h' → Q (some (.str x t)) { s with heap := h' }) : wpAny (model prog w) A (pyNext (.ref I)) Q E s := by
  unfold pyNext
  refine wpAny_bind (wpAny_attempt (wpAny_callSpecial?_slot (name := Str.ofString "__next__") (iter_type hi) slot_si_next
    (wpAny_call_entry slot_si_next (iter_type hi) entry_si_next ?_ (args_si_next _))))
  unfold Builtin.«set_iterator.__next__»
  refine wpAny_bind (wpAny_of_eq (a := (Value.ref I, [])) rfl ?_)
  refine wpAny_bind (wpAny_fieldsOf hi rfl ?_)
  show wpAny _ _ (setEntries sm >>= _) _ _ s
  refine wpAny_bind (wpAny_setEntries_of ho rfl (fits_one w _) ?_)
  dsimp only
  rw [if_neg (by simp)]
  refine wpAny_bind (next_item ho ?_)
  dsimp only
  refine wpAny_bind (wpAny_setField_rec hi (by simp) fun h₁ e₁ b₁ => ?_)
  refine wpAny_bind (wpAny_setField_rec (s := { s with heap := h₁ }) e₁ (by simp) fun h₂ e₂ b₂ => ?_)
  refine wpAny_pure ⟨_, rfl, wpAny_pure (hQ h₂ ?_ (b₁.trans b₂))⟩
  rw [e₂]
  simp [iterObj]
theorem pyNext_none {Q : Option Value → Shared → Prop} (hh : A.handled = none) (hi : s.heap.get? I = some (iterObj w x sm 1)) (ho : s.heap.get? sm = some (oneSet w x t))
    (hQ : ∀ h', Heap.ExtBut I s.heap h' → Q none { s with heap := h' }) : wpAny (model prog w) A (pyNext (.ref I)) Q E s := by
  unfold pyNext
  refine wpAny_bind (wpAny_attempt (wpAny_callSpecial?_slot (name := Str.ofString "__next__") (iter_type hi) slot_si_next
    (wpAny_call_entry slot_si_next (iter_type hi) entry_si_next ?_ (args_si_next _))))
  unfold Builtin.«set_iterator.__next__»
  refine wpAny_bind (wpAny_of_eq (a := (Value.ref I, [])) rfl ?_)
  refine wpAny_bind (wpAny_fieldsOf hi rfl ?_)
  show wpAny _ _ (setEntries sm >>= _) _ _ s
  refine wpAny_bind (wpAny_setEntries_of ho rfl (fits_one w _) ?_)
  dsimp only
  rw [if_neg (by simp)]
  refine wpAny_bind (next_none ho ?_)
  dsimp only
  refine wpAny_bind (wpAny_setField_rec hi (by simp) fun h₁ e₁ b₁ => ?_)
  first
  | show wpAny _ _ (newExc (.type "StopIteration") [] >>= _) _ _ _
  | (refine wpAny_bind ?_; show wpAny _ _ (newExc (.type "StopIteration") [] >>= _) _ _ _)
  refine wpAny_bind ?_
  simp only [newExc, newTuple]
  refine wpAny_bind (wpAny_newObj_type ?_ (by size_fits))
  refine wpAny_bind (m := firstArgMember _ _) (wpAny_of_eq (a := Value.none) (by first | rfl | (simp only [firstArgMember]; rfl)) ?_)
  refine wpAny_newObj_type ?_ (by size_fits)
  simp only [raiseNew]
  refine wpAny_bind (wpAny_handled ?_)
  first | rw [show A.in1.handled = none from hh] | rw [hh]
  refine wpAny_bind (wpAny_pure (wpAny_throw ?_))
  refine wpAny_bind (wpAny_isInstance (T := "StopIteration") (b := true) ⟨_, Heap.get?_push_size _ rfl, rfl⟩ isSubtype_stop ?_)
  exact wpAny_pure (hQ _ ((b₁.extBut.push _).push _))
theorem pyIter_again {k : Nat} {Q : Value → Shared → Prop} (hi : s.heap.get? I = some (iterObj w x sm k)) (h : Q (.ref I) s) : wpAny (model prog w) A (pyIter (.ref I)) Q E s := by
  refine wpAny_pyIter_slot (iter_type hi) slot_si_iter (wpAny_call_entry slot_si_iter (iter_type hi) entry_si_iter ?_ (args_si_iter _))
  show wpAny _ _ (ret (.ref I)) _ _ s
  exact wpAny_pure ⟨_, rfl, "set_iterator", _, iter_type hi, slot_si_next.lookup, h⟩
theorem pyIter_one {Q : Value → Shared → Prop} (ho : s.heap.get? sm = some (oneSet w x t)) (h : Q (.ref s.heap.objs.size) { s with heap := s.heap.push (iterObj w x sm 0) }) : wpAny (model prog w) A (pyIter (.ref sm)) Q E s := by
  have hT : s.TypeIs (.ref sm) "set" := ⟨_, ho, rfl⟩
  refine wpAny_pyIter_slot hT PySem.F.slot_set_iter (wpAny_call_entry PySem.F.slot_set_iter hT entry_set_iter ?_ (PySem.F.args_set_iter_1 _))
  unfold Builtin.«frozenset.__iter__»
  refine wpAny_bind (wpAny_of_eq (a := sm) rfl ?_)
  unfold Builtin.Frozenset.sizeOf
  refine wpAny_bind (wpAny_bind (wpAny_setEntries_of ho rfl (fits_one w _) (wpAny_pure ?_)))
  unfold setDrawn
  refine wpAny_bind (wpAny_bind (wpAny_setState_of ho rfl (fits_one w _) ?_))
  dsimp only
  unfold setsByText
  refine wpAny_bind (wpAny_bind (wpAny_askSetting (wpAny_pure (wpAny_pure ?_))))
  show wpAny _ _ (if (!w.params.followText "set-order" && false) = true then _ else _) _ _ _
  rw [if_neg (by simp)]
  refine wpAny_bind (wpAny_pure ?_)
  refine wpAny_bind (wpAny_setEpoch_of ho rfl (fits_one w _) ?_)
  refine wpAny_bind (wpAny_newObj_type (wpAny_pure ⟨_, rfl, "set_iterator", _, ⟨_, Heap.get?_push_size _ rfl, rfl⟩, slot_si_next.lookup, ?_⟩))
  exact h
theorem Walks_one (hh : A.handled = none) (hne : sm ≠ I) : Walks prog w A I [I, sm] [I] 1 (fun _ v => v = .str x t) (fun i h => h.get? I = some (iterObj w x sm i) ∧ h.get? sm = some (oneSet w x t)) where
  sub := fun b hb => by simp at hb; simp [hb]
  frame := fun _ _ _ st hk => ⟨hk I (by simp) _ st.1, hk sm (by simp) _ st.2⟩
  item := fun i s Q E hi st hQ => by
    obtain rfl : i = 0 := by omega
    exact pyNext_one st.1 st.2 fun h' e b => hQ _ h' s.toks rfl ⟨e, (b.2 sm hne).trans st.2⟩ fun b' o hb e' => b.extBut b' o (fun h => hb (by simp [h])) e'
  done := fun s Q E st hQ => pyNext_none hh st.1 st.2 fun h' he' => hQ h' s.toks fun b o hb e => he' b o (fun h => hb (by simp [h])) e
  self := fun _ _ _ _ st hQ => pyIter_again st.1 hQ
end
end Mine

namespace Mine
section
variable {prog : Program} {w : World} {A : Around} {E : Value → Shared → Prop} {s : Shared} {sm : Addr} {lb : Str} {t : Tok} {h₀ : Heap} {L : Addr} {m₀ : Str → Option Value} {news : List (Addr × Obj)}
theorem one_setOf (ho : s.heap.get? sm = some (oneSet w lb t)) : s.heap.SetOf (strKind prog w) sm (fun k => decide (k = lb)) 1 :=
  ⟨_, _, _, _, ho, ⟨rfl, rfl, rfl⟩, rfl, fun e he => by
    simp at he; subst he
    exact ⟨⟨lb, strKind_is prog w lb t, rfl⟩, rfl⟩, fun k => by
    constructor
    · intro e
      have : k = lb := of_decide_eq_true e
      subst this
      exact ⟨_, List.mem_singleton.mpr rfl, strKind_is prog w k t⟩
    · rintro ⟨e, he, hk⟩
      have : e = (hashStr w lb, Value.str lb t) := by simpa using he
      subst this
      exact decide_eq_true ((strKind prog w).inj _ _ _ hk (strKind_is prog w lb t)), by simp [scanBound], fits_one w _, rfl⟩
theorem in_one {k : Str} {tk : Tok} {Q : Value → Shared → Prop} (N : News h₀ L s.heap news) (hm : (sm, oneSet w lb t) ∈ news) (h : Q (.bool (decide (k = lb))) { s with toks := s.toks + 1 }) :
    wpAny (model prog w) A (compareOp .In (.str k tk) (.ref sm)) Q E s :=
  wpAny_inSet_of (knd := strKind prog w) (strKind_is prog w k tk) rfl (one_setOf (N _ hm).1) h
/-- a turn's end of the loop over the one element -/
def OneEnd (h₀ : Heap) (L : Addr) (x : Str) (m₀ : Str → Option Value) (led : List (Addr × Obj)) (s₁ : Shared) (R : Prop) (Q : Flow → Shared → Prop) (f : Flow) (s₂ : Shared) : Prop :=
  match f with
  | .ret v => Q (.ret v) s₂
  | .brk => Q .next s₂
  | _ => R ∧ ∃ h' tk' m', s₂ = { s₁ with heap := h', toks := tk' } ∧ Fr h₀ L h' m' ∧ News h₀ L h' led ∧ ∀ z, z ≠ x → m' z = m₀ z
theorem iter_one {env : Env} {x : Str} {body : List Stmt} {Q : Flow → Shared → Prop} (R : Prop) (hh : A.handled = none) (F : Fr h₀ env.locals s.heap m₀) (N : News h₀ env.locals s.heap news) (hm : (sm, oneSet w lb t) ∈ news)
    (turn : ∀ h tk own, Fr h₀ env.locals h (fun y => if y = x then some (.str lb t) else m₀ y) → News h₀ env.locals h (news ++ own) →
      wpAny (model prog w) A (execs body env) (OneEnd h₀ env.locals x m₀ (news ++ own) { s with heap := h, toks := tk } R Q) E { s with heap := h, toks := tk })
    (done : ∀ (u : Str → Option Value) h tk, R → Fr h₀ env.locals h (fun y => if y = x then u y else m₀ y) → News h₀ env.locals h news → Q .next { s with heap := h, toks := tk }) :
    wpAny (model prog w) A (pyIter (.ref sm)) (fun it s₂ => LoopAtV prog w A h₀ env x body Q E it s₂) E s := by
  have hs := (N _ hm).1
  have hlt : sm < s.heap.objs.size := Heap.lt_size hs
  refine pyIter_one hs ?_
  have hne : sm ≠ s.heap.objs.size := Nat.ne_of_lt hlt
  have W := Walks_one (prog := prog) (w := w) (A := A) (I := s.heap.objs.size) (sm := sm) (x := lb) (t := t) hh hne
  refine ⟨_, _, _, 1, _, _, m₀, news, (fun i m news₁ => news₁ = news ∧ (i = 1 → R) ∧ ∀ z, z ≠ x → m z = m₀ z), rfl, W, ?_, ?_, ?_, ⟨Heap.get?_push_size _ rfl, Heap.get?_push_of_some _ hs⟩, F.push _, (fun p hp => ⟨Heap.get?_push_of_some _ (N p hp).1, (N p hp).2⟩), ⟨rfl, fun h => absurd h (by decide), fun _ _ => rfl⟩, ?_, ?_⟩
  · intro hm'
    rcases List.mem_cons.mp hm' with e | hm'
    · exact absurd F.ns.lt (e ▸ Nat.lt_irrefl _)
    · exact (N _ hm).2.1 (List.mem_singleton.mp hm').symm
  · intro b hb
    rw [List.mem_singleton.mp hb]
    exact next_is_new F
  · intro p hp hI
    exact absurd (Heap.lt_size (N p hp).1) ((List.mem_singleton.mp hI) ▸ Nat.lt_irrefl _)
  · rintro i v m₁ news₁ s₁ own ⟨h₁, tk₁, rfl⟩ hin hP ⟨rfl, _, hJ⟩ hoff _ _ _ _ F₁ N₁
    have hv : v = .str lb t := hP
    subst hv
    have e : (fun y => if y = x then some (Value.str lb t) else m₁ y) = fun y => if y = x then some (Value.str lb t) else m₀ y := by
      funext y
      by_cases hy : y = x
      · simp [hy]
      · simp only [if_neg hy]; exact hJ y hy
    rw [e] at F₁
    have N₂ : News h₀ env.locals h₁ (news₁ ++ own) := fun p hp => N₁ p ((List.mem_append.mp hp).elim (fun h => List.mem_append.mpr (.inr h)) fun h => List.mem_append.mpr (.inl h))
    refine wpAny_mono (turn h₁ tk₁ own F₁ N₂) (fun f s₂ p => ?_) fun _ _ e => e
    have fin : (R ∧ ∃ h' tk' m', s₂ = { s with heap := h', toks := tk' } ∧ Fr h₀ env.locals h' m' ∧ News h₀ env.locals h' (news₁ ++ own) ∧ ∀ z, z ≠ x → m' z = m₀ z) →
        LoopStepU h₀ env.locals [s.heap.objs.size] own (fun m' news' => news' = news₁ ∧ (i + 1 = 1 → R) ∧ ∀ z, z ≠ x → m' z = m₀ z) { s with heap := h₁, toks := tk₁ } .next s₂ := by
      rintro ⟨hR, h', tk', m', e', F', N', hz⟩
      exact ⟨rfl, h', tk', m', news₁, e', F', fun p hp => N' p ((List.mem_append.mp hp).elim (fun h => List.mem_append.mpr (.inr h)) fun h => List.mem_append.mpr (.inl h)), hoff, rfl, fun _ => hR, hz⟩
    cases f with
    | ret v => exact .ret p
    | brk => exact .brk p
    | next => exact .next (fin p)
    | cont => exact .cont (fin p)
  · rintro h' tk m' news' F' N' _ ⟨rfl, hR, hJ⟩
    refine done m' h' tk (hR rfl) ?_ N'
    have e : (fun y => if y = x then m' y else m₀ y) = m' := by
      funext y
      by_cases hy : y = x
      · simp [hy]
      · simp only [if_neg hy]; exact (hJ y hy).symm
    rw [e]; exact F'
theorem set_one_N {l : Addr} {n : Nat} {Q : Value → Shared → Prop} (hh : A.handled = none) (F : Fr h₀ L s.heap m₀) (N : News h₀ L s.heap news) (hm : (l, W.listOf #[.str lb t] n) ∈ news)
    (h : ∀ D h' (tk : Nat), Fr h₀ L h' m₀ → News h₀ L h' ((D, oneSet w lb t) :: news) → (∀ p ∈ news, p.1 < D) → Q (.ref D) { s with heap := h', toks := tk }) :
    wpAny (model prog w) A (call (.type "set") [.ref l]) Q E s := by
  refine call_set_one hh (News.isList N hm) fun h' tk ho hk => ?_
  obtain ⟨oL, _, _, hL, _⟩ := F.ns
  have hLlt : L < s.heap.objs.size := Heap.lt_size hL
  refine h _ h' tk ⟨F.ns.at' fun o' e => hk L o' hLlt e, fun b o' e => hk b o' (Heap.lt_size (F.keep b o' e)) (F.keep b o' e), F.above⟩ (fun p hp => ?_) fun p hp => Heap.lt_size (N p hp).1
  rcases List.mem_cons.mp hp with rfl | hp
  · refine ⟨ho, Nat.ne_of_gt hLlt, ?_⟩
    cases hq : h₀.get? s.heap.objs.size with
    | none => rfl
    | some o' => exact absurd (Heap.lt_size (F.keep _ _ hq)) (Nat.lt_irrefl _)
  · exact ⟨hk _ _ (Heap.lt_size (N p hp).1) (N p hp).1, (N p hp).2.1, (N p hp).2.2⟩
end
end Mine

namespace Mine
/-- the dict of a reader -/
abbrev readerD (hs : Int × Int × Int) (ts : Tok × Tok × Tok) (D dl g : Addr) (n : Nat) : Obj := dictOf [⟨hs.1, .str (Str.ofString "_mods") ts.1, .ref D⟩, ⟨hs.2.1, .str (Str.ofString "_dirs") ts.2.1, .ref dl⟩, ⟨hs.2.2, .str (Str.ofString "_ignore") ts.2.2, .ref g⟩] n
/-- a cache: a dict of texts and ints -/
structure Cache (w : World) (g : Addr) (o : Obj) (c : List (Str × Int)) : Prop where
  low : (g == sysModules) = false
  dict : ∃ kvs, o.IsDictOf (strKind PySem.Challenge.rw_ny0044_01.row.toRowW.prog w) kvs ∧ PyProof.V.FlatPairs PyData.str kvs (kdpD c)
local macro_rules | `(tactic| k_steps) => `(tactic| repeat' (first | (k_unfold; (try dsimp only)) | walk1 | (dsimp only; walk1) | (leave1; (try dsimp only)) | fail "no step"))
local macro_rules | `(tactic| walk_at "truthy ref") => `(tactic| refine Mine.Hold.out ?_)
local macro_rules | `(tactic| walk_at "call type:set") => `(tactic| refine Mine.Hold.out ?_)
set_option maxRecDepth 100000 in
set_option maxHeartbeats 8000000 in
theorem make_ok (w : World) (mean : ExcName → Option Value) (mg mb : Str → Option Value) (news : List (Addr × Obj)) (l : Addr) (lb : Str) (t : Tok) 
    (dp un : Nat) (gd : Option (List Code)) (cn : Str) (cs : Scope) (a₀ : Addr) (ccd : Value) (cl : List (Str × Addr)) (outer : List Env) (A₀ : Around) (base h₀ : Heap) (L : Addr) (m : Str → Option Value) (S : Shared) (Q E : Value → Shared → Prop) :
    Below A₀ base outer h₀ → Fr h₀ L S.heap m → (Mine.hd.heap_39 w.params).In h₀ → News h₀ L S.heap ((l, W.listOf #[.str lb t] 0) :: news) → Top Mine.hd.view_39 (looseW Mine.hd.view_39 []) mean mg mb h₀ → cs.kind = .function →
    dp + 2 < recursionLimit → un + 20 < cLine →
    (∀ (x dx D dl g : Addr) (o : Obj) (hs : Int × Int × Int) (ts : Tok × Tok × Tok) (n : Nat) (h' : Heap) (tk' : Nat), Fr h₀ L h' m →
      News h₀ L h' ((g, o) :: (dl, W.listOf #[] 0) :: (D, oneSet w lb t) :: (x, instObj 86 dx) :: (dx, readerD hs ts D dl g n) :: (l, W.listOf #[.str lb t] 0) :: news) →
      (l < dx ∧ AllLt dx news) → dx < x → x < D → D < dl → dl < g → Cache w g o [(Str.ofString "<string>", 1)] → Q (.ref x) { S with heap := h', toks := tk' }) →
      wpAny (model PySem.Challenge.rw_ny0044_01.row.toRowW.prog w) (ktrTop dp un gd cn cs L a₀ ccd cl outer) (call (.ref 86) [.ref l]) Q E S := by
  k_fill
  intro B F X N T hk hd hu hret
  w_on
  have hMk := kstMark
  refine' call_cls F X N ?k4 ?k5 ?k6 ?_
  case k4 => k_dflt k_is
  case k5 => k_dflt k_is
  case k6 => k_dflt k_is
  intro x dx h' F1 N1 l1 l2
  refine' code_def (binds := [(Str.ofString "self", .ref x), (Str.ofString "modules", .ref l), (Str.ofString "dirs", .none)]) B F1 X N1 T rfl rfl hk ?k6 ?k7 ?k8 ?k9 ?kB ?_ ?c2 ?c3 ?c4 ?c5
  case k6 => k_dflt k_is
  case k7 => k_dflt k_is
  case k8 => (simp only [depth_under_make]; omega)
  case k9 => first | exact BindsTo.of_eq rfl | exact binds_K (by k_in) rfl (by k_is) rfl rfl rfl 
  case kB => exact locs rfl
  case c2 => exact rfl
  case c3 => exact rfl
  case c4 => exact rfl
  case c5 => decide
  intro g L₁ h₁ FG F₁ N₁ B₁ X₁ T₁
  try k_fold
  k_steps
  refine Hold.mk ?_
  refine wpAny_truthy_list (News.isList N₁ (.tail _ (.tail _ (.head _)))) (by simp) ?_
  rw [if_neg (by simp)]
  k_steps
  refine Hold.mk ?_
  rename Fr g _ _ _ => F2
  rename News g _ _ _ => N2
  refine set_one_N (lb := lb) (t := t) rfl F2 N2 (.tail _ (.tail _ (.head _))) ?_
  intro D h3 tk3 F3 N3 l3
  clear F2 N2
  k_lt l3
  k_lt l1
  k_lt2 l2
  k_steps
  rename News h₀ L _ ((_, _) :: (_, W.listOf #[] 0) :: _) => N9
  rename Fr h₀ L _ m => F9
  rename _ ∧ _ < _ ∧ _ => q9
  rename D < _ ∧ _ => r9
  rename Obj.IsDictOf _ _ _ => d9
  rename PyProof.V.FlatPairs _ _ _ => f9
  rename (_ == sysModules) = false => o9
  exact hret x dx D _ _ _ ⟨_, _, _⟩ ⟨_, _, _⟩ _ _ _ F9 N9 l1 l2 l3.1 r9.1 q9.1 ⟨o9, _, d9, f9⟩
end Mine

namespace Mine
/-- what a reader of lb says of q -/
noncomputable def fam (lb q : Str) : Int := if q = Str.ofString "<string>" ∨ q = lb ∨ Txt.startswith q (lb ++ Str.ofString ".") = true then 1 else 0
def CacheOk (lb : Str) (c : List (Str × Int)) : Prop := kdpHas c (Str.ofString "<string>") = true ∧ ∀ p ∈ c, p.2 = fam lb p.1
theorem fam_put {lb q : Str} {c : List (Str × Int)} (h : CacheOk lb c) {v : Int} (hv : v = fam lb q) : CacheOk lb (kdpPut c q v) := by
  subst hv
  refine ⟨by rw [kdpHas_put, h.1, Bool.or_true], ?_⟩
  replace h := h.2
  unfold kdpPut
  split
  · intro p hp
    obtain ⟨r, hr, rfl⟩ := List.mem_map.mp hp
    by_cases e : r.1 = q
    · simp [e]
    · simp [e, h r hr]
  · intro p hp
    rcases List.mem_append.mp hp with hp | hp
    · exact h p hp
    · rw [List.mem_singleton.mp hp]
theorem fam_look {lb q : Str} {c : List (Str × Int)} (h : CacheOk lb c) (hk : kdpHas c q = true) : kdpLook c q 0 = fam lb q := by
  unfold kdpHas at hk
  unfold kdpLook
  obtain ⟨p, hp, e⟩ := List.any_eq_true.mp hk
  cases hf : c.find? (fun p => decide (p.1 = q)) with
  | none => exact absurd e (List.find?_eq_none.mp hf p hp)
  | some r =>
    have h1 := List.mem_of_find?_eq_some hf
    have h2 := List.find?_some hf
    simp only [decide_eq_true_eq] at h2
    rw [← h2]
    exact h.2 r h1
theorem Cache.tab {w : World} {g L : Addr} {o : Obj} {c : List (Str × Int)} {h₀ h : Heap} {news : List (Addr × Obj)} (C : Cache w g o c) (N : News h₀ L h news) (hm : (g, o) ∈ news) : StrTab PySem.Challenge.rw_ny0044_01.row.toRowW.prog w h g (kdpD c) := by
  obtain ⟨kvs, hd, hf⟩ := C.dict
  exact ⟨C.low, kvs, Heap.dictOf_iff.mpr ⟨o, (N _ hm).1, hd⟩, hf⟩
theorem cache_set {w : World} {A : Around} {E : Value → Shared → Prop} {s : Shared} {h₀ : Heap} {L g : Addr} {m : Str → Option Value} {rest : List (Addr × Obj)} {o : Obj} {c : List (Str × Int)} {k : Str} {e : Int} {tk te : Tok} {Q : Unit → Shared → Prop}
    (F : Fr h₀ L s.heap m) (N : News h₀ L s.heap ((g, o) :: rest)) (hne : ∀ p ∈ rest, p.1 ≠ g) (C : Cache w g o c) (hc : c.length ≤ 1000)
    (h : ∀ h' o', Fr h₀ L h' m → News h₀ L h' ((g, o') :: rest) → Cache w g o' (kdpPut c k e) → Q () { s with heap := h', toks := s.toks + 1 }) :
    wpAny (model PySem.Challenge.rw_ny0044_01.row.toRowW.prog w) A (setItem (.ref g) (.str k tk) (.int e te)) Q E s := by
  obtain ⟨kvs, hd, hf⟩ := C.dict
  exact kdp_setItem F N (UpdF.head hne) hd hf (by omega) fun h' o' kvs' F' N' a b => h h' o' F' N' ⟨C.low, kvs', a, b⟩
local macro_rules | `(tactic| k_steps) => `(tactic| repeat' (first | (k_unfold; (try dsimp only)) | walk1 | (dsimp only; walk1) | (leave1; (try dsimp only)) | fail "no step"))
local macro_rules | `(tactic| walk_at "compareOp In str ref") => `(tactic| refine Mine.Hold.out ?_)
local macro_rules | `(tactic| walk_at "setItem ref str") => `(tactic| refine Mine.Hold.out ?_)
local macro_rules | `(tactic| walk_at "subscriptTail") => `(tactic| refine Mine.Hold.out ?_)
local macro_rules | `(tactic| walk_at "exec For Name Attribute cons nil") => `(tactic| refine Mine.Hold.out ?_)
local macro_rules | `(tactic| walk_at "pyIter ref") => `(tactic| refine Mine.Hold.out ?_)
set_option maxRecDepth 100000 in
set_option maxHeartbeats 8000000 in
theorem names_ok (w : World) (mean : ExcName → Option Value) (mg mb : Str → Option Value) (rest : List (Addr × Obj)) (x dx D dl g : Addr) (o : Obj) (hs : Int × Int × Int) (ts : Tok × Tok × Tok) (n : Nat) (lb : Str) (t : Tok) (c : List (Str × Int)) (q fn : Str) (t0 tq : Tok)
    (dp un : Nat) (gd : Option (List Code)) (cn : Str) (cs : Scope) (a₀ : Addr) (ccd : Value) (cl : List (Str × Addr)) (outer : List Env) (A₀ : Around) (base h₀ : Heap) (L : Addr) (m : Str → Option Value) (S : Shared) (Q E : Value → Shared → Prop) :
    Below A₀ base outer h₀ → Fr h₀ L S.heap m → (Mine.hd.heap_39 w.params).In h₀ → News h₀ L S.heap ((g, o) :: (dl, W.listOf #[] 0) :: (D, oneSet w lb t) :: (x, instObj 86 dx) :: (dx, readerD hs ts D dl g n) :: rest) → Top Mine.hd.view_39 (looseW Mine.hd.view_39 []) mean mg mb h₀ → cs.kind = .function →
    dp + 2 < recursionLimit → un + 20 < cLine → (∀ p ∈ (dl, W.listOf #[] 0) :: (D, oneSet w lb t) :: (x, instObj 86 dx) :: (dx, readerD hs ts D dl g n) :: rest, p.1 ≠ g) → Cache w g o c → CacheOk lb c → c.length ≤ 1000 → lb.length ≤ 1000 →
    (∀ (o' : Obj) (c' : List (Str × Int)) (t' : Tok) (h' : Heap) (tk' : Nat), Fr h₀ L h' m →
      News h₀ L h' ((g, o') :: (dl, W.listOf #[] 0) :: (D, oneSet w lb t) :: (x, instObj 86 dx) :: (dx, readerD hs ts D dl g n) :: rest) → Cache w g o' c' → CacheOk lb c' → c'.length ≤ c.length + 1 → Q (.int (fam lb q) t') { S with heap := h', toks := tk' }) →
      wpAny (model PySem.Challenge.rw_ny0044_01.row.toRowW.prog w) (ktrTop dp un gd cn cs L a₀ ccd cl outer) (call (.ref 83) [.ref x, .str fn t0, .str q tq]) Q E S := by
  k_fill
  intro B F X N T hk hd hu hne hca hok hcl hll hret
  w_on
  have hMk := kstMark
  refine wpAny_call ?_
  refine' code_def (binds := [(Str.ofString "self", .ref x), (Str.ofString "filename", .str fn t0), (Str.ofString "modulename", .str q tq)]) B F X N T rfl rfl hk ?k6 ?k7 ?k8 ?k9 ?kB ?_ ?c2 ?c3 ?c4 ?c5
  case k6 => k_dflt k_is
  case k7 => k_dflt k_is
  case k8 => ktr_room
  case k9 => exact BindsTo.of_eq rfl
  case kB => exact locs rfl
  case c2 => exact rfl
  case c3 => exact rfl
  case c4 => exact rfl
  case c5 => decide
  intro g₁ L₁ h₁ FG F₁ N₁ B₁ X₁ T₁
  try k_fold
  k_steps
  refine Hold.mk ?_
  refine kdp_in (hca.tab N₁ (.head _)) ?_
  k_steps
  · rename kdpHas c q = true => hc
    refine Hold.mk ?_
    rename News g₁ _ _ _ => N2
    refine tab_tail (hca.tab N2 (.head _)) (kdp_getItem (hca.tab N2 (.head _)) hc ?_)
    intro t5
    rw [fam_look hok hc]
    k_steps
    exact hret o c _ _ _ (by assumption) (by assumption) hca hok (by omega)
  · rename kdpHas c q = false => hc
    refine Hold.mk ?_
    rename News g₁ _ _ _ => N2
    refine in_one N2 (.tail _ (.tail _ (.head _))) ?_
    k_steps
    · rename q = lb => hq
      refine Hold.mk ?_
      refine cache_set F₁ N2 hne hca hcl ?_
      intro h5 o5 F5 N5 C5
      clear F₁ N2
      k_steps
      have hv : (1 : Int) = fam lb q := by unfold fam; rw [if_pos (.inr (.inl hq))]
      rw [hv]
      exact hret o5 (kdpPut c q 1) _ _ _ (by assumption) (by assumption) C5 (fam_put hok hv) (kdpPut_len _ _ _)
    · rename ¬ q = lb => hq
      refine Hold.mk ?_
      with_unfolding_all refine For_invVF F₁ rfl rfl ?_
      k_steps
      refine Hold.mk ?_
      refine iter_one (lb := lb) (t := t) (Txt.startswith q (lb ++ Str.ofString ".") = false) rfl F₁ N2 (.tail _ (.tail _ (.head _))) ?_ ?_
      · intro h6 tk6 own F6 N6
        clear F₁ N2
        simp only [List.cons_append] at N6
        k_steps
        · rename Txt.startswith _ _ = true => hsw
          refine Hold.mk ?_
          have N7 := kst_newsOf (l' := (g, o) :: (dl, W.listOf #[] 0) :: (D, oneSet w lb t) :: (x, instObj 86 dx) :: (dx, readerD hs ts D dl g n) :: rest) N6 (by
            intro p hp
            simp only [List.mem_cons, List.mem_append] at hp ⊢
            rcases hp with h | h | h | h | h | h
            · exact .inl h
            · exact .inr (.inl h)
            · exact .inr (.inr (.inl h))
            · exact .inr (.inr (.inr (.inl h)))
            · exact .inr (.inr (.inr (.inr (.inl h))))
            · exact .inr (.inr (.inr (.inr (.inr (.inl h))))))
          refine cache_set F6 N7 hne hca hcl ?_
          intro h5 o5 F5 N5 C5
          clear F6 N6 N7
          k_steps
          dsimp only [OneEnd]
          k_steps
          have hv : (1 : Int) = fam lb q := by unfold fam; rw [if_pos (.inr (.inr hsw))]
          rw [hv]
          exact hret o5 (kdpPut c q 1) _ _ _ (by assumption) (by assumption) C5 (fam_put hok hv) (kdpPut_len _ _ _)
        · rename Txt.startswith _ _ = false => hsw
          dsimp only [OneEnd]
          exact ⟨hsw, _, _, _, rfl, F6, N6, fun z hz => if_neg hz⟩
      · intro u h6 tk6 hsw F6 N6
        clear F₁ N2
        k_steps
        refine Hold.mk ?_
        with_unfolding_all refine For_invVF F6 rfl rfl ?_
        k_steps
        refine Hold.mk ?_
        refine kst_listL (vs := []) (ns := []) (nn := 0) (fun _ : Unit => _) (fun _ => []) (fun _ => True) [] (fun _ _ => True) () rfl (fun _ => .tail _ (.head _)) IntsAre.nil F6 N6 trivial (fun _ h => nomatch h) trivial ?_ ?_
        · intro _ pre post n' _ _ _ _ _ e
          exact absurd e (by simp)
        · intro _ u2 h7 tk7 _ _ F7 N7
          clear F6 N6
          k_steps
          refine Hold.mk ?_
          refine cache_set F7 N7 hne hca hcl ?_
          intro h5 o5 F5 N5 C5
          clear F7 N7
          k_steps
          have hv : (0 : Int) = fam lb q := by
            unfold fam
            rw [if_neg]
            rintro (h | h | h)
            · rw [h, hok.1] at hc; cases hc
            · exact hq h
            · rw [hsw] at h; cases h
          rw [hv]
          exact hret o5 (kdpPut c q 0) _ _ _ (by assumption) (by assumption) C5 (fam_put hok hv) (kdpPut_len _ _ _)
end Mine

namespace Mine
theorem starts_iff (x y : Str) : Txt.startswith x y = true ↔ y.cps.toList <+: x.cps.toList := by
  unfold Txt.startswith
  rw [StrLaws.subAt_eq, List.drop_zero]
  have lx := len_list x
  have ly := len_list y
  constructor
  · intro h
    simp only [Bool.and_eq_true, decide_eq_true_eq, beq_iff_eq] at h
    rw [List.prefix_iff_eq_take, ly]
    exact h.2.symm
  · intro h
    have h2 := h.length_le
    rw [List.prefix_iff_eq_take, ly] at h
    simp only [Bool.and_eq_true, decide_eq_true_eq, beq_iff_eq]
    exact ⟨by omega, h.symm⟩
theorem app_cps (x y : Str) : (x ++ y).cps.toList = x.cps.toList ++ y.cps.toList := KAf.app_list x y
theorem pad_cps (a b : Nat) (nm : Str) : (pad a nm b).cps.toList = List.replicate a 32 ++ nm.cps.toList ++ List.replicate b 32 := by
  unfold pad
  simp
/-- a text whose first sign is no blank -/
def Opens (x : Str) : Prop := ∃ c r, x.cps.toList = c :: r ∧ c ≠ 32
theorem Solid.opens {nm : Str} (h : Solid nm) : Opens nm := by
  obtain ⟨c, _, h, hc, _⟩ := h
  cases e : nm.cps.toList with
  | nil => rw [e] at h; cases h
  | cons d r =>
    rw [e] at h
    exact ⟨d, r, e, by simp at h; omega⟩
theorem not_pre {x y : Str} {l : List Nat} (hy : Opens y) (hx : x.cps.toList = 32 :: l) : ¬ y.cps.toList <+: x.cps.toList := by
  obtain ⟨c, r, e, hc⟩ := hy
  rw [e, hx]
  rintro ⟨t, h⟩
  injection h with h1 _
  exact hc h1
theorem opens_app {x y : Str} (h : Opens x) : Opens (x ++ y) := by
  obtain ⟨c, r, e, hc⟩ := h
  exact ⟨c, r ++ y.cps.toList, by rw [app_cps, e]; rfl, hc⟩
theorem string_cps : (Str.ofString "<string>").cps.toList = [60, 115, 116, 114, 105, 110, 103, 62] := by decide +kernel
theorem dot_cps : (Str.ofString ".").cps.toList = [46] := by decide +kernel
theorem fam_blank {lb q : Str} {l : List Nat} (hl : Opens lb) (hq : q.cps.toList = 32 :: l) : fam lb q = 0 := by
  unfold fam
  rw [if_neg]
  rintro (h | h | h)
  · rw [h, string_cps] at hq
    injection hq with h _
    exact absurd h (by decide)
  · obtain ⟨c, r, e, hc⟩ := hl
    rw [h, e] at hq
    injection hq with h _
    exact hc h
  · exact not_pre (opens_app hl) hq ((starts_iff _ _).mp h)
theorem fam_front {lb sc nm : Str} (hl : Opens lb) (hn : nm = lb ++ Str.ofString "." ++ sc) (a b k : Nat) : fam lb (pad (a - k) nm (b - (k - a))) = if a ≤ k then 1 else 0 := by
  by_cases h : a ≤ k
  · rw [if_pos h, show a - k = 0 by omega]
    unfold fam
    rw [if_pos]
    refine .inr (.inr ((starts_iff _ _).mpr ?_))
    rw [pad_cps, hn, app_cps (lb ++ Str.ofString ".")]
    simp only [List.replicate_zero, List.nil_append, List.append_assoc]
    exact ⟨_, rfl⟩
  · rw [if_neg h]
    obtain ⟨j, hj⟩ : ∃ j, a - k = j + 1 := ⟨a - k - 1, by omega⟩
    rw [hj]
    exact fam_blank hl (l := List.replicate j 32 ++ nm.cps.toList ++ List.replicate (b - (k - a)) 32) (by rw [pad_cps, List.replicate_succ]; rfl)
theorem fam_whole {nm : Str} (hn : Solid nm) (a b k : Nat) : fam nm (pad (a - k) nm (b - (k - a))) = if a + b ≤ k then 1 else 0 := by
  by_cases h : a + b ≤ k
  · rw [if_pos h, show a - k = 0 by omega, show b - (k - a) = 0 by omega]
    unfold fam
    rw [if_pos]
    refine .inr (.inl ?_)
    unfold pad
    simp
  · rw [if_neg h]
    by_cases h2 : a ≤ k
    · rw [show a - k = 0 by omega]
      obtain ⟨j, hj⟩ : ∃ j, b - (k - a) = j + 1 := ⟨b - (k - a) - 1, by omega⟩
      rw [hj]
      have e : (pad 0 nm (j + 1)).cps.toList = nm.cps.toList ++ 32 :: List.replicate j 32 := by rw [pad_cps, List.replicate_succ]; simp
      unfold fam
      rw [if_neg]
      rintro (h | h | h)
      · rw [h, string_cps] at e
        have e2 := congrArg List.getLast? e
        rw [← List.replicate_succ, List.replicate_succ', ← List.append_assoc] at e2
        simp at e2
      · have := congrArg Str.length h
        rw [pad_len] at this
        omega
      · obtain ⟨t, ht⟩ := (starts_iff _ _).mp h
        rw [app_cps, e, dot_cps, List.append_assoc] at ht
        have := List.append_cancel_left ht
        injection this with h1 _
        exact absurd h1 (by decide)
    · obtain ⟨j, hj⟩ : ∃ j, a - k = j + 1 := ⟨a - k - 1, by omega⟩
      rw [hj]
      exact fam_blank hn.opens (l := List.replicate j 32 ++ nm.cps.toList ++ List.replicate (b - (k - a)) 32) (by rw [pad_cps, List.replicate_succ]; rfl)
end Mine

namespace Mine
local macro_rules | `(tactic| k_steps) => `(tactic| repeat' (first | (k_unfold; (try dsimp only)) | walk1 | (dsimp only; walk1) | (leave1; (try dsimp only)) | fail "no step"))
local macro_rules | `(tactic| walk_at "call ref") => `(tactic| refine Mine.Hold.out ?_)
local macro_rules | `(tactic| walk_at "exec While Compare cons nil") => `(tactic| refine Mine.Hold.out ?_)
set_option maxRecDepth 100000 in
set_option maxHeartbeats 8000000 in
theorem least_ok (w : World) (mean : ExcName → Option Value) (mg mb : Str → Option Value) (rest : List (Addr × Obj)) (x dx D dl g : Addr) (o : Obj) (hs : Int × Int × Int) (ts : Tok × Tok × Tok) (n : Nat) (lb : Str) (t : Tok) (c : List (Str × Int)) (a b thr : Nat) (nm : Str) (tc : Tok)
    (dp un : Nat) (gd : Option (List Code)) (cn : Str) (cs : Scope) (a₀ : Addr) (ccd : Value) (cl : List (Str × Addr)) (outer : List Env) (A₀ : Around) (base h₀ : Heap) (L : Addr) (m : Str → Option Value) (S : Shared) (Q E : Value → Shared → Prop) :
    Below A₀ base outer h₀ → Fr h₀ L S.heap m → (Mine.hd.heap_39 w.params).In h₀ → News h₀ L S.heap ((g, o) :: (dl, W.listOf #[] 0) :: (D, oneSet w lb t) :: (x, instObj 86 dx) :: (dx, readerD hs ts D dl g n) :: rest) → Top Mine.hd.view_39 (looseW Mine.hd.view_39 []) mean mg mb h₀ → cs.kind = .function →
    dp + 5 < recursionLimit → un + 50 < cLine → (∀ p ∈ (dl, W.listOf #[] 0) :: (D, oneSet w lb t) :: (x, instObj 86 dx) :: (dx, readerD hs ts D dl g n) :: rest, p.1 ≠ g) → Cache w g o c → CacheOk lb c → c.length ≤ 900 → lb.length ≤ 1000 →
    Solid nm → a + nm.length + b ≤ 1000 → thr ≤ 6 → (∀ k : Nat, fam lb (pad (a - k) nm (b - (k - a))) = if thr ≤ k then 1 else 0) →
    (∀ (o' : Obj) (c' : List (Str × Int)) (t' : Tok) (h' : Heap) (tk' : Nat), Fr h₀ L h' m →
      News h₀ L h' ((g, o') :: (dl, W.listOf #[] 0) :: (D, oneSet w lb t) :: (x, instObj 86 dx) :: (dx, readerD hs ts D dl g n) :: rest) → Cache w g o' c' → CacheOk lb c' → c'.length ≤ c.length + 6 → Q (.int thr t') { S with heap := h', toks := tk' }) →
      wpAny (model PySem.Challenge.rw_ny0044_01.row.toRowW.prog w) (ktrTop dp un gd cn cs L a₀ ccd cl outer) (call (.ref 97) [.ref x, .str (pad a nm b) tc]) Q E S := by
  k_fill
  intro B F X N T hk hd hu hne hca hok hcl hll hnm hsz ht6 hth hret
  w_on
  refine wpAny_call ?_
  refine' code_def (binds := [(Str.ofString "reader", .ref x), (Str.ofString "cell", .str (pad a nm b) tc)]) B F X N T rfl rfl hk ?k6 ?k7 ?k8 ?k9 ?kB ?_ ?c2 ?c3 ?c4 ?c5
  case k6 => k_dflt k_is
  case k7 => k_dflt k_is
  case k8 => ktr_room
  case k9 => exact BindsTo.of_eq rfl
  case kB => exact locs rfl
  case c2 => exact rfl
  case c3 => exact rfl
  case c4 => exact rfl
  case c5 => decide
  intro g₁ L₁ h₁ FG F₁ N₁ B₁ X₁ T₁
  try k_fold
  k_steps
  refine Hold.mk ?_
  rename Fr g₁ _ _ _ => F1
  rename News g₁ _ _ _ => N1
  replace N1 := kst_newsOf N1 (fun p hp => List.Mem.tail _ hp)
  with_unfolding_all refine while_cut (fun c : Int × Tok × Int × Tok × Obj × List (Str × Int) => (g, c.2.2.2.2.1) :: (dl, W.listOf #[] 0) :: (D, oneSet w lb t) :: (x, instObj 86 dx) :: (dx, readerD hs ts D dl g n) :: rest) (fun c => [(Str.ofString "low", .int c.1 c.2.1), (Str.ofString "high", .int c.2.2.1 c.2.2.2.1)]) [Str.ofString "middle"] (fun s => (0 ≤ s.1 ∧ s.1 ≤ thr ∧ (thr : Int) ≤ s.2.2.1 ∧ s.2.2.1 ≤ 6) ∧ Cache w g s.2.2.2.2.1 s.2.2.2.2.2 ∧ CacheOk lb s.2.2.2.2.2 ∧ (s.2.2.2.2.2.length : Int) + (s.2.2.1 - s.1) ≤ c.length + 6) (fun s => (s.2.2.1 - s.1).toNat) (fun s => s.1 = thr) ⟨0, _, 6, _, o, c⟩ F1 N1 (by kst_all) ⟨⟨by dsimp only <;> omega, by dsimp only <;> omega, by dsimp only <;> omega, by dsimp only <;> omega⟩, hca, hok, by dsimp only <;> omega⟩ ?_ ?_
  · rintro ⟨i, ti, j, tj, o1, c1⟩ u h tk' ⟨⟨i1, i2, i3, i4⟩, hca1, hok1, hl1⟩ F2 N2
    dsimp only at i1 i2 i3 i4 hca1 hok1 hl1 F2 N2
    clear F1 N1
    k_steps
    · refine Hold.mk ?_
      rename i < j => hij
      rename Fr g₁ _ _ _ => F3
      rename News g₁ _ _ _ => N3
      have hmid : ∃ k : Nat, Int.fdiv (i + j) 2 = k ∧ i ≤ (k : Int) ∧ (k : Int) < j := by
        rw [Int.fdiv_eq_ediv_of_nonneg _ (by omega)]
        exact ⟨((i + j) / 2).toNat, by omega, by omega, by omega⟩
      obtain ⟨k, hk1, hk2, hk3⟩ := hmid
      rw [hk1] at F3 ⊢
      have hst := strip_ok w mean mg mb ((g, o1) :: (dl, W.listOf #[] 0) :: (D, oneSet w lb t) :: (x, instObj 86 dx) :: (dx, readerD hs ts D dl g n) :: rest) a b k nm hnm hsz
      dsimp only [CbClaim, CbLists, CbRet] at hst
      refine' hst _ _ _ _ _ _ _ _ _ _ _ _ _ _ _ _ _ _ _ B₁ F3 X₁ N3 T₁ rfl trivial ?kd ?ku ?_
      case kd => ktr_room
      case ku => ktr_units
      clear hst
      intro t5 h5 tk5 F5 N5
      k_steps
      refine Hold.mk ?_
      refine' names_ok w mean mg mb rest x dx D dl g o1 hs ts n lb t c1 _ _ _ _ _ _ _ _ _ _ _ _ _ _ _ _ _ _ _ _ _ B₁ F5 X₁ N5 T₁ rfl ?kd ?ku hne hca1 hok1 (by omega) hll ?_
      case kd => ktr_room
      case ku => ktr_units
      intro o6 c6 t6 h6 tk6 F6 N6 hca6 hok6 hl6
      rw [hth k]
      by_cases hle : thr ≤ k
      · rw [if_pos hle]
        clear F3 N3 F5 N5
        k_steps
        rename Fr g₁ _ _ _ => F7
        rename News g₁ _ _ _ => N7
        exact ⟨⟨i, ti, k, _, o6, c6⟩, _, _, _, rfl, F7, N7, by kst_all, by (intro z h2 h3; simp only [List.forall_mem_cons, List.not_mem_nil, false_implies, implies_true, and_true, ne_eq] at h2; simp only [List.contains_cons, List.contains_nil, Bool.or_false, beq_eq_false_iff_ne, ne_eq] at h3; simp [h2, h3, kstB]), ⟨⟨by dsimp only <;> omega, by dsimp only <;> omega, by dsimp only <;> omega, by dsimp only <;> omega⟩, hca6, hok6, by dsimp only <;> omega⟩, by dsimp only <;> omega⟩
      · rw [if_neg hle]
        clear F3 N3 F5 N5
        k_steps
        rename Fr g₁ _ _ _ => F7
        rename News g₁ _ _ _ => N7
        exact ⟨⟨(k : Int) + 1, _, j, tj, o6, c6⟩, _, _, _, rfl, F7, N7, by kst_all, by (intro z h2 h3; simp only [List.forall_mem_cons, List.not_mem_nil, false_implies, implies_true, and_true, ne_eq] at h2; simp only [List.contains_cons, List.contains_nil, Bool.or_false, beq_eq_false_iff_ne, ne_eq] at h3; simp [h2, h3, kstB]), ⟨⟨by dsimp only <;> omega, by dsimp only <;> omega, by dsimp only <;> omega, by dsimp only <;> omega⟩, hca6, hok6, by dsimp only <;> omega⟩, by dsimp only <;> omega⟩
    · rename ¬ i < j => hij
      rename Fr g₁ _ _ _ => F3
      rename News g₁ _ _ _ => N3
      exact ⟨⟨i, ti, j, tj, o1, c1⟩, _, _, _, rfl, F3, N3, by kst_all, by (intro z h2 h3; simp only [List.forall_mem_cons, List.not_mem_nil, false_implies, implies_true, and_true, ne_eq] at h2; simp only [List.contains_cons, List.contains_nil, Bool.or_false, beq_eq_false_iff_ne, ne_eq] at h3; simp [h2, h3, kstB]), ⟨⟨i1, i2, i3, i4⟩, hca1, hok1, hl1⟩, by dsimp only <;> omega⟩
  · rintro ⟨i, ti, j, tj, o1, c1⟩ u h tk' ⟨⟨i1, i2, i3, i4⟩, hca1, hok1, hl1⟩ ho F2 N2
    dsimp only at i1 i2 i3 i4 hca1 hok1 hl1 ho F2 N2
    clear F1 N1
    subst ho
    k_steps
    exact hret o1 c1 _ _ _ (by assumption) (by assumption) hca1 hok1 (by omega)
end Mine

namespace Mine
/-- the law's def: its scope, its loop's body, the inner loop's body -/
noncomputable def lawScope : Scope := match PySem.Challenge.pw_ny0044_01.main.body.getLast? with
  | some (.FunctionDef _ _ _ _ _ _ sc _ _ _) => sc
  | _ => default
noncomputable def lawTurn : List Stmt := match PySem.Challenge.pw_ny0044_01.main.body.getLast? with
  | some (.FunctionDef _ _ [.For _ _ b _ _, _] _ _ _ _ _ _ _) => b
  | _ => []
noncomputable def innerTurn : List Stmt := match PySem.Challenge.pw_ny0044_01.main.body.getLast? with
  | some (.FunctionDef _ _ [.For _ _ [_, _, _, _, _, .For _ _ b _ _] _ _, _] _ _ _ _ _ _ _) => b
  | _ => []
noncomputable abbrev lawEnv (L fa : Addr) (cd : Value) : Env := envOf (Str.ofString "law") lawScope L fa cd
/-- a reader's objects on the ledger -/
abbrev reader (w : World) (g dl D x dx : Addr) (o : Obj) (hs : Int × Int × Int) (ts : Tok × Tok × Tok) (n : Nat) (lb : Str) (t : Tok) (r : List (Addr × Obj)) : List (Addr × Obj) :=
  (g, o) :: (dl, W.listOf #[] 0) :: (D, oneSet w lb t) :: (x, instObj 86 dx) :: (dx, readerD hs ts D dl g n) :: r
theorem ne_pair {prog : Program} {w : World} {A : Around} {E : Value → Shared → Prop} {s : Shared} {h₀ : Heap} {L D D' : Addr} {news : List (Addr × Obj)} {p q p' q' : Int} {t1 t2 t3 t4 : Tok} {Q : Value → Shared → Prop}
    (N : News h₀ L s.heap news) (h1 : (D, ({ cls := .type "tuple", data := .seq #[.int p t1, .int q t2] } : Obj)) ∈ news) (h2 : (D', ({ cls := .type "tuple", data := .seq #[.int p' t3, .int q' t4] } : Obj)) ∈ news)
    (hu : A.units + 64 < cLine) (e1 : p = p') (e2 : q = q') (h : Q (.bool false) s) : wpAny (model prog w) A (compareOp .NotEq (.ref D) (.ref D')) Q E s := by
  subst e1 e2
  refine ne_dataH (reads_tuple_at (News.get N h1) rfl rfl (ReadsAll.cons (Reads.int _ _) (ReadsAll.cons (Reads.int _ _) ReadsAll.nil))) (reads_tuple_at (News.get N h2) rfl rfl (ReadsAll.cons (Reads.int _ _) (ReadsAll.cons (Reads.int _ _) ReadsAll.nil))) rfl rfl hu ?_
  simpa [PyData.eqv, PyData.eqvAll] using h
theorem news_swap {h₀ h : Heap} {L : Addr} (l1 l2 rest : List (Addr × Obj)) (N : News h₀ L h (l1 ++ (l2 ++ rest))) : News h₀ L h (l2 ++ (l1 ++ rest)) := fun p hp => N p (by
  simp only [List.mem_append] at hp ⊢
  rcases hp with h | h | h
  · exact .inr (.inl h)
  · exact .inl h
  · exact .inr (.inr h))
local macro_rules | `(tactic| k_steps) => `(tactic| repeat' (first | (k_unfold; (try dsimp only)) | walk1 | (dsimp only; walk1) | (leave1; (try dsimp only)) | fail "no step"))
local macro_rules | `(tactic| walk_at "call ref") => `(tactic| refine Mine.Hold.out ?_)
local macro_rules | `(tactic| walk_at "compareOp NotEq ref ref") => `(tactic| refine Mine.Hold.out ?_)
local macro_rules | `(tactic| walk_at "compareOp NotEq str str") => `(tactic| refine Mine.Hold.out ?_)
local macro_rules | `(tactic| walk_at "binaryOp Add str str") => `(tactic| refine Mine.Hold.out ?_)
local macro_rules | `(tactic| walk_at "binaryOp Mult str int") => `(tactic| refine Mine.Hold.out ?_)
set_option maxRecDepth 100000 in
set_option maxHeartbeats 8000000 in
theorem inner_ok (w : World) (mean : ExcName → Option Value) (mg mb : Str → Option Value) (h₀ : Heap) (L fa : Addr) (cd : Value) (S : Shared) (u : Str → Option Value) (Q : Flow → Shared → Prop) (E : Value → Shared → Prop)
    (k a b : Nat) (lb sc nm : Str) (t1 t2 t3 t4 t5 : Tok) (rest : List (Addr × Obj))
    (gF dlF DF xF dxF : Addr) (oF : Obj) (hF : Int × Int × Int) (tF : Tok × Tok × Tok) (nF : Nat) (tlF : Tok) (cF : List (Str × Int))
    (gW dlW DW xW dxW : Addr) (oW : Obj) (hW : Int × Int × Int) (tW : Tok × Tok × Tok) (nW : Nat) (tlW : Tok) (cW : List (Str × Int))
    (B : Below callerA h₀ [] h₀) (F : Fr h₀ L S.heap (fun y => if y = Str.ofString "amount" then some (.int k t1) else if y = Str.ofString "cell" then some (.str (pad a nm b) t2) else if y = Str.ofString "name" then some (.str nm t3) else if y = Str.ofString "ahead" then some (.int a t4) else if y = Str.ofString "behind" then some (.int b t5) else if y = Str.ofString "front" then some (.ref xF) else if y = Str.ofString "whole" then some (.ref xW) else u y))
    (N : News h₀ L S.heap (reader w gF dlF DF xF dxF oF hF tF nF lb tlF (reader w gW dlW DW xW dxW oW hW tW nW nm tlW rest)))
    (T : Top Mine.hd.view_39 (looseW Mine.hd.view_39 []) mean mg mb h₀)
    (hk8 : k < 8) (ha4 : a < 4) (hb4 : b < 4) (hlb : Opens lb) (hnm : Solid nm) (hn : nm = lb ++ Str.ofString "." ++ sc) (hll : lb.length ≤ 10) (hnl : nm.length ≤ 10)
    (hneF : ∀ p ∈ (dlF, W.listOf #[] 0) :: (DF, oneSet w lb tlF) :: (xF, instObj 86 dxF) :: (dxF, readerD hF tF DF dlF gF nF) :: reader w gW dlW DW xW dxW oW hW tW nW nm tlW rest, p.1 ≠ gF)
    (hneW : ∀ p ∈ (dlW, W.listOf #[] 0) :: (DW, oneSet w nm tlW) :: (xW, instObj 86 dxW) :: (dxW, readerD hW tW DW dlW gW nW) :: rest, p.1 ≠ gW)
    (hx : dlF ≠ gW ∧ DF ≠ gW ∧ xF ≠ gW ∧ dxF ≠ gW)
    (hcF : Cache w gF oF cF) (hoF : CacheOk lb cF) (hlF : cF.length ≤ 800) (hcW : Cache w gW oW cW) (hoW : CacheOk nm cW) (hlW : cW.length ≤ 800) :
    (Mine.hd.heap_39 w.params).In h₀ → 
    (∀ oF' cF' oW' cW' h' tk' m', Fr h₀ L h' m' → (∀ z, z ≠ Str.ofString "rest" → z ≠ Str.ofString "left" → z ≠ Str.ofString "both" → m' z = (fun y => if y = Str.ofString "amount" then some (.int k t1) else if y = Str.ofString "cell" then some (.str (pad a nm b) t2) else if y = Str.ofString "name" then some (.str nm t3) else if y = Str.ofString "ahead" then some (.int a t4) else if y = Str.ofString "behind" then some (.int b t5) else if y = Str.ofString "front" then some (.ref xF) else if y = Str.ofString "whole" then some (.ref xW) else u y) z) →
      News h₀ L h' (reader w gF dlF DF xF dxF oF' hF tF nF lb tlF (reader w gW dlW DW xW dxW oW' hW tW nW nm tlW rest)) → Cache w gF oF' cF' → CacheOk lb cF' → cF'.length ≤ cF.length + 6 → Cache w gW oW' cW' → CacheOk nm cW' → cW'.length ≤ cW.length + 6 → Q .next { S with heap := h', toks := tk' }) →
    wpAny (model PySem.Challenge.rw_ny0044_01.row.toRowW.prog w) (callerA.deeper (lawEnv L fa cd)) (execs innerTurn (lawEnv L fa cd)) Q E S := by
  k_fill
  intro X hret
  have e1 : innerTurn = innerTurn := rfl
  have e2 : lawScope = lawScope := rfl
  conv at e1 => rhs; unfold innerTurn; whnf
  conv at e2 => rhs; unfold lawScope; whnf
  rw [e1]
  unfold lawEnv
  rw [e2]
  clear e1 e2
  w_on
  k_steps
  refine Hold.mk ?_
  have hst := strip_ok w mean mg mb (reader w gF dlF DF xF dxF oF hF tF nF lb tlF (reader w gW dlW DW xW dxW oW hW tW nW nm tlW rest)) a b k nm hnm (by omega)
  dsimp only [CbClaim, CbLists, CbRet] at hst
  refine' hst _ _ _ _ _ _ _ _ _ _ _ _ _ _ _ _ _ _ _ B F X N T rfl trivial ?kd ?ku ?_
  case kd => ktr_room
  case ku => ktr_units
  clear hst
  intro t6 h6 tk6 F6 N6
  k_steps
  refine Hold.mk ?_
  rename Fr h₀ L _ _ => F7
  rename News h₀ L _ _ => N7
  refine' least_ok w mean mg mb (reader w gW dlW DW xW dxW oW hW tW nW nm tlW rest) xF dxF DF dlF gF oF hF tF nF lb tlF cF (a - k) (b - (k - a)) (a - k) nm _ _ _ _ _ _ _ _ _ _ _ _ _ _ _ _ _ _ B F7 X N7 T rfl ?kd ?ku hneF hcF hoF (by omega) (by omega) hnm (by omega) (by omega) (fun j => fam_front hlb hn (a - k) (b - (k - a)) j) ?_
  case kd => ktr_room
  case ku => ktr_units
  intro oF' cF' t8 h8 tk8 F8 N8 hcF' hoF' hlF'
  clear F7 N7
  replace N8 := news_swap [(gF, oF'), (dlF, W.listOf #[] 0), (DF, oneSet w lb tlF), (xF, instObj 86 dxF), (dxF, readerD hF tF DF dlF gF nF)] [(gW, oW), (dlW, W.listOf #[] 0), (DW, oneSet w nm tlW), (xW, instObj 86 dxW), (dxW, readerD hW tW DW dlW gW nW)] rest N8
  have hneW' : ∀ p ∈ (dlW, W.listOf #[] 0) :: (DW, oneSet w nm tlW) :: (xW, instObj 86 dxW) :: (dxW, readerD hW tW DW dlW gW nW) :: reader w gF dlF DF xF dxF oF' hF tF nF lb tlF rest, p.1 ≠ gW := by
    intro p hp
    simp only [List.mem_cons] at hp
    rcases hp with h | h | h | h | h | h | h | h | h | h
    · exact hneW p (by rw [h]; exact .head _)
    · exact hneW p (by rw [h]; exact .tail _ (.head _))
    · exact hneW p (by rw [h]; exact .tail _ (.tail _ (.head _)))
    · exact hneW p (by rw [h]; exact .tail _ (.tail _ (.tail _ (.head _))))
    · rw [h]; exact (hneF (gW, oW) (.tail _ (.tail _ (.tail _ (.tail _ (.head _)))))).symm
    · rw [h]; exact hx.1
    · rw [h]; exact hx.2.1
    · rw [h]; exact hx.2.2.1
    · rw [h]; exact hx.2.2.2
    · exact hneW p (.tail _ (.tail _ (.tail _ (.tail _ h))))
  k_steps
  refine Hold.mk ?_
  rename Fr h₀ L _ _ => F9
  rename News h₀ L _ _ => N9
  refine' least_ok w mean mg mb (reader w gF dlF DF xF dxF oF' hF tF nF lb tlF rest) xW dxW DW dlW gW oW hW tW nW nm tlW cW (a - k) (b - (k - a)) ((a - k) + (b - (k - a))) nm _ _ _ _ _ _ _ _ _ _ _ _ _ _ _ _ _ _ B F9 X N9 T rfl ?kd ?ku hneW' hcW hoW (by omega) (by omega) hnm (by omega) (by omega) (fun j => fam_whole hnm (a - k) (b - (k - a)) j) ?_
  case kd => ktr_room
  case ku => ktr_units
  intro oW' cW' t10 h10 tk10 F10 N10 hcW' hoW' hlW'
  clear F9 N9
  replace N10 := news_swap [(gW, oW'), (dlW, W.listOf #[] 0), (DW, oneSet w nm tlW), (xW, instObj 86 dxW), (dxW, readerD hW tW DW dlW gW nW)] [(gF, oF'), (dlF, W.listOf #[] 0), (DF, oneSet w lb tlF), (xF, instObj 86 dxF), (dxF, readerD hF tF DF dlF gF nF)] rest N10
  k_steps
  refine Hold.mk ?_
  rename Fr h₀ L _ _ => F11
  rename News h₀ L _ _ => N11
  refine ne_pair N11 (.tail _ (.head _)) (.head _) (by ke_room) ?e1 ?e2 ?_
  case e1 => omega
  case e2 => omega
  replace N11 := kst_newsOf N11 (fun p hp => List.Mem.tail _ (List.Mem.tail _ (List.Mem.tail _ hp)))
  k_steps
  refine Hold.mk ?_
  refine SB.mul (mulOk_of 1 8 (by decide +kernel) (by omega) (by omega) (by decide) (by decide)) (fun t12 k12 => ?_)
  rw [mul_blank (by omega)]
  k_steps
  refine Hold.mk ?_
  refine SB.add (fun t13 k13 => ?_) (by rw [bl_len, sizeLine_eq]; omega)
  k_steps
  refine Hold.mk ?_
  refine SB.mul (mulOk_of 1 8 (by decide +kernel) (by omega) (by omega) (by decide) (by decide)) (fun t14 k14 => ?_)
  rw [mul_blank (by omega)]
  k_steps
  refine Hold.mk ?_
  refine SB.add (fun t15 k15 => ?_) (by rw [Str.length_append, bl_len, bl_len, sizeLine_eq]; omega)
  rw [pad_eq]
  have e5 : (((a - k + (b - (k - a)) : Nat) : Int) - ((a - k : Nat) : Int)).toNat = b - (k - a) := by omega
  rw [e5, Int.toNat_natCast]
  k_steps
  refine Hold.mk ?_
  refine P.ne_str ?_
  rw [bne_self_eq_false]
  k_steps
  exact hret oF' cF' oW' cW' _ _ _ F11 (fun z h1 h2 h3 => by simp [h1, h2, h3]) N11 hcF' hoF' hlF' hcW' hoW' hlW'
end Mine

namespace Mine
section
variable {prog : Program} {w : World} {A : Around} {E : Value → Shared → Prop} {s : Shared} {h₀ : Heap} {L D : Addr} {news : List (Addr × Obj)} {Q : Value → Shared → Prop}
/-- one of two texts -/
theorem pick2 {value slice : Expr} {s1 s2 : Str} {t1 t2 u : Tok} {n : Nat} {d : Option Addr} {sl : Array (Option Value)} {y : Int} (N : News h₀ L s.heap ((D, { cls := .type "tuple", dict := d, data := .seq #[.str s1 t1, .str s2 t2] n, slots := sl }) :: news))
    (h : ∀ sx tx, (sx = s1 ∨ sx = s2) → Q (.str sx tx) s)
    (hs : subscripted slice false (.ref D) (.int (Int.fmod y 2) u) = operate [.ref D, .int (Int.fmod y 2) u] (getItem (.ref D) (.int (Int.fmod y 2) u)) := by with_unfolding_all rfl) :
    wpAny (model prog w) A (subscriptTail value slice (.ref D) (.int (Int.fmod y 2) u)) Q E s := by
  have ht : IsTup s.heap D ([.str s1 t1, .str s2 t2] : List Value).toArray := News.isTup N (.head _)
  have h1 := fmod_lo y (n := 2) (by decide)
  have h2 := fmod_hi y (n := 2) (by decide)
  generalize Int.fmod y 2 = k at *
  have : k = 0 ∨ k = 1 := by omega
  rcases this with rfl | rfl
  · exact item_tupleT ht (by decide) (by decide) (j := 0) rfl rfl (h _ _ (.inl rfl)) hs
  · exact item_tupleT ht (by decide) (by decide) (j := 1) rfl rfl (h _ _ (.inr rfl)) hs
theorem add_new {x y : Str} {t u : Tok} (hsz : x.length + y.length ≤ 1000) (h : ∀ z t' k, z = x ++ y → Q (.str z t') { s with toks := k }) : wpAny (model prog w) A (binaryOp .Add (.str x t) (.str y u)) Q E s :=
  SB.add (fun t' k => h _ t' k rfl) (by rw [sizeLine_eq]; omega)
theorem mul_bl {a : Nat} {t u : Tok} (ha : a ≤ 8) (h : ∀ t' k, Q (.str (bl a) t') { s with toks := k }) : wpAny (model prog w) A (binaryOp .Mult (.str (Str.ofString " ") t) (.int (a : Int) u)) Q E s := by
  refine SB.mul (mulOk_of 1 8 (by decide +kernel) (by omega) (by omega) (by decide) (by decide)) (fun t' k => ?_)
  rw [mul_blank (by omega), Int.toNat_natCast]
  exact h t' k
theorem add_pad {z nm : Str} {a b : Nat} {t u : Tok} (hz : z = bl a ++ nm) (hsz : a + nm.length + b ≤ 1000) (h : ∀ t' k, Q (.str (pad a nm b) t') { s with toks := k }) : wpAny (model prog w) A (binaryOp .Add (.str z t) (.str (bl b) u)) Q E s := by
  subst hz
  refine SB.add (fun t' k => ?_) (by rw [Str.length_append, bl_len, bl_len, sizeLine_eq]; omega)
  rw [pad_eq]
  exact h t' k
theorem mod_new {y : Int} {t u : Tok} (h : ∀ (a : Nat) t', a < 4 → Q (.int (a : Int) t') { s with toks := s.toks + 1 }) : wpAny (model prog w) A (binaryOp .Mod (.int y t) (.int 4 u)) Q E s := by
  have h1 := fmod_lo y (n := 4) (by decide)
  have h2 := fmod_hi y (n := 4) (by decide)
  obtain ⟨a, ea⟩ := Int.eq_ofNat_of_zero_le h1
  refine mod_int' (by decide) ?_
  rw [ea]
  exact h a _ (by omega)
end
theorem seen7 {m : Str → Option Value} {x1 x2 x3 x4 x5 x6 x7 : Str} {v1 v2 v3 v4 v5 v6 v7 : Value} (e1 : m x1 = some v1) (e2 : m x2 = some v2) (e3 : m x3 = some v3) (e4 : m x4 = some v4) (e5 : m x5 = some v5) (e6 : m x6 = some v6) (e7 : m x7 = some v7) :
    (fun y => if y = x1 then some v1 else if y = x2 then some v2 else if y = x3 then some v3 else if y = x4 then some v4 else if y = x5 then some v5 else if y = x6 then some v6 else if y = x7 then some v7 else m y) = m := by
  funext y
  by_cases h1 : y = x1
  · rw [if_pos h1, h1, e1]
  rw [if_neg h1]
  by_cases h2 : y = x2
  · rw [if_pos h2, h2, e2]
  rw [if_neg h2]
  by_cases h3 : y = x3
  · rw [if_pos h3, h3, e3]
  rw [if_neg h3]
  by_cases h4 : y = x4
  · rw [if_pos h4, h4, e4]
  rw [if_neg h4]
  by_cases h5 : y = x5
  · rw [if_pos h5, h5, e5]
  rw [if_neg h5]
  by_cases h6 : y = x6
  · rw [if_pos h6, h6, e6]
  rw [if_neg h6]
  by_cases h7 : y = x7
  · rw [if_pos h7, h7, e7]
  rw [if_neg h7]
theorem fr_seen7 {h₀ h : Heap} {L : Addr} {m : Str → Option Value} (x1 x2 x3 x4 x5 x6 x7 : Str) {v1 v2 v3 v4 v5 v6 v7 : Value} (F : Fr h₀ L h m) (e1 : m x1 = some v1) (e2 : m x2 = some v2) (e3 : m x3 = some v3) (e4 : m x4 = some v4) (e5 : m x5 = some v5) (e6 : m x6 = some v6) (e7 : m x7 = some v7) :
    Fr h₀ L h (fun y => if y = x1 then some v1 else if y = x2 then some v2 else if y = x3 then some v3 else if y = x4 then some v4 else if y = x5 then some v5 else if y = x6 then some v6 else if y = x7 then some v7 else m y) ∧
    (fun y => if y = x1 then some v1 else if y = x2 then some v2 else if y = x3 then some v3 else if y = x4 then some v4 else if y = x5 then some v5 else if y = x6 then some v6 else if y = x7 then some v7 else m y) = m :=
  ⟨by rw [seen7 e1 e2 e3 e4 e5 e6 e7]; exact F, seen7 e1 e2 e3 e4 e5 e6 e7⟩
theorem fr_of {h₀ h : Heap} {L : Addr} {m m' : Str → Option Value} (F : Fr h₀ L h m) (e : m' = m) : Fr h₀ L h m' := e ▸ F
local macro_rules | `(tactic| walk_at "binaryOp Mod int int") => `(tactic| ((with_reducible show wpAny _ _ (binaryOp Operator.Mod _ (Value.int 4 _)) _ _ _); refine Mine.Hold.out ?_))
local macro_rules | `(tactic| k_steps) => `(tactic| repeat' (first | (k_unfold; (try dsimp only)) | walk1 | (dsimp only; walk1) | (leave1; (try dsimp only)) | fail "no step"))
local macro_rules | `(tactic| walk_at "exec For Name Call cons nil") => `(tactic| refine Mine.Hold.out ?_)
local macro_rules | `(tactic| walk_at "call ref") => `(tactic| refine Mine.Hold.out ?_)
local macro_rules | `(tactic| walk_at "pyIter ref") => `(tactic| refine Mine.Hold.out ?_)
local macro_rules | `(tactic| walk_at "subscriptTail") => `(tactic| refine Mine.Hold.out ?_)
local macro_rules | `(tactic| walk_at "binaryOp Add str str") => `(tactic| refine Mine.Hold.out ?_)
local macro_rules | `(tactic| walk_at "binaryOp Mult str int") => `(tactic| refine Mine.Hold.out ?_)
set_option maxRecDepth 100000 in
set_option maxHeartbeats 8000000 in
theorem turn_ok (w : World) (mean : ExcName → Option Value) (mg mb : Str → Option Value) (h₀ : Heap) (L fa : Addr) (cd : Value) (news : List (Addr × Obj)) (S : Shared) (x : Int) (tx : Tok) (u : Str → Option Value) (Q : Flow → Shared → Prop)
    (B : Below callerA h₀ [] h₀) (F : Fr h₀ L S.heap (fun y => if y = Str.ofString "x" then some (.int x tx) else u y)) (N : News h₀ L S.heap news) (T : Top Mine.hd.view_39 (looseW Mine.hd.view_39 []) mean mg mb h₀) :
    (Mine.hd.heap_39 w.params).In h₀ →
    (∀ h' tk' m', Fr h₀ L h' m' → (∀ z, [Str.ofString "label", Str.ofString "name", Str.ofString "ahead", Str.ofString "behind", Str.ofString "cell", Str.ofString "front", Str.ofString "whole", Str.ofString "amount", Str.ofString "rest", Str.ofString "left", Str.ofString "both"].contains z = false → m' z = if z = Str.ofString "x" then some (.int x tx) else u z) →
      News h₀ L h' news → Q .next { S with heap := h', toks := tk' }) →
    wpAny (model PySem.Challenge.rw_ny0044_01.row.toRowW.prog w) (callerA.deeper (lawEnv L fa cd)) (execs lawTurn (lawEnv L fa cd)) Q (fun _ _ => False) S := by
  k_fill
  intro X hret
  have e1 : lawTurn = lawTurn := rfl
  have e2 : lawScope = lawScope := rfl
  conv at e1 => rhs; unfold lawTurn; whnf
  conv at e2 => rhs; unfold lawScope; whnf
  rw [e1]
  unfold lawEnv
  rw [e2]
  clear e1 e2
  w_on
  k_steps
  refine Hold.mk ?_
  rename News h₀ _ _ _ => N1
  refine pick2 N1 ?_
  intro lb tl hlb
  have hl2 : lb.length = 2 := by rcases hlb with rfl | rfl <;> decide +kernel
  k_steps
  refine Hold.mk ?_
  have hd1 : (Str.ofString ".").length = 1 := by decide +kernel
  refine add_new (by omega) ?_
  intro z1 t1 k1 hz1
  k_steps
  refine Hold.mk ?_
  rename News h₀ _ _ _ => N2
  refine pick2 N2 ?_
  intro sc ts hsc
  have hs3 : sc.length ≤ 3 := by rcases hsc with rfl | rfl <;> decide +kernel
  k_steps
  refine Hold.mk ?_
  have hz2 : z1.length = 3 := by rw [hz1, Str.length_append, hl2, hd1]
  refine add_new (by omega) ?_
  intro nm t2 k2 hnm
  have hnl : nm.length ≤ 6 := by rw [hnm, Str.length_append]; omega
  k_steps
  refine Hold.mk ?_
  refine mod_new ?_
  intro a t3 ha4
  k_steps
  refine Hold.mk ?_
  refine mod_new ?_
  intro b t4 hb4
  k_steps
  refine Hold.mk ?_
  refine mul_bl (by omega) ?_
  intro t5 k5
  k_steps
  refine Hold.mk ?_
  refine add_new (by rw [bl_len]; omega) ?_
  intro z2 t6 k6 hz2'
  k_steps
  refine Hold.mk ?_
  refine mul_bl (by omega) ?_
  intro t7 k7
  k_steps
  refine Hold.mk ?_
  refine add_pad hz2' (by omega) ?_
  intro t8 k8
  k_steps
  refine Hold.mk ?_
  rename Fr h₀ _ _ _ => F4
  rename News h₀ _ _ _ => N4
  replace N4 := kst_newsOf (l' := (_, W.listOf #[.str lb tl] 0) :: news) N4 (fun p hp => (List.mem_cons.mp hp).elim (fun h => by rw [h]; exact .head _) fun h => .tail _ (.tail _ (.tail _ (.tail _ h))))
  refine' make_ok w mean mg mb news _ lb tl _ _ _ _ _ _ _ _ _ _ _ _ _ _ _ _ _ B F4 X N4 T rfl ?kd ?ku ?_
  case kd => ktr_room
  case ku => ktr_units
  intro xF dxF DF dlF gF oF hF tF nF h9 tk9 F9 N9 lF1 lF2 lF3 lF4 lF5 hcF
  clear F4 N4
  k_steps
  refine Hold.mk ?_
  rename Fr h₀ _ _ _ => F5
  rename News h₀ _ _ _ => N5
  refine' make_ok w mean mg mb _ _ nm t2 _ _ _ _ _ _ _ _ _ _ _ _ _ _ _ _ _ B F5 X N5 T rfl ?kd ?ku ?_
  case kd => ktr_room
  case ku => ktr_units
  intro xW dxW DW dlW gW oW hW tW nW h10 tk10 F10 N10 lW1 lW2 lW3 lW4 lW5 hcW
  clear F5 N5
  k_steps
  refine Hold.mk ?_
  rename Fr h₀ _ _ _ => F6
  rename News h₀ _ _ _ => N6
  replace N6 := kst_newsOf (l' := reader w gF dlF DF xF dxF oF hF tF nF lb tl (reader w gW dlW DW xW dxW oW hW tW nW nm t2 news)) N6 (by
    intro p hp
    simp only [List.mem_cons] at hp ⊢
    rcases hp with h | h | h | h | h | h | h | h | h | h | h <;> simp [h])
  with_unfolding_all refine For_invVF F6 rfl rfl ?_
  k_steps
  refine Hold.mk ?_
  rename IsRange _ _ _ _ _ _ _ _ => rg
  rename Fr h₀ _ _ _ => F7
  rename News h₀ _ _ _ => N7
  have hs0 : CacheOk lb [(Str.ofString "<string>", 1)] := ⟨by decide +kernel, fun p hp => by rw [List.mem_singleton.mp hp]; unfold fam; rw [if_pos (.inl rfl)]⟩
  have hs1 : CacheOk nm [(Str.ofString "<string>", 1)] := ⟨by decide +kernel, fun p hp => by rw [List.mem_singleton.mp hp]; unfold fam; rw [if_pos (.inl rfl)]⟩
  refine kst_range (n := 8) (fun c : Obj × List (Str × Int) × Obj × List (Str × Int) => reader w gF dlF DF xF dxF c.1 hF tF nF lb tl (reader w gW dlW DW xW dxW c.2.2.1 hW tW nW nm t2 news)) (fun _ => []) (fun _ => True) [Str.ofString "rest", Str.ofString "left", Str.ofString "both"]
    (fun pre c => (Cache w gF c.1 c.2.1 ∧ CacheOk lb c.2.1 ∧ c.2.1.length ≤ 1 + 6 * pre.length) ∧ (Cache w gW c.2.2.1 c.2.2.2 ∧ CacheOk nm c.2.2.2 ∧ c.2.2.2.length ≤ 1 + 6 * pre.length)) ⟨oF, _, oW, _⟩ rfl rg (by decide) (by rfl) F7 N7 trivial (fun _ h => nomatch h) ⟨⟨hcF, hs0, by simp⟩, hcW, hs1, by simp⟩ ?_ ?_
  · rintro ⟨oF1, cF1, oW1, cW1⟩ pre k tk1 u1 h11 tk11 own hk hlt hoff _ ⟨⟨p1, p2, p3⟩, p4, p5, p6⟩ F11 N11
    clear F7 N7 rg
    dsimp only at p1 p2 p3 p4 p5 p6 N11 F11
    have hpre : k = ((pre.length : Nat) : Int) := by omega
    subst hpre
    have c1 : dxF < gF := Nat.lt_trans lF2 (Nat.lt_trans lF3 (Nat.lt_trans lF4 lF5))
    have c2 : dxW < gW := Nat.lt_trans lW2 (Nat.lt_trans lW3 (Nat.lt_trans lW4 lW5))
    have c3 : ∀ p ∈ (gF, oF) :: (dlF, W.listOf #[] 0) :: (DF, oneSet w lb tl) :: (xF, instObj 86 dxF) :: (dxF, readerD hF tF DF dlF gF nF) :: _ :: news, p.1 < dxW := kst_ltOf lW1.2
    have c4 : gF < dxW := c3 _ (.head _)
    have c5 : ∀ p ∈ news, p.1 < dxF := kst_ltOf lF1.2
    obtain ⟨F12, q1⟩ := fr_seen7 (Str.ofString "amount") (Str.ofString "cell") (Str.ofString "name") (Str.ofString "ahead") (Str.ofString "behind") (Str.ofString "front") (Str.ofString "whole") F11 rfl rfl rfl rfl rfl rfl rfl
    have hso : Solid nm := by
      rw [hnm, hz1]
      rcases hlb with rfl | rfl <;> rcases hsc with rfl | rfl
      · exact ⟨9, 9, by decide +kernel, by decide, by decide +kernel, by decide⟩
      · exact ⟨9, 98, by decide +kernel, by decide, by decide +kernel, by decide⟩
      · exact ⟨98, 9, by decide +kernel, by decide, by decide +kernel, by decide⟩
      · exact ⟨98, 98, by decide +kernel, by decide, by decide +kernel, by decide⟩
    have hop : Opens lb := by
      rcases hlb with rfl | rfl
      · exact ⟨9, [97], by decide +kernel, by decide⟩
      · exact ⟨98, [32], by decide +kernel, by decide⟩
    have hneW : ∀ p ∈ (dlW, W.listOf #[] 0) :: (DW, oneSet w nm t2) :: (xW, instObj 86 dxW) :: (dxW, readerD hW tW DW dlW gW nW) :: (news ++ own), p.1 ≠ gW := by
      intro p hp
      simp only [List.mem_cons, List.mem_append] at hp
      rcases hp with h | h | h | h | h | h
      · rw [h]; exact Nat.ne_of_lt lW5
      · rw [h]; exact Nat.ne_of_lt (Nat.lt_trans lW4 lW5)
      · rw [h]; exact Nat.ne_of_lt (Nat.lt_trans lW3 (Nat.lt_trans lW4 lW5))
      · rw [h]; exact Nat.ne_of_lt c2
      · exact Nat.ne_of_lt (Nat.lt_trans (c5 p h) (Nat.lt_trans c1 (Nat.lt_trans c4 c2)))
      · exact hoff p h gW (.tail _ (.tail _ (.tail _ (.tail _ (.tail _ (.head _))))))
    have hneF : ∀ p ∈ (dlF, W.listOf #[] 0) :: (DF, oneSet w lb tl) :: (xF, instObj 86 dxF) :: (dxF, readerD hF tF DF dlF gF nF) :: reader w gW dlW DW xW dxW oW1 hW tW nW nm t2 (news ++ own), p.1 ≠ gF := by
      intro p hp
      simp only [List.mem_cons, List.mem_append] at hp
      rcases hp with h | h | h | h | h | h | h | h | h | h | h
      · rw [h]; exact Nat.ne_of_lt lF5
      · rw [h]; exact Nat.ne_of_lt (Nat.lt_trans lF4 lF5)
      · rw [h]; exact Nat.ne_of_lt (Nat.lt_trans lF3 (Nat.lt_trans lF4 lF5))
      · rw [h]; exact Nat.ne_of_lt c1
      · rw [h]; exact Nat.ne_of_gt (Nat.lt_trans c4 c2)
      · rw [h]; exact Nat.ne_of_gt (Nat.lt_trans c4 (Nat.lt_trans lW2 (Nat.lt_trans lW3 lW4)))
      · rw [h]; exact Nat.ne_of_gt (Nat.lt_trans c4 (Nat.lt_trans lW2 lW3))
      · rw [h]; exact Nat.ne_of_gt (Nat.lt_trans c4 lW2)
      · rw [h]; exact Nat.ne_of_gt c4
      · exact Nat.ne_of_lt (Nat.lt_trans (c5 p h) c1)
      · exact hoff p h gF (.head _)
    have hx : dlF ≠ gW ∧ DF ≠ gW ∧ xF ≠ gW ∧ dxF ≠ gW :=
      ⟨Nat.ne_of_lt (Nat.lt_trans (c3 _ (.tail _ (.head _))) c2), Nat.ne_of_lt (Nat.lt_trans (c3 _ (.tail _ (.tail _ (.head _)))) c2), Nat.ne_of_lt (Nat.lt_trans (c3 _ (.tail _ (.tail _ (.tail _ (.head _))))) c2), Nat.ne_of_lt (Nat.lt_trans (c3 _ (.tail _ (.tail _ (.tail _ (.tail _ (.head _)))))) c2)⟩
    refine inner_ok w mean mg mb h₀ L fa cd _ _ _ _ pre.length a b lb sc nm _ _ _ _ _ (news ++ own) gF dlF DF xF dxF oF1 hF tF nF tl cF1 gW dlW DW xW dxW oW1 hW tW nW t2 cW1 B F12 N11 T hlt ha4 hb4 hop hso (by rw [hnm, hz1]) (by omega) (by omega) hneF hneW hx p1 p2 (by omega) p4 p5 (by omega) X ?_
    intro oF' cF' oW' cW' h13 tk13 m13 F13 hm13 N13 d1 d2 d3 d4 d5 d6
    show InvEndN _ _ _ _ _ _ _
    refine kst_end ⟨oF', cF', oW', cW'⟩ F13 N13 ?_ ?_ rfl trivial (fun _ h => nomatch h) ?_ ?_
    · intro p hp
      simp only [List.mem_cons, List.mem_append] at hp ⊢
      rcases hp with h | h | h | h | h | h | h | h | h | h | h <;> simp [h]
    · intro p hp
      simp [hp]
    · intro z h1 _ h3
      simp only [List.contains_cons, List.contains_nil, Bool.or_false, Bool.or_eq_false_iff, beq_eq_false_iff_ne, ne_eq] at h3
      rw [hm13 z h3.1 h3.2.1 h3.2.2, q1]
      simp [h1, h3, kstB]
    · refine ⟨⟨d1, d2, ?_⟩, d4, d5, ?_⟩
      · rw [List.length_append]; simp only [List.length_cons, List.length_nil]; omega
      · rw [List.length_append]; simp only [List.length_cons, List.length_nil]; omega
  · rintro ⟨oF1, cF1, oW1, cW1⟩ u1 h11 tk11 _ _ F11 N11
    clear F7 N7 rg
    dsimp only at N11 F11
    k_steps
    refine hret _ _ _ F11 ?_ (kst_newsOf N11 (fun p hp => .tail _ (.tail _ (.tail _ (.tail _ (.tail _ (.tail _ (.tail _ (.tail _ (.tail _ (.tail _ hp)))))))))))
    intro z hz
    simp only [List.contains_cons, List.contains_nil, Bool.or_false, Bool.or_eq_false_iff, beq_eq_false_iff_ne, ne_eq] at hz
    simp [hz, kstB]
end Mine

local macro_rules | `(tactic| k_steps) => `(tactic| repeat' (first | (k_unfold; (try dsimp only)) | (k_end; kc_close) | walk1 | (dsimp only; walk1) | (leave1; (try dsimp only)) | fail "no step"))
local macro_rules | `(tactic| walk_at "exec For Name BinOp cons nil") => `(tactic| refine Mine.Hold.out ?_)
local macro_rules | `(tactic| walk_at "pyIter ref") => `(tactic| refine Mine.Hold.out ?_)
set_option maxRecDepth 100000 in
set_option maxHeartbeats 8000000 in
theorem PySem.Challenge.cw_ny0044_01_holds : PySem.Challenge.rw_ny0044_01.Holds := by
  refine Mine.hd ?_
  w_on; k_go0; (all_goals try k_fold)
  k_steps
  refine Mine.Hold.mk ?_
  rename Fr _ _ _ _ => F1
  with_unfolding_all refine For_invVF F1 rfl rfl ?_
  k_steps
  refine Mine.Hold.mk ?_
  rename Fr _ _ _ _ => F1
  rename News _ _ _ _ => N1
  with_unfolding_all refine kst_listL (fun _ : Unit => _) (fun _ => []) (fun _ => True) [Str.ofString "label", Str.ofString "name", Str.ofString "ahead", Str.ofString "behind", Str.ofString "cell", Str.ofString "front", Str.ofString "whole", Str.ofString "amount", Str.ofString "rest", Str.ofString "left", Str.ofString "both"] (fun _ _ => True) () rfl (fun _ => List.Mem.head _) (by assumption) F1 N1 trivial (by kst_all) trivial ?_ ?_
  · intro _ pre post x tx u h tk own _ hx hoff _ _ F2 N2
    clear F1 N1
    dsimp only at F2 N2
    rename Top _ _ _ _ _ _ => T
    rename Below _ _ _ _ => B
    rename Frag.In _ _ => X
    refine wpAny_mono (E := fun _ _ => False) ?_ (fun _ _ h => h) (fun _ _ h => h.elim)
    refine Mine.turn_ok _ _ _ _ _ _ _ _ _ _ _ _ _ _ B F2 N2 T X ?_
    intro h3 tk3 m3 F3 hm3 N3
    show InvEndN _ _ _ _ _ _ _
    refine kst_end () F3 N3 (fun p hp => List.mem_append.mpr (.inl hp)) (fun p hp => List.mem_append.mpr (.inr hp)) rfl trivial (fun _ h => nomatch h) ?_ trivial
    intro z h1 _ h3
    rw [hm3 z h3, if_neg h1]
    show (if List.contains _ z = true then u z else _) = _
    rw [h3]
    rfl
  · intro _ u h tk _ _ F2 N2
    clear F1 N1
    k_steps

